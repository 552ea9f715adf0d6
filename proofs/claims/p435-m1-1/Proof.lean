import JvmDerived
import JvmDerived.Pilot.@@N@@Statement
import JvmDerived.Pilot.@@N@@Code
set_option linter.unusedVariables false
set_option linter.unusedSimpArgs false
namespace Jvm.RoadKit
open Sem ClassFile Op Lib Jvm.Stand Jvm.Free Jvm.LawKit
section OwnKit
abbrev vI (x : Int32) : Slot := .val (.int x)
abbrev vR (a : Addr) : Slot := .val (.ref a)
variable {p : Program} {l : Launch} {e : Env} {R : Room} {s : State} {m : MethodId} {args : Array Value} {below : List Frame} {meth : Method} {c : Code} {T T' : State} {locs : List Loc} {cells slots : Nat} {g g' : JFrame} {P : State → Outcome → Prop} {Z : State} {h h' h2 : Heap} {a b : Addr} {sl : Nat} {v : Value}
def Rch (p : Program) (e : Env) (below : List Frame) (T : State) (g : JFrame) (P : State → Outcome → Prop) : Prop := ∃ s₂ o, Steps p.tables e below (T.setTop g) s₂ ∧ s₂.status = .running ∧ Ended s₂ below o ∧ P s₂ o
theorem Rch.st (st : ∀ t, Steps p.tables e below (T'.setTop g') t → Steps p.tables e below (T.setTop g) t) (r : Rch p e below T' g' P) : Rch p e below T g P := by
  obtain ⟨s₂, o, h1, h2⟩ := r
  exact ⟨s₂, o, st _ h1, h2⟩
theorem Rch.go (st : Steps p.tables e below (T.setTop g) (T'.setTop g')) (r : Rch p e below T' g' P) : Rch p e below T g P := Rch.st (fun _ k => st.trans k) r
theorem Rch.cast (q : g = g') (r : Rch p e below T g' P) : Rch p e below T g P := q ▸ r
theorem Rch.fin (X : Stand p l e R s m args below meth c T locs cells slots) {v : Option Value} (hv : meth.sig.returnType = none → v = none) (hlk : meth.locks = false) {Q : Option Value → Heap → List Loc → Prop} {k n : Nat}
    (hret : ∀ fs, (∀ (f : JFrame) (acts : List Action), f.method = m → f.locked = none → f.entered = [] → (doReturn e (T.setTop f) acts v).1 = T.setFrames fs) → Steps p.tables e below (T.setTop g) (T.setFrames fs))
    (hq : Q v T.heap locs) (hk : cells ≤ k) (hn : slots ≤ n) : Rch p e below T g (fun U o => ∃ v L, o = .returned v ∧ Q v U.heap L ∧ FrameEnd s o U L k n) := by
  obtain ⟨fs, hr, hrun, hended, hW, hsame⟩ := X.leave hv hlk
  exact ⟨_, _, hret fs hr, hrun, hended, _, _, rfl, hq, ⟨_, rfl⟩, hW, hsame.mono hk hn⟩
theorem Rch.finW {vm0 : Vm} {EL : List (String × Nat)} {a0 : Array Value} (X : Stand p l e R (s.setVm vm0) m args below meth c T locs cells slots) (hZ : Z.Warmed39 vm0) (hEL : EW Z a0 EL) {k0 : Nat} (hS : s.Since vm0 k0) (hk0 : k0 ≤ T.heap.size) (eT : T.heap = h) (hC : CHr Z EL s.vm s.heap vm0 h) {v : Option Value} (hv : meth.sig.returnType = none → v = none) (hlk : meth.locks = false) {Q : Option Value → Heap → List Loc → Prop} {k n : Nat}
    (hret : ∀ fs, (∀ (f : JFrame) (acts : List Action), f.method = m → f.locked = none → f.entered = [] → (doReturn e (T.setTop f) acts v).1 = T.setFrames fs) → Steps p.tables e below (T.setTop g) (T.setFrames fs))
    (hq : Q v T.heap locs) (hk : cells ≤ k) (hn : slots ≤ n) : Rch p e below T g (fun U o => ∃ v L, o = .returned v ∧ Q v U.heap L ∧ CHr Z EL s.vm s.heap U.vm U.heap ∧ ReturnedEndW s o U L k n) := by
  obtain ⟨fs, hr, hrun, hended, q1, q2, q3, q4⟩ := X.leaveW hS hk0 hv hlk
  subst eT
  exact ⟨_, _, hret fs hr, hrun, hended, _, _, rfl, hq, hC.trans (show CHr Z EL vm0 T.heap T.vm T.heap from CHv.at X hZ hEL hC.1), q1, q2, q3, q4.mono hk hn⟩
theorem retR (X : Stand p l e R s m args below meth c T locs cells slots) (hx : p.tables.exec = Jvm.exec) {pc : Nat} {Ls : Array Slot} {w : Value} {t : FieldType} {rest : List Value} (hret : meth.sig.returnType = some t) (ht : t.isReference = true) (hw : w.isRef = true) (hd : decode c.code pc = .ok (.areturn, 1)) {fs : List Frame}
    (hl : ∀ (f : JFrame) (acts : List Action), f.method = m → f.locked = none → f.entered = [] → (doReturn e (T.setTop f) acts (some w)).1 = T.setFrames fs) : Steps p.tables e below (T.setTop (mkF m pc Ls (w :: rest))) (T.setFrames fs) :=
  retOut X hx hret (by cases t <;> first | rfl | cases ht) (Or.inr (Or.inr (Or.inr (Or.inr ⟨rfl, ht, hw⟩)))) hd hl
theorem retI (X : Stand p l e R s m args below meth c T locs cells slots) (hx : p.tables.exec = Jvm.exec) {pc : Nat} {Ls : Array Slot} {z : Int32} {rest : List Value} (hret : meth.sig.returnType = some .int) (hd : decode c.code pc = .ok (.ireturn, 1)) {fs : List Frame}
    (hl : ∀ (f : JFrame) (acts : List Action), f.method = m → f.locked = none → f.entered = [] → (doReturn e (T.setTop f) acts (some (.int z))).1 = T.setFrames fs) : Steps p.tables e below (T.setTop (mkF m pc Ls (.int z :: rest))) (T.setFrames fs) :=
  retOut X hx hret rfl (Or.inl ⟨rfl, Or.inl rfl, _, rfl⟩) hd hl
theorem Ext.rf : Ext h h := ⟨Nat.le_refl _, fun _ _ q => q⟩
theorem Ext.tr (A : Ext h h') (B : Ext h' h2) : Ext h h2 := ⟨Nat.le_trans A.1 B.1, fun x c q => B.2 x c (A.2 x c q)⟩
theorem extKeep {ws : List Addr} (A : Ext h h') (K : Keep h' h2 ws) (q : ∀ x ∈ ws, h.size ≤ x) : Ext h h2 := ⟨Nat.le_trans A.1 K.1, fun x c r => K.2.1 x c (A.2 x c r) (fun z => absurd (Array.getElem?_eq_some_iff.mp r).1 (Nat.not_lt.mpr (q x z)))⟩
theorem extWr (A : Ext h h') (W : Wr h' h2 a sl v) (q : h.size ≤ a) : Ext h h2 := extKeep A (Keep.of_wr W) (allS q all0)
theorem extKeep1 (A : Ext h h') (K : Keep h' h2 [a]) (q : h.size ≤ a) : Ext h h2 := extKeep A K (allS q all0)
theorem Ext.keep (A : Ext h h') (ws : List Addr) : Keep h h' ws := ⟨A.1, fun x c q _ => A.2 x c q, fun x c q => ⟨c, A.2 x c q, rfl, rfl, rfl⟩⟩
theorem fr_app {k : Nat} {L L' : List Loc} (N : Fr k L) (N' : Fr k L') : Fr k (L ++ L') := Fr.app N N'
theorem stCv {n0 : Nat} (X : Stand p l e R s m args below meth c T locs cells slots) (hx : p.tables.exec = Jvm.exec) (hZ : Z.Warmed39 s.vm) (eT : T.heap = h) {k : ClassId} {z : Int32} {vs : List Value} (M : Arv Z h b k .char z vs (.int 0)) (N : Fr n0 locs) (hb : n0 ≤ b) {j x : Int32} (hj : ¬ j < 0 ∧ j < z) (i : Nat) (hi : j.toNatClampNeg = i) (hl : i < vs.length) {g : JFrame} (hg : g.method = m) {rest : List Value} (hs : g.stack = .int x :: .int j :: .ref b :: rest) (hd : decode c.code g.pc = .ok (.castore, 1)) :
    ∃ T' h' locs' sl, Stand p l e R s m args below meth c T' locs' cells slots ∧ T'.heap = h' ∧ Wr h h' b sl (.int (nar .char x)) ∧ Arv Z h' b k .char z (vs.set i (.int (nar .char x))) (.int 0) ∧ Fr n0 locs' ∧ ∀ target, Steps p.tables e below (T'.setTop { g with pc := g.pc + 1, stack := rest }) target → Steps p.tables e below (T.setTop g) target := by
  obtain ⟨cl, A, q1, S, q3, H, G⟩ := M
  obtain ⟨T', h', X', e', W, st⟩ := stC X hx hZ eT A (inb_of S hj) hg hs hd
  exact ⟨T', h', _, _, X', e', W, Arv.set A q1 S q3 H G (fits_nar_char _) W i hi hl, Fr.snoc X' N hb, st⟩
theorem aalA (X : Stand p l e R s m args below meth c T locs cells slots) (hx : p.tables.exec = Jvm.exec) (hZ : Z.Warmed39 s.vm) (eT : T.heap = h) {k : ClassId} {ty : FieldType} {z : Int32} {vs : List Value} {dv : Value} (M : Arh Z h b k ty z [] vs dv) (hr : ty.isReference = true) {j : Int32} (hj : ¬ j < 0 ∧ j < z) {v : Value} (hv : vs.getD j.toNatClampNeg dv = v) {g : JFrame} (hg : g.method = m) {rest : List Value} (hs : g.stack = .int j :: .ref b :: rest) (hd : decode c.code g.pc = .ok (.aaload, 1)) :
    ∀ target, Steps p.tables e below (T.setTop { g with pc := g.pc + 1, stack := v :: rest }) target → Steps p.tables e below (T.setTop g) target := by
  obtain ⟨cl, A, q1, S, q3, H, G⟩ := M
  exact fun t k => X.aaload hx (j := j) (v := v) (by rw [eT]; exact A.1) (State.isArrayOf_alike hZ.alike A.2.1) hr A.2.2 (inb_of S hj) (atH H (inb_of S hj) hv) hg hs hd _ k
theorem alenA (X : Stand p l e R s m args below meth c T locs cells slots) (hx : p.tables.exec = Jvm.exec) (hZ : Z.Warmed39 s.vm) (eT : T.heap = h) {k : ClassId} {ty : FieldType} {z : Int32} {hs' : List (Int32 × Value)} {vs : List Value} {dv : Value} (M : Arh Z h b k ty z hs' vs dv) {g : JFrame} (hg : g.method = m) {rest : List Value} (hs : g.stack = .ref b :: rest) (hd : decode c.code g.pc = .ok (.arraylength, 1)) :
    ∀ target, Steps p.tables e below (T.setTop { g with pc := g.pc + 1, stack := .int z :: rest }) target → Steps p.tables e below (T.setTop g) target := by
  obtain ⟨cl, A, q1, S, q3, H, G⟩ := M
  intro t k
  refine X.arraylength hx (by rw [eT]; exact A.1) (State.isArrayOf_alike hZ.alike A.2.1) hg hs hd _ ?_
  rw [len_of S q3]
  exact k
end OwnKit
section OwnStart
variable {args : Array Value} {s : State} {t u : Term} {a w : Addr} {cl : Cell}
theorem len_is {n : Int32} (ht : t.eval args s none [] s = some (.ref a)) (hc : s.heap[a]? = some cl) (h : (Cond.eq (.length t) (.int n)).value args s none s [] = some true) : cl.slots.size < 2 ^ 31 ∧ cl.slots.size.toInt32 = n := by
  obtain ⟨x, y, e1, e2, -⟩ := cmp_v (Or.inl h)
  obtain ⟨a', cell, h1, h2, rfl⟩ := Term.length_spec e1
  cases ht.symm.trans h1
  cases hc.symm.trans (State.arrayAt?_spec h2).1
  have q := gotT (Cond.eq_ints e1 (Term.int_eval n)) h
  refine ⟨?_, q⟩
  by_cases hl : cl.slots.size < 2 ^ 31
  · exact hl
  · simp [Term.eval, h1, h2, hl] at e1
theorem elem_ref {j : Int32} (ht : t.eval args s none [] s = some (.ref a)) (hu : u.eval args s none [] s = some (.ref w)) (hc : s.heap[a]? = some cl) (h : (Cond.eq (.elem t (.int j)) u).value args s none s [] = some true) : cl.slots[j.toNatClampNeg]? = some (.ref w) := by
  obtain ⟨x, y, e1, e2, k1, k2⟩ := cmp_v (Or.inl h)
  cases hu.symm.trans e2
  obtain ⟨-, q⟩ := elem_in e1 ht (Term.int_eval j) hc
  have hx : x.isRef = true := k2.2
  have := gotT (eq_R e1 e2 hx rfl) h
  rw [this] at q; exact q
theorem elem_int {j z : Int32} (ht : t.eval args s none [] s = some (.ref a)) (hc : s.heap[a]? = some cl) (h : (Cond.eq (.elem t (.int j)) (.int z)).value args s none s [] = some true) : cl.slots[j.toNatClampNeg]? = some (.int z) := by
  obtain ⟨x, y, e1, e2, k1, k2⟩ := cmp_v (Or.inl h)
  cases (Term.int_eval z).symm.trans e2
  obtain ⟨-, q⟩ := elem_in e1 ht (Term.int_eval j) hc
  obtain ⟨x', rfl⟩ := k2
  have := gotT (Cond.eq_ints e1 (Term.int_eval z)) h
  rw [this] at q; exact q
theorem fld_int {C n d : String} {z : Int32} (ht : t.eval args s none [] s = some (.ref a)) (h : (Cond.eq (.field t C n d) (.int z)).value args s none s [] = some true) : Fld s s.heap a C n d (.int z) := by
  obtain ⟨x, y, e1, e2, k1, k2⟩ := cmp_v (Or.inl h)
  cases (Term.int_eval z).symm.trans e2
  obtain ⟨x', rfl⟩ := k2
  have q := gotT (Cond.eq_ints e1 (Term.int_eval z)) h
  rw [q, fld_at ht] at e1
  exact Fld.start e1
theorem fld_refS {C n d : String} (ht : t.eval args s none [] s = some (.ref a)) (h : (Term.field t C n d).eval args s none [] s = some (.ref w)) : Fld s s.heap a C n d (.ref w) := by
  rw [fld_at ht] at h
  exact Fld.start h
end OwnStart
end Jvm.RoadKit
namespace Jvm.RoadKit
open Sem ClassFile Op Lib Jvm.Stand Jvm.Free Jvm.LawKit
section OwnKit2
variable {p : Program} {l : Launch} {e : Env} {R : Room} {s : State} {m : MethodId} {args : Array Value} {below : List Frame} {meth : Method} {c : Code} {T T' : State} {locs : List Loc} {cells slots : Nat} {Z : State} {h h' h2 : Heap} {a b : Addr} {sl : Nat} {v : Value}
theorem fits_nar_b (x : Int32) : fits .byte (.int (nar .byte x)) = true := fits_nar_byte x
theorem stBv {n0 : Nat} (X : Stand p l e R s m args below meth c T locs cells slots) (hx : p.tables.exec = Jvm.exec) (hZ : Z.Warmed39 s.vm) (eT : T.heap = h) {k : ClassId} {z : Int32} {vs : List Value} (M : Arv Z h b k .byte z vs (.int 0)) (N : Fr n0 locs) (hb : n0 ≤ b) {j x : Int32} (hj : ¬ j < 0 ∧ j < z) (i : Nat) (hi : j.toNatClampNeg = i) (hl : i < vs.length) {g : JFrame} (hg : g.method = m) {rest : List Value} (hs : g.stack = .int x :: .int j :: .ref b :: rest) (hd : decode c.code g.pc = .ok (.bastore, 1)) :
    ∃ T' h' locs' sl, Stand p l e R s m args below meth c T' locs' cells slots ∧ T'.heap = h' ∧ Wr h h' b sl (.int (nar .byte x)) ∧ Arv Z h' b k .byte z (vs.set i (.int (nar .byte x))) (.int 0) ∧ Fr n0 locs' ∧ ∀ target, Steps p.tables e below (T'.setTop { g with pc := g.pc + 1, stack := rest }) target → Steps p.tables e below (T.setTop g) target := by
  obtain ⟨cl, A, q1, S, q3, H, G⟩ := M
  obtain ⟨T', h', X', e', W, st⟩ := stB X hx hZ eT A (inb_of S hj) hg hs hd
  exact ⟨T', h', _, _, X', e', W, Arv.set A q1 S q3 H G (fits_nar_b _) W i hi hl, Fr.snoc X' N hb, st⟩
end OwnKit2
end Jvm.RoadKit
namespace Jvm.RoadKit
open Sem ClassFile Op Lib Bundle Jvm.Stand Jvm.Free Jvm.LawKit Jvm.Free.SB Jvm.Free.SBG
section OwnSafe
variable {Z : State} {EL : List (String × Nat)} {vm : Vm} {h : Heap}
/-- a String whose value is still null is no booked one -/
theorem Safe.blank {x : Addr} (hal : Z.vm.Alike vm) (E : Exa Z h x "java/lang/String") (F : Fld Z h x "java/lang/String" "value" "[B" .null) : Safe Z EL vm h x := fun B => by
  obtain ⟨p, -, u, a, -, q, -, G, rfl | rfl⟩ := B
  · obtain ⟨cell, cf, k, i, f, h1, h2, -, -, -, -, h7⟩ := F
    obtain ⟨cS, ⟨⟨s1, -, -, ⟨cv, kv, iv, s4, -⟩, -, -, -, s8, -⟩, -⟩, -⟩ := G
    cases h1.symm.trans (show h[q.sa]? = some q.sC from s1)
    obtain ⟨k3, e3, -⟩ := State.fieldFound?_setVm (s := Z) hal h2
    have e4 := (show (Wst Z vm h).fieldFound? _ _ _ = _ from e3).symm.trans s4
    simp only [Option.some.injEq, Prod.mk.injEq] at e4
    rw [← e4.2.2.2, h7] at s8
    cases s8
  · obtain ⟨cell, k, e1, e2, e3, -, -⟩ := E
    cases (show h[q.sd]? = some q.SA from G.hd).symm.trans e1
    obtain ⟨cS, -, -, f, -⟩ := G
    have f' : vm.findClass "[B" = some q.SA.cls := f
    rw [hal.findClass] at f'
    obtain ⟨k1, q1, q2⟩ := Vm.findClass_spec f'
    obtain ⟨k2, q3, q4⟩ := Vm.findClass_spec e2
    cases q1.symm.trans q3
    exact absurd (q2.symm.trans q4) (by decide)
end OwnSafe
end Jvm.RoadKit
namespace Jvm.RoadKit
open Sem ClassFile Op Lib Jvm.Stand Jvm.Free Jvm.LawKit
section OwnKit3
variable {p : Program} {l : Launch} {e : Env} {R : Room} {s : State} {m : MethodId} {args : Array Value} {below : List Frame} {meth : Method} {c : Code} {T T' : State} {locs : List Loc} {cells slots : Nat} {Z : State} {h h' h2 : Heap} {a b : Addr} {sl : Nat} {v : Value}
theorem balA (X : Stand p l e R s m args below meth c T locs cells slots) (hx : p.tables.exec = Jvm.exec) (hZ : Z.Warmed39 s.vm) (eT : T.heap = h) {k : ClassId} {z : Int32} {vs : List Value} {dv : Value} (M : Arv Z h b k .byte z vs dv) {j : Int32} (hj : ¬ j < 0 ∧ j < z) {v : Value} (hv : vs.getD j.toNatClampNeg dv = v) {g : JFrame} (hg : g.method = m) {rest : List Value} (hs : g.stack = .int j :: .ref b :: rest) (hd : decode c.code g.pc = .ok (.baload, 1)) :
    ∀ target, Steps p.tables e below (T.setTop { g with pc := g.pc + 1, stack := v :: rest }) target → Steps p.tables e below (T.setTop g) target := by
  obtain ⟨cl, A, q1, S, q3, H, G⟩ := M
  exact fun t k => X.baloadBytes hx (j := j) (v := v) (by rw [eT]; exact A.1) (State.isArrayOf_alike hZ.alike A.2.1) A.2.2 (inb_of S hj) (H.at (inb_of S hj) hv) hg hs hd _ k
theorem calA (X : Stand p l e R s m args below meth c T locs cells slots) (hx : p.tables.exec = Jvm.exec) (hZ : Z.Warmed39 s.vm) (eT : T.heap = h) {k : ClassId} {z : Int32} {vs : List Value} {dv : Value} (M : Arv Z h b k .char z vs dv) {j : Int32} (hj : ¬ j < 0 ∧ j < z) {v : Value} (hv : vs.getD j.toNatClampNeg dv = v) {g : JFrame} (hg : g.method = m) {rest : List Value} (hs : g.stack = .int j :: .ref b :: rest) (hd : decode c.code g.pc = .ok (.caload, 1)) :
    ∀ target, Steps p.tables e below (T.setTop { g with pc := g.pc + 1, stack := v :: rest }) target → Steps p.tables e below (T.setTop g) target := by
  obtain ⟨cl, A, q1, S, q3, H, G⟩ := M
  exact fun t k => X.caload hx (j := j) (v := v) (by rw [eT]; exact A.1) (State.isArrayOf_alike hZ.alike A.2.1) A.2.2 (inb_of S hj) (H.at (inb_of S hj) hv) hg hs hd _ k
theorem ofN_neg {n : Nat} (h : n < 2 ^ 31) : ¬ Int32.ofNat n < 0 := Int32.ofNat_not_neg h
theorem ofN_lt {i n : Nat} (h : i < n) (hn : n < 2 ^ 31) : Int32.ofNat i < Int32.ofNat n := by
  rw [Int32.lt_iff_toInt_lt, Int32.toInt_ofNat_small (show i < 2 ^ 31 by omega), Int32.toInt_ofNat_small hn]; omega
theorem ofN_le {i n : Nat} (h : n ≤ i) (hi : i < 2 ^ 31) : ¬ Int32.ofNat i < Int32.ofNat n := by
  rw [Int32.lt_iff_toInt_lt, Int32.toInt_ofNat_small hi, Int32.toInt_ofNat_small (show n < 2 ^ 31 by omega)]; omega
theorem ofN_clamp {n : Nat} (h : n < 2 ^ 31) : (Int32.ofNat n).toNatClampNeg = n := by
  show (Int32.ofNat n).toInt.toNat = n
  rw [Int32.toInt_ofNat_small h]; rfl
end OwnKit3
end Jvm.RoadKit
namespace Jvm.RoadKit
open Sem ClassFile Op Lib Jvm.Stand Jvm.Free Jvm.LawKit
theorem eval_int {args : Array Value} {s : State} {t : Term} {z : Int32} (h : (Cond.eq t (.int z)).value args s none s [] = some true) : t.eval args s none [] s = some (.int z) := by
  obtain ⟨x, y, e1, e2, k1, k2⟩ := cmp_v (Or.inl h)
  cases (Term.int_eval z).symm.trans e2
  obtain ⟨x', rfl⟩ := k2
  rw [gotT (Cond.eq_ints e1 (Term.int_eval z)) h] at e1
  exact e1
end Jvm.RoadKit
/- laws to paste: Road.backV, Road.lenW, Road.chN, Road.codOf, StrChars.pair_says, StrChars.shr1, StrChars.shr0, Road.wide_lo, Road.wide_hi, StrChars.narrow_ch (cut by pick.py; bodies as the Statement names them) -/
namespace Jvm.Pilot.@@N@@
namespace StrChars
open Jvm Sem ClassFile Op Lib Jvm.Stand Jvm.Free.XT Jvm.Free.ALB Jvm.Free.JM Jvm.Free
open Jvm.Lib.Cold (StaticIs)
/-- a char array whose places are chars -/
def Ch (a : Addr) (A : Cell) (U : State) : Prop := Arr .char a A U ∧ Typed .char A
theorem Ch.mv {a : Addr} {A : Cell} {U U' : State} (h : Ch a A U) (hal : U.vm.Alike U'.vm) (hh : U'.heap = U.heap) : Ch a A U' := ⟨h.1.mv hal hh, h.2⟩
theorem Ch.keep {a : Addr} {A : Cell} {U U' : State} (h : Ch a A U) (hal : U.vm.Alike U'.vm) (hk : U'.heap[a]? = some A) : Ch a A U' := ⟨h.1.keep hal hk, h.2⟩
/-- what place i of a char[]'s cell holds -/
def cv (A : Cell) (i : Nat) : Int32 := match A.slots[i]? with | some (.int x) => x | _ => 0
theorem Ch.get {a : Addr} {A : Cell} {U : State} (h : Ch a A U) {i : Nat} (hi : i < A.slots.size) : A.slots[i]? = some (.int (cv A i)) := by
  have e := Array.getElem?_eq_getElem hi
  have f := h.2 i _ e
  unfold cv; rw [e]
  generalize A.slots[i] = v at f
  cases v <;> simp [fits] at f ⊢
/-- the byte that i2b leaves of a char -/
def lo8 (x : Int32) : Int32 := x.toInt8.toInt32
theorem fits_lo8 (y : Int32) : fits .byte (.int (lo8 y)) = true := by
  have h1 := y.toInt8.le_toInt
  have h2 := y.toInt8.toInt_lt
  simp only [lo8, fits, Bool.and_eq_true, decide_eq_true_eq, Int32.le_iff_toInt_le, Int8.toInt_toInt32, show (-128 : Int32).toInt = -128 from by decide, show (127 : Int32).toInt = 127 from by decide]
  omega
/-- A' is A but that each place j of lo .. hi - 1 holds f j -/
def Laid (A A' : Cell) (lo hi : Nat) (f : Nat → Value) : Prop := A'.cls = A.cls ∧ A'.vm = A.vm ∧ A'.slots.size = A.slots.size ∧ ∀ i, A'.slots[i]? = if lo ≤ i ∧ i < hi then some (f i) else A.slots[i]?
theorem Laid.zero (A : Cell) (lo : Nat) (f : Nat → Value) : Laid A A lo (lo + 0) f := ⟨rfl, rfl, rfl, fun i => by rw [if_neg (by omega)]⟩
theorem Laid.step {A Ak : Cell} {lo k : Nat} {f : Nat → Value} {v : Value} (h : Laid A Ak lo k f) (hlo : lo ≤ k) (hk : k < Ak.slots.size) (hv : v = f k) : Laid A (Ak.setSlot k v) lo (k + 1) f := by
  refine ⟨h.1, h.2.1, by simpa [Cell.setSlot] using h.2.2.1, fun i => ?_⟩
  by_cases e : k = i
  · subst e; rw [Cell.slots_setSlot_self v hk, if_pos (by omega), hv]
  · rw [Cell.slots_setSlot_ne v e, h.2.2.2 i]
    by_cases q : lo ≤ i ∧ i < k
    · rw [if_pos q, if_pos (by omega)]
    · rw [if_neg q, if_neg (by omega)]
def U16 : String := "java/lang/StringUTF16"
namespace Cmp5
def yN : MethodName := ⟨"java/lang/StringUTF16", "compress", "([CI[BII)I"⟩
abbrev yB : ByteArray := jdk_52_method_21_code
theorem d0 : decode yB 0 = .ok (.iconst 0, 1) := by decide +kernel
theorem d1 : decode yB 1 = .ok (.istore 5, 2) := by decide +kernel
theorem d3 : decode yB 3 = .ok (.iload 5, 2) := by decide +kernel
theorem d5 : decode yB 5 = .ok (.iload 4, 2) := by decide +kernel
theorem d7 : decode yB 7 = .ok (.if_icmp (.ge) 37, 3) := by decide +kernel
theorem d10 : decode yB 10 = .ok (.aload_n 0, 1) := by decide +kernel
theorem d11 : decode yB 11 = .ok (.iload_n 1, 1) := by decide +kernel
theorem d12 : decode yB 12 = .ok (.caload, 1) := by decide +kernel
theorem d13 : decode yB 13 = .ok (.istore 6, 2) := by decide +kernel
theorem d15 : decode yB 15 = .ok (.iload 6, 2) := by decide +kernel
theorem d17 : decode yB 17 = .ok (.sipush 255, 3) := by decide +kernel
theorem d20 : decode yB 20 = .ok (.if_icmp (.le) 6, 3) := by decide +kernel
theorem d26 : decode yB 26 = .ok (.aload_n 2, 1) := by decide +kernel
theorem d27 : decode yB 27 = .ok (.iload_n 3, 1) := by decide +kernel
theorem d28 : decode yB 28 = .ok (.iload 6, 2) := by decide +kernel
theorem d30 : decode yB 30 = .ok (.i2b, 1) := by decide +kernel
theorem d31 : decode yB 31 = .ok (.bastore, 1) := by decide +kernel
theorem d32 : decode yB 32 = .ok (.iinc 1 1, 3) := by decide +kernel
theorem d35 : decode yB 35 = .ok (.iinc 3 1, 3) := by decide +kernel
theorem d38 : decode yB 38 = .ok (.iinc 5 1, 3) := by decide +kernel
theorem d41 : decode yB 41 = .ok (.goto (-38), 3) := by decide +kernel
theorem d44 : decode yB 44 = .ok (.iload 4, 2) := by decide +kernel
theorem d46 : decode yB 46 = .ok (.ireturn, 1) := by decide +kernel
def site : List Cond := []
def tab : Cond := tabOf yN yB 7 (some .int) site
def P (b : Addr) (A : Cell) (d : Addr) (B : Cell) (o q len : Nat) (args : Array Value) (s : State) : Prop := args = #[.ref b, .int (Int32.ofNat o), .ref d, .int (Int32.ofNat q), .int (Int32.ofNat len)] ∧ Ch b A s ∧ Arr .byte d B s ∧ b ≠ d ∧ o + len ≤ A.slots.size ∧ q + len ≤ B.slots.size ∧ ∀ i, i < len → ¬ 255 < cv A (o + i)
def E (b : Addr) (A : Cell) (d : Addr) (B : Cell) (o q len : Nat) (r : Option Value) (s u : State) : Prop := r = some (.int (Int32.ofNat len)) ∧ ∃ B', Put d B' s u ∧ Laid B B' q (q + len) (fun j => Value.int (lo8 (cv A (o + (j - q)))))
/-- no char of the range above 255: len; the places written hold each char's low byte -/
theorem law (l : Launch) (b : Addr) (A : Cell) (d : Addr) (B : Cell) (o q len : Nat) : Law l yN 5 5 0 0 yB 7 (some .int) site (P b A d B o q len) (E b A d B o q len) (copyLocs d q len) 0 0 := by
  refine Law.of_walk (plainFor_of_name (by decide +kernel)) (by decide +kernel) (by decide +kernel) (by decide) (fun _ _ h => by rw [h.1]; rfl) (fun _ U U' hal hh h => ⟨h.1, h.2.1.mv hal hh, h.2.2.1.mv hal hh, h.2.2.2⟩) (fun r U U' V V' h1 hal h2 h => ⟨h.1, h.2.elim fun B' q => ⟨B', q.1.mv h1 h2, q.2⟩⟩) ?_
  intro p e s m args below meth c s₁ X0 hexec hbytes hml hret hlk hnm hown hh0 W hP
  obtain ⟨rfl, hA, hB, hne, l1, l2, hp⟩ := hP
  have c1 : Steps p.tables e below (s₁.setTop (entryFrame m #[.ref b, .int (Int32.ofNat o), .ref d, .int (Int32.ofNat q), .int (Int32.ofNat len)] 7)) (s₁.setTop (mkF m 0 #[.val (.ref b), .val (.int (Int32.ofNat o)), .val (.ref d), .val (.int (Int32.ofNat q)), .val (.int (Int32.ofNat len)), .unset, .unset] [])) := entry rfl
  have hA0 := hA.1.mv X0.warmed.alike hh0
  have hB0 := hB.mv X0.warmed.alike hh0
  have a31 := hA.1.2.2.2
  have c2 : Steps p.tables e below (s₁.setTop (entryFrame m #[.ref b, .int (Int32.ofNat o), .ref d, .int (Int32.ofNat q), .int (Int32.ofNat len)] 7)) (s₁.setTop (mkF m 3 #[.val (.ref b), .val (.int (Int32.ofNat o)), .val (.ref d), .val (.int (Int32.ofNat q)), .val (.int (Int32.ofNat len)), .val (.int 0), .unset] [])) := c1.trans (by
    refine iconstV X0.here hexec rfl 0 (hb hbytes d0) (by decide) ?_
    refine XS.istore X0.here hexec rfl (hb hbytes d1) rfl rfl ?_
    exact Steps.refl _)
  have loop : ∀ (r i : Nat), i + r = len → ∀ (z : Slot), (z = .unset ∨ ∃ w, z = .val w ∧ w.category = 1) → ∀ (Tl : State) (Bk : Cell), Stand p l e { frames := 0, locals := 0, cells := 0, slots := 0 } s m #[.ref b, .int (Int32.ofNat o), .ref d, .int (Int32.ofNat q), .int (Int32.ofNat len)] below meth c Tl ([] ++ copyLocs d q i) 0 0 → Put d Bk s₁ Tl → Laid B Bk q (q + i) (fun j => Value.int (lo8 (cv A (o + (j - q))))) →
      Steps p.tables e below (s₁.setTop (entryFrame m #[.ref b, .int (Int32.ofNat o), .ref d, .int (Int32.ofNat q), .int (Int32.ofNat len)] 7)) (Tl.setTop (mkF m 3 #[.val (.ref b), .val (.int (Int32.ofNat (o + i))), .val (.ref d), .val (.int (Int32.ofNat (q + i))), .val (.int (Int32.ofNat len)), .val (.int (Int32.ofNat i)), z] [])) → ∃ (T' : State) (B' : Cell) (z' : Slot), Stand p l e { frames := 0, locals := 0, cells := 0, slots := 0 } s m #[.ref b, .int (Int32.ofNat o), .ref d, .int (Int32.ofNat q), .int (Int32.ofNat len)] below meth c T' ([] ++ copyLocs d q len) 0 0 ∧ Put d B' s₁ T' ∧ Laid B B' q (q + len) (fun j => Value.int (lo8 (cv A (o + (j - q))))) ∧
      Steps p.tables e below (s₁.setTop (entryFrame m #[.ref b, .int (Int32.ofNat o), .ref d, .int (Int32.ofNat q), .int (Int32.ofNat len)] 7)) (T'.setTop (mkF m 3 #[.val (.ref b), .val (.int (Int32.ofNat (o + len))), .val (.ref d), .val (.int (Int32.ofNat (q + len))), .val (.int (Int32.ofNat len)), .val (.int (Int32.ofNat len)), z'] [])) := by
    intro r
    induction r with
    | zero =>
      intro i hi z hz Tl Bk Xl pl fl cl
      have hil : i = len := by omega
      rw [hil] at Xl fl cl
      exact ⟨Tl, Bk, z, Xl, pl, fl, cl⟩
    | succ r ih =>
      intro i hi z hz Tl Bk Xl pl fl cl
      have all := X0.warmed.alike.symm.trans Xl.warmed.alike
      have hAl := hA0.keep all (pl.other hne hA0.1)
      have hBk := hB0.like all pl.1 fl.1 fl.2.1 fl.2.2.1
      have hlt : q + i < Bk.slots.size := by rw [fl.2.2.1]; omega
      have c3 : Steps p.tables e below (s₁.setTop (entryFrame m #[.ref b, .int (Int32.ofNat o), .ref d, .int (Int32.ofNat q), .int (Int32.ofNat len)] 7)) (Tl.setTop (mkF m 12 #[.val (.ref b), .val (.int (Int32.ofNat (o + i))), .val (.ref d), .val (.int (Int32.ofNat (q + i))), .val (.int (Int32.ofNat len)), .val (.int (Int32.ofNat i)), z] [.int (Int32.ofNat (o + i)), .ref b])) := cl.trans (by
        refine XS.iload Xl.here hexec rfl (hb hbytes d3) rfl ?_
        refine XS.iload Xl.here hexec rfl (hb hbytes d5) rfl ?_
        refine XS.icmpNo Xl.here hexec rfl (hb hbytes d7) rfl (ii_ge_f (lt32 (by omega) (by omega))) ?_
        refine XS.aloadN Xl.here hexec rfl (hb hbytes d10) rfl rfl ?_
        refine XS.iloadN Xl.here hexec rfl (hb hbytes d11) rfl ?_
        exact Steps.refl _)
      have c4 : Steps p.tables e below (s₁.setTop (entryFrame m #[.ref b, .int (Int32.ofNat o), .ref d, .int (Int32.ofNat q), .int (Int32.ofNat len)] 7)) (Tl.setTop (mkF m 13 #[.val (.ref b), .val (.int (Int32.ofNat (o + i))), .val (.ref d), .val (.int (Int32.ofNat (q + i))), .val (.int (Int32.ofNat len)), .val (.int (Int32.ofNat i)), z] [.int (cv A (o + i))])) := c3.trans (by
        refine Xl.aget hexec hAl rfl (hA.get (i := o + i) (by omega)) rfl rfl (hb hbytes d12) ?_
        exact Steps.refl _)
      have c5 : Steps p.tables e below (s₁.setTop (entryFrame m #[.ref b, .int (Int32.ofNat o), .ref d, .int (Int32.ofNat q), .int (Int32.ofNat len)] 7)) (Tl.setTop (mkF m 15 #[.val (.ref b), .val (.int (Int32.ofNat (o + i))), .val (.ref d), .val (.int (Int32.ofNat (q + i))), .val (.int (Int32.ofNat len)), .val (.int (Int32.ofNat i)), .val (.int (cv A (o + i)))] [])) := c4.trans (by
        refine XS.istoreS Xl.here hexec rfl (hb hbytes d13) rfl rfl hz ?_
        exact Steps.refl _)
      have c6 : Steps p.tables e below (s₁.setTop (entryFrame m #[.ref b, .int (Int32.ofNat o), .ref d, .int (Int32.ofNat q), .int (Int32.ofNat len)] 7)) (Tl.setTop (mkF m 31 #[.val (.ref b), .val (.int (Int32.ofNat (o + i))), .val (.ref d), .val (.int (Int32.ofNat (q + i))), .val (.int (Int32.ofNat len)), .val (.int (Int32.ofNat i)), .val (.int (cv A (o + i)))] [.int (lo8 (cv A (o + i))), .int (Int32.ofNat (q + i)), .ref d])) := c5.trans (by
        refine XS.iload Xl.here hexec rfl (hb hbytes d15) rfl ?_
        refine sipushV Xl.here hexec rfl 255 (hb hbytes d17) (by decide) ?_
        refine XS.icmpYes Xl.here hexec rfl (pc0 := 20) rfl (hb hbytes d20) rfl (ii_le_t (hp i (by omega))) (by decide) rfl ?_
        refine XS.aloadN Xl.here hexec rfl (hb hbytes d26) rfl rfl ?_
        refine XS.iloadN Xl.here hexec rfl (hb hbytes d27) rfl ?_
        refine XS.iload Xl.here hexec rfl (hb hbytes d28) rfl ?_
        refine i2b Xl.here hexec rfl (hb hbytes d30) rfl ?_
        exact Steps.refl _)
      obtain ⟨T7, X7, p7, st7⟩ := Xl.aput hexec hBk rfl hlt rfl (fits_lo8 (cv A (o + i))) (g := (mkF m 31 #[.val (.ref b), .val (.int (Int32.ofNat (o + i))), .val (.ref d), .val (.int (Int32.ofNat (q + i))), .val (.int (Int32.ofNat len)), .val (.int (Int32.ofNat i)), .val (.int (cv A (o + i)))] [.int (lo8 (cv A (o + i))), .int (Int32.ofNat (q + i)), .ref d])) rfl (rest := []) rfl (hb hbytes d31)
      have c8 : Steps p.tables e below (s₁.setTop (entryFrame m #[.ref b, .int (Int32.ofNat o), .ref d, .int (Int32.ofNat q), .int (Int32.ofNat len)] 7)) (T7.setTop (mkF m 32 #[.val (.ref b), .val (.int (Int32.ofNat (o + i))), .val (.ref d), .val (.int (Int32.ofNat (q + i))), .val (.int (Int32.ofNat len)), .val (.int (Int32.ofNat i)), .val (.int (cv A (o + i)))] [])) := c6.trans (st7 _ (Steps.refl _))
      have c9 : Steps p.tables e below (s₁.setTop (entryFrame m #[.ref b, .int (Int32.ofNat o), .ref d, .int (Int32.ofNat q), .int (Int32.ofNat len)] 7)) (T7.setTop (mkF m 3 #[.val (.ref b), .val (.int (Int32.ofNat (o + i) + 1)), .val (.ref d), .val (.int (Int32.ofNat (q + i) + 1)), .val (.int (Int32.ofNat len)), .val (.int (Int32.ofNat i + 1)), .val (.int (cv A (o + i)))] [])) := c8.trans (by
        refine iincV X7.here hexec rfl 1 (hb hbytes d32) (by decide) rfl rfl ?_
        refine iincV X7.here hexec rfl 1 (hb hbytes d35) (by decide) rfl rfl ?_
        refine iincV X7.here hexec rfl 1 (hb hbytes d38) (by decide) rfl rfl ?_
        refine XS.goto X7.here hexec rfl (pc0 := 41) rfl (hb hbytes d41) (by decide) rfl ?_
        exact Steps.refl _)
      have c10 : Steps p.tables e below (s₁.setTop (entryFrame m #[.ref b, .int (Int32.ofNat o), .ref d, .int (Int32.ofNat q), .int (Int32.ofNat len)] 7)) (T7.setTop (mkF m 3 #[.val (.ref b), .val (.int (Int32.ofNat (o + (i + 1)))), .val (.ref d), .val (.int (Int32.ofNat (q + (i + 1)))), .val (.int (Int32.ofNat len)), .val (.int (Int32.ofNat (i + 1))), .val (.int (cv A (o + i)))] [])) := by
        have := c9
        rw [succ32, succ32, succ32] at this
        exact this
      exact ih (i + 1) (by omega) _ (Or.inr ⟨_, rfl, rfl⟩) T7 _ (by rw [copyLocs_step, ← List.append_assoc]; exact X7) (pl.trans p7) (fl.step (by omega) hlt (by simp)) c10
  obtain ⟨T9, B9, z9, X9, p9, f9, g9⟩ := loop len 0 (by omega) .unset (Or.inl rfl) s₁ B (by simpa [copyLocs] using X0) ⟨hB0.1, fun _ _ => rfl, rfl⟩ (Laid.zero _ _ _) c2
  have c11 : Steps p.tables e below (s₁.setTop (entryFrame m #[.ref b, .int (Int32.ofNat o), .ref d, .int (Int32.ofNat q), .int (Int32.ofNat len)] 7)) (T9.setTop (mkF m 46 #[.val (.ref b), .val (.int (Int32.ofNat (o + len))), .val (.ref d), .val (.int (Int32.ofNat (q + len))), .val (.int (Int32.ofNat len)), .val (.int (Int32.ofNat len)), z9] [.int (Int32.ofNat len)])) := g9.trans (by
    refine XS.iload X9.here hexec rfl (hb hbytes d3) rfl ?_
    refine XS.iload X9.here hexec rfl (hb hbytes d5) rfl ?_
    refine XS.icmpYes X9.here hexec rfl (pc0 := 7) rfl (hb hbytes d7) rfl (ii_ge_t (nlt32 (by omega) (Nat.le_refl _))) (by decide) rfl ?_
    refine XS.iload X9.here hexec rfl (hb hbytes d44) rfl ?_
    exact Steps.refl _)
  exact ⟨T9, some (.int (Int32.ofNat len)), _, _, _, X9, by simp, rfl, rfl, (fun h => by cases h), ⟨rfl, B9, p9.from hh0, f9⟩, fun fs hl => c11.trans (X9.ireturnOut hexec hret rfl (Or.inl rfl) (hb hbytes d46) hl)⟩
end Cmp5
namespace Cmp3
def yN : MethodName := ⟨"java/lang/StringUTF16", "compress", "([CII)[B"⟩
abbrev yB : ByteArray := jdk_52_method_16_code
theorem d0 : decode yB 0 = .ok (.iload_n 2, 1) := by decide +kernel
theorem d1 : decode yB 1 = .ok (.newarray .byte, 2) := by decide +kernel
theorem d3 : decode yB 3 = .ok (.astore_n 3, 1) := by decide +kernel
theorem d4 : decode yB 4 = .ok (.aload_n 0, 1) := by decide +kernel
theorem d5 : decode yB 5 = .ok (.iload_n 1, 1) := by decide +kernel
theorem d6 : decode yB 6 = .ok (.aload_n 3, 1) := by decide +kernel
theorem d7 : decode yB 7 = .ok (.iconst 0, 1) := by decide +kernel
theorem d8 : decode yB 8 = .ok (.iload_n 2, 1) := by decide +kernel
theorem d9 : decode yB 9 = .ok (.invokestatic 115, 3) := by decide +kernel
theorem d12 : decode yB 12 = .ok (.istore 4, 2) := by decide +kernel
theorem d14 : decode yB 14 = .ok (.iload 4, 2) := by decide +kernel
theorem d16 : decode yB 16 = .ok (.iload_n 2, 1) := by decide +kernel
theorem d17 : decode yB 17 = .ok (.if_icmp (.eq) 40, 3) := by decide +kernel
theorem d57 : decode yB 57 = .ok (.aload_n 3, 1) := by decide +kernel
theorem d58 : decode yB 58 = .ok (.areturn, 1) := by decide +kernel
def site : List Cond := [.arrayClass .byte, Cmp5.tab] ++ staticW U16 115 Cmp5.yN
def tab : Cond := tabOf yN yB 6 (some (.array .byte)) site
def P (b : Addr) (A : Cell) (o len : Nat) (args : Array Value) (s : State) : Prop := args = #[.ref b, .int (Int32.ofNat o), .int (Int32.ofNat len)] ∧ Ch b A s ∧ o + len ≤ A.slots.size ∧ len ≤ 536870912 ∧ ∀ i, i < len → ¬ 255 < cv A (o + i)
def E (b : Addr) (A : Cell) (o len : Nat) (r : Option Value) (s u : State) : Prop := NewArr .byte "[B" len (fun j => .int (lo8 (cv A (o + j)))) r s u ∧ u.heap.size = s.heap.size + 1
/-- no char of the range above 255: a new byte[] of their low bytes -/
theorem law (l : Launch) (b : Addr) (A : Cell) (o len : Nat) : Law l yN 3 3 1 18 yB 6 (some (.array .byte)) site (P b A o len) (E b A o len) [] 1 len := by
  refine Law.of_walk (plainFor_of_name (by decide +kernel)) (by decide +kernel) (by decide +kernel) (by decide) (fun _ _ h => by rw [h.1]; rfl) (fun _ U U' hal hh h => ⟨h.1, h.2.1.mv hal hh, h.2.2⟩) (fun r U U' V V' h1 hal h2 h => ⟨NewArr.mv r U U' V V' h1 hal h2 h.1, by rw [h1, h2]; exact h.2⟩) ?_
  intro p e s m args below meth c s₁ X0 hexec hbytes hml hret hlk hnm hown hh0 W hP
  obtain ⟨rfl, hA, l1, l2, hp⟩ := hP
  have a31 := hA.1.2.2.2
  have c1 : Steps p.tables e below (s₁.setTop (entryFrame m #[.ref b, .int (Int32.ofNat o), .int (Int32.ofNat len)] 6)) (s₁.setTop (mkF m 0 #[.val (.ref b), .val (.int (Int32.ofNat o)), .val (.int (Int32.ofNat len)), .unset, .unset, .unset] [])) := entry rfl
  have c2 : Steps p.tables e below (s₁.setTop (entryFrame m #[.ref b, .int (Int32.ofNat o), .int (Int32.ofNat len)] 6)) (s₁.setTop (mkF m 1 #[.val (.ref b), .val (.int (Int32.ofNat o)), .val (.int (Int32.ofNat len)), .unset, .unset, .unset] [.int (Int32.ofNat len)])) := c1.trans (by
    refine XS.iloadN X0.here hexec rfl (hb hbytes d0) rfl ?_
    exact Steps.refl _)
  obtain ⟨T3, B3, X3, ba3, bs3, bv3, bh3, bf3, st3⟩ := X0.anew hexec (atype := .byte) (wk W (.arrayClass .byte)) rfl (by show len * 1 ≤ _; omega) (by omega) (g := (mkF m 1 #[.val (.ref b), .val (.int (Int32.ofNat o)), .val (.int (Int32.ofNat len)), .unset, .unset, .unset] [.int (Int32.ofNat len)])) rfl (hb hbytes d1) (rest := []) rfl (Nat.le_refl _) (by show 0 + len ≤ len; omega)
  rw [hh0] at ba3 st3
  have kp3 : XT.Kept s T3 := (XT.Kept.of_eq hh0).push bh3
  have hA3 := hA.keep X3.warmed.alike (kp3 _ _ hA.1.1)
  have hne : b ≠ s.heap.size := hA.1.ne
  have c4 : Steps p.tables e below (s₁.setTop (entryFrame m #[.ref b, .int (Int32.ofNat o), .int (Int32.ofNat len)] 6)) (T3.setTop (mkF m 3 #[.val (.ref b), .val (.int (Int32.ofNat o)), .val (.int (Int32.ofNat len)), .unset, .unset, .unset] [.ref s.heap.size])) := c2.trans (st3 _ (Steps.refl _))
  have c5 : Steps p.tables e below (s₁.setTop (entryFrame m #[.ref b, .int (Int32.ofNat o), .int (Int32.ofNat len)] 6)) (T3.setTop (mkF m 9 #[.val (.ref b), .val (.int (Int32.ofNat o)), .val (.int (Int32.ofNat len)), .val (.ref s.heap.size), .unset, .unset] [.int (Int32.ofNat len), .int 0, .ref s.heap.size, .int (Int32.ofNat o), .ref b])) := c4.trans (by
    refine XS.astoreN X3.here hexec rfl (hb hbytes d3) rfl rfl rfl ?_
    refine XS.aloadN X3.here hexec rfl (hb hbytes d4) rfl rfl ?_
    refine XS.iloadN X3.here hexec rfl (hb hbytes d5) rfl ?_
    refine XS.aloadN X3.here hexec rfl (hb hbytes d6) rfl rfl ?_
    refine iconstV X3.here hexec rfl 0 (hb hbytes d7) (by decide) ?_
    refine XS.iloadN X3.here hexec rfl (hb hbytes d8) rfl ?_
    exact Steps.refl _)
  obtain ⟨v6, T6, X6, E6, g6⟩ := X3.callS hexec (Cmp5.law l b A s.heap.size B3 o 0 len) hown (wks W (staticW U16 115 Cmp5.yN)) (wk W Cmp5.tab) (W := 0) (Nat.le_of_ble_eq_true rfl) (Nat.le_of_ble_eq_true rfl) (Nat.le_refl _) (by show 0 + len + 0 ≤ len; omega) (g := (mkF m 9 #[.val (.ref b), .val (.int (Int32.ofNat o)), .val (.int (Int32.ofNat len)), .val (.ref s.heap.size), .unset, .unset] [.int (Int32.ofNat len), .int (Int32.ofNat 0), .ref s.heap.size, .int (Int32.ofNat o), .ref b])) rfl (by rw [hml]; rfl) c5 (argsL := [.ref b, .int (Int32.ofNat o), .ref s.heap.size, .int (Int32.ofNat 0), .int (Int32.ofNat len)]) (rest := []) rfl rfl (by show 2 * 0 + 0 ≤ _; decide) (hb hbytes d9) (⟨rfl, hA3, ba3, hne, l1, by rw [bs3]; simp, hp⟩)
  obtain ⟨rfl, B6, p6, f6⟩ := E6
  have c7 : Steps p.tables e below (s₁.setTop (entryFrame m #[.ref b, .int (Int32.ofNat o), .int (Int32.ofNat len)] 6)) (T6.setTop (mkF m 12 #[.val (.ref b), .val (.int (Int32.ofNat o)), .val (.int (Int32.ofNat len)), .val (.ref s.heap.size), .unset, .unset] [.int (Int32.ofNat len)])) := g6
  have c8 : Steps p.tables e below (s₁.setTop (entryFrame m #[.ref b, .int (Int32.ofNat o), .int (Int32.ofNat len)] 6)) (T6.setTop (mkF m 58 #[.val (.ref b), .val (.int (Int32.ofNat o)), .val (.int (Int32.ofNat len)), .val (.ref s.heap.size), .val (.int (Int32.ofNat len)), .unset] [.ref s.heap.size])) := c7.trans (by
    refine XS.istore X6.here hexec rfl (hb hbytes d12) rfl rfl ?_
    refine XS.iload X6.here hexec rfl (hb hbytes d14) rfl ?_
    refine XS.iloadN X6.here hexec rfl (hb hbytes d16) rfl ?_
    refine XS.icmpYes X6.here hexec rfl (pc0 := 17) rfl (hb hbytes d17) rfl (ii_eq_t rfl) (by decide) rfl ?_
    refine XS.aloadN X6.here hexec rfl (hb hbytes d57) rfl rfl ?_
    exact Steps.refl _)
  have X8 := X6.wide (L' := []) (cells' := 1) (slots' := len) (fun x hx hlt => by
    simp only [List.nil_append, copyLocs, List.mem_map, List.mem_range] at hx
    obtain ⟨i, -, rfl⟩ := hx
    exact absurd hlt (Nat.lt_irrefl _)) (Nat.le_refl _) (by omega)
  exact ⟨T6, some (.ref s.heap.size), _, _, _, X8, rfl, rfl, rfl, (fun h => by cases h), ⟨⟨rfl, B6, ba3.like (X3.warmed.alike.symm.trans X6.warmed.alike) p6.1 f6.1 f6.2.1 f6.2.2.1, f6.2.1.trans bv3, by rw [X6.warmed.alike.findClass, f6.1]; exact bf3, by rw [f6.2.2.1, bs3]; simp, fun j hj => by rw [f6.2.2.2 j, if_pos (by omega)]; rfl, kp3.put p6 (Nat.le_refl _)⟩, by rw [p6.2.2, bh3, hh0]; simp⟩, fun fs hl => c8.trans (X8.areturnOut hexec rfl hret rfl (hb hbytes d58) hl)⟩
end Cmp3
namespace CodL
def yN : MethodName := ⟨"java/lang/StringUTF16", "coderFromArrayLen", "([BI)B"⟩
abbrev yB : ByteArray := jdk_52_method_15_code
theorem d0 : decode yB 0 = .ok (.iload_n 1, 1) := by decide +kernel
theorem d1 : decode yB 1 = .ok (.aload_n 0, 1) := by decide +kernel
theorem d2 : decode yB 2 = .ok (.arraylength, 1) := by decide +kernel
theorem d3 : decode yB 3 = .ok (.isub, 1) := by decide +kernel
theorem d4 : decode yB 4 = .ok (.bipush 31, 2) := by decide +kernel
theorem d6 : decode yB 6 = .ok (.iushr, 1) := by decide +kernel
theorem d7 : decode yB 7 = .ok (.i2b, 1) := by decide +kernel
theorem d8 : decode yB 8 = .ok (.ireturn, 1) := by decide +kernel
def site : List Cond := []
def tab : Cond := tabOf yN yB 2 (some .byte) site
def P (d : Addr) (B : Cell) (args : Array Value) (s : State) : Prop := args = #[.ref d, .int (Int32.ofNat B.slots.size)] ∧ Arr .byte d B s
def E (r : Option Value) (s u : State) : Prop := XT.PureE (some (.int 0)) r s u
/-- an array as long as the number of chars: LATIN1 -/
theorem law (l : Launch) (d : Addr) (B : Cell) : Law l yN 2 2 0 0 yB 2 (some .byte) site (P d B) E [] 0 0 := by
  refine Law.of_walk (plainFor_of_name (by decide +kernel)) (by decide +kernel) (by decide +kernel) (by decide) (fun _ _ h => by rw [h.1]; rfl) (fun _ U U' hal hh h => ⟨h.1, h.2.mv hal hh⟩) (fun r U U' V V' h1 hal h2 h => XT.PureE.mv r U U' V V' h1 hal h2 h) ?_
  intro p e s m args below meth c s₁ X0 hexec hbytes hml hret hlk hnm hown hh0 W hP
  obtain ⟨rfl, hB⟩ := hP
  have hB0 := hB.mv X0.warmed.alike hh0
  have c1 : Steps p.tables e below (s₁.setTop (entryFrame m #[.ref d, .int (Int32.ofNat B.slots.size)] 2)) (s₁.setTop (mkF m 0 #[.val (.ref d), .val (.int (Int32.ofNat B.slots.size))] [])) := entry rfl
  have c2 : Steps p.tables e below (s₁.setTop (entryFrame m #[.ref d, .int (Int32.ofNat B.slots.size)] 2)) (s₁.setTop (mkF m 2 #[.val (.ref d), .val (.int (Int32.ofNat B.slots.size))] [.ref d, .int (Int32.ofNat B.slots.size)])) := c1.trans (by
    refine XS.iloadN X0.here hexec rfl (hb hbytes d0) rfl ?_
    refine XS.aloadN X0.here hexec rfl (hb hbytes d1) rfl rfl ?_
    exact Steps.refl _)
  have c3 : Steps p.tables e below (s₁.setTop (entryFrame m #[.ref d, .int (Int32.ofNat B.slots.size)] 2)) (s₁.setTop (mkF m 8 #[.val (.ref d), .val (.int (Int32.ofNat B.slots.size))] [.int (lo8 (ushr (Int32.ofNat B.slots.size - Int32.ofNat B.slots.size) 31))])) := c2.trans (by
    refine X0.alen hexec hB0 rfl rfl (hb hbytes d2) ?_
    refine XS.isub X0.here hexec rfl (hb hbytes d3) rfl ?_
    refine bipushV X0.here hexec rfl 31 (hb hbytes d4) (by decide) ?_
    refine iushr X0.here hexec rfl (hb hbytes d6) rfl ?_
    refine i2b X0.here hexec rfl (hb hbytes d7) rfl ?_
    exact Steps.refl _)
  have e0 : lo8 (ushr (Int32.ofNat B.slots.size - Int32.ofNat B.slots.size) 31) = 0 := by rw [Int32.sub_self]; decide
  rw [e0] at c3
  exact ⟨s₁, some (.int 0), _, _, _, X0, rfl, rfl, rfl, (fun h => by cases h), ⟨rfl, hh0⟩, fun fs hl => c3.trans (X0.ireturnOut hexec hret rfl (Or.inr (Or.inr (Or.inl rfl))) (hb hbytes d8) hl)⟩
end CodL
/-- the String at a is Latin-1 over a new byte[] (the heap's one new cell): the low bytes of the len chars of A from o on; every cell but a is kept -/
def Got (a : Addr) (D : Cell) (fV fC : Field) (A : Cell) (o len : Nat) (r : Option Value) (s u : State) : Prop := r = none ∧ ∃ D' V : Cell, Blank "java/lang/String" a D' u ∧ Same D D' [fV.slot, fC.slot] ∧ D'.slots[fV.slot]? = some (.ref s.heap.size) ∧ D'.slots[fC.slot]? = some (.int 0) ∧ Arr .byte s.heap.size V u ∧ V.vm = .none ∧ u.vm.findClass "[B" = some V.cls ∧ V.slots.size = len ∧ (∀ j, j < len → V.slots[j]? = some (.int (lo8 (cv A (o + j))))) ∧ (∀ (y : Addr) (c : Cell), y ≠ a → s.heap[y]? = some c → u.heap[y]? = some c) ∧ u.heap.size = s.heap.size + 1
theorem Got.mv {a : Addr} {D A : Cell} {fV fC : Field} {o len : Nat} : ∀ r (U U' V V' : State), U'.heap = U.heap → V.vm.Alike V'.vm → V'.heap = V.heap → Got a D fV fC A o len r U V → Got a D fV fC A o len r U' V' :=
  fun r U U' V V' h1 hal h2 ⟨e0, D', X, a1, a2, a3, a4, a5, a6, a7, a8, a9, a10, a11⟩ => ⟨e0, D', X, a1.mv hal h2, a2, by rw [h1]; exact a3, a4, by rw [h1]; exact a5.mv hal h2, a6, by rw [hal.findClass]; exact a7, a8, a9, by rw [h1, h2]; exact a10, by rw [h1, h2]; exact a11⟩
namespace New4
def yN : MethodName := ⟨"java/lang/String", "<init>", "([CIILjava/lang/Void;)V"⟩
abbrev yB : ByteArray := jdk_42_method_149_code
theorem d0 : decode yB 0 = .ok (.aload_n 0, 1) := by decide +kernel
theorem d1 : decode yB 1 = .ok (.invokespecial 1, 3) := by decide +kernel
theorem d4 : decode yB 4 = .ok (.iload_n 3, 1) := by decide +kernel
theorem d5 : decode yB 5 = .ok (.ifCond (.ne) 22, 3) := by decide +kernel
theorem d27 : decode yB 27 = .ok (.getstatic 38, 3) := by decide +kernel
theorem d30 : decode yB 30 = .ok (.ifCond (.eq) 28, 3) := by decide +kernel
theorem d33 : decode yB 33 = .ok (.aload_n 1, 1) := by decide +kernel
theorem d34 : decode yB 34 = .ok (.iload_n 2, 1) := by decide +kernel
theorem d35 : decode yB 35 = .ok (.iload_n 3, 1) := by decide +kernel
theorem d36 : decode yB 36 = .ok (.invokestatic 177, 3) := by decide +kernel
theorem d39 : decode yB 39 = .ok (.astore 5, 2) := by decide +kernel
theorem d41 : decode yB 41 = .ok (.aload_n 0, 1) := by decide +kernel
theorem d42 : decode yB 42 = .ok (.aload 5, 2) := by decide +kernel
theorem d44 : decode yB 44 = .ok (.iload_n 3, 1) := by decide +kernel
theorem d45 : decode yB 45 = .ok (.invokestatic 47, 3) := by decide +kernel
theorem d48 : decode yB 48 = .ok (.putfield 15, 3) := by decide +kernel
theorem d51 : decode yB 51 = .ok (.aload_n 0, 1) := by decide +kernel
theorem d52 : decode yB 52 = .ok (.aload 5, 2) := by decide +kernel
theorem d54 : decode yB 54 = .ok (.putfield 9, 3) := by decide +kernel
theorem d57 : decode yB 57 = .ok (.return_, 1) := by decide +kernel
def site : List Cond := [.fieldLink "java/lang/String" 38 "java/lang/String" "COMPACT_STRINGS" "Z", Cmp3.tab, CodL.tab, .laysFinal "java/lang/String" "java/lang/String" "value" "[B", .fieldLink "java/lang/String" 9 "java/lang/String" "value" "[B", .laysFinal "java/lang/String" "java/lang/String" "coder" "B", .fieldLink "java/lang/String" 15 "java/lang/String" "coder" "B"] ++ objW "java/lang/String" 1 ++ staticW "java/lang/String" 177 Cmp3.yN ++ staticW "java/lang/String" 47 CodL.yN
def tab : Cond := tabOf yN yB 6 none site
def P (a : Addr) (D : Cell) (fV fC : Field) (b : Addr) (A : Cell) (z : Int32) (o len : Nat) (args : Array Value) (s : State) : Prop := args = #[.ref a, .ref b, .int (Int32.ofNat o), .int (Int32.ofNat len), .null] ∧ Blank "java/lang/String" a D s ∧ Found "java/lang/String" "value" "[B" fV s ∧ Found "java/lang/String" "coder" "B" fC s ∧ Ch b A s ∧ StaticIs s "java/lang/String" "COMPACT_STRINGS" "Z" (.int z) ∧ ¬ z = 0 ∧ 0 < len ∧ o + len ≤ A.slots.size ∧ len ≤ 536870912 ∧ ∀ i, i < len → ¬ 255 < cv A (o + i)
def E (a : Addr) (D : Cell) (fV fC : Field) (A : Cell) (o len : Nat) (r : Option Value) (s u : State) : Prop := Got a D fV fC A o len r s u
/-- len > 0, no char of the range above 255: a Latin-1 String of their low bytes -/
theorem law (l : Launch) (a : Addr) (D : Cell) (fV fC : Field) (b : Addr) (A : Cell) (z : Int32) (o len : Nat) : Law l yN 5 4 2 35 yB 6 none site (P a D fV fC b A z o len) (E a D fV fC A o len) [⟨a, fC.slot⟩, ⟨a, fV.slot⟩] 1 len := by
  refine Law.of_walk (plainFor_of_name (by decide +kernel)) (by decide +kernel) (by decide +kernel) (by decide) (fun _ _ h => by rw [h.1]; rfl) (fun _ U U' hal hh h => ⟨h.1, h.2.1.mv hal hh, h.2.2.1.al hal, h.2.2.2.1.al hal, h.2.2.2.2.1.mv hal hh, h.2.2.2.2.2.1.there hal hh, h.2.2.2.2.2.2⟩) (fun r U U' V V' h1 hal h2 h => Got.mv r U U' V V' h1 hal h2 h) ?_
  intro p e s m args below meth c s₁ X0 hexec hbytes hml hret hlk hnm hown hh0 W hP
  obtain ⟨rfl, hB, f1, f2, hA, s1, hz, l0, l1, l2, hp⟩ := hP
  have a31 := hA.1.2.2.2
  have c1 : Steps p.tables e below (s₁.setTop (entryFrame m #[.ref a, .ref b, .int (Int32.ofNat o), .int (Int32.ofNat len), .null] 6)) (s₁.setTop (mkF m 0 #[.val (.ref a), .val (.ref b), .val (.int (Int32.ofNat o)), .val (.int (Int32.ofNat len)), .val .null, .unset] [])) := entry rfl
  have c2 : Steps p.tables e below (s₁.setTop (entryFrame m #[.ref a, .ref b, .int (Int32.ofNat o), .int (Int32.ofNat len), .null] 6)) (s₁.setTop (mkF m 1 #[.val (.ref a), .val (.ref b), .val (.int (Int32.ofNat o)), .val (.int (Int32.ofNat len)), .val .null, .unset] [.ref a])) := c1.trans (by
    refine XS.aloadN X0.here hexec rfl (hb hbytes d0) rfl rfl ?_
    exact Steps.refl _)
  obtain ⟨T3, X3, q3, st3⟩ := X0.oinit hexec hown (wks W (objW "java/lang/String" 1)) (g := (mkF m 1 #[.val (.ref a), .val (.ref b), .val (.int (Int32.ofNat o)), .val (.int (Int32.ofNat len)), .val .null, .unset] [.ref a])) rfl (by rw [hml]; rfl) (rest := []) rfl (hb hbytes d1) (W := 0) (by show 2 * 0 + 0 ≤ _; decide) (Nat.le_of_ble_eq_true rfl) (Nat.le_of_ble_eq_true rfl)
  have hh3 := q3.trans hh0
  have c4 : Steps p.tables e below (s₁.setTop (entryFrame m #[.ref a, .ref b, .int (Int32.ofNat o), .int (Int32.ofNat len), .null] 6)) (T3.setTop (mkF m 27 #[.val (.ref a), .val (.ref b), .val (.int (Int32.ofNat o)), .val (.int (Int32.ofNat len)), .val .null, .unset] [])) := (c2.trans (st3 _ (Steps.refl _))).trans (by
    refine XS.iloadN X3.here hexec rfl (hb hbytes d4) rfl ?_
    refine XS.ifYes X3.here hexec rfl (pc0 := 5) rfl (hb hbytes d5) rfl (i0_ne_t (nz32 (by omega) l0)) (by decide) rfl ?_
    exact Steps.refl _)
  obtain ⟨T5, X5, q5, st5⟩ := X3.sget hexec hown (wk W (.fieldLink "java/lang/String" 38 "java/lang/String" "COMPACT_STRINGS" "Z")) s1 (fun _ _ h => by rw [hh3]; exact h) (g := (mkF m 27 #[.val (.ref a), .val (.ref b), .val (.int (Int32.ofNat o)), .val (.int (Int32.ofNat len)), .val .null, .unset] [])) rfl (hb hbytes d27)
  have hh5 := q5.trans hh3
  have c6 : Steps p.tables e below (s₁.setTop (entryFrame m #[.ref a, .ref b, .int (Int32.ofNat o), .int (Int32.ofNat len), .null] 6)) (T5.setTop (mkF m 30 #[.val (.ref a), .val (.ref b), .val (.int (Int32.ofNat o)), .val (.int (Int32.ofNat len)), .val .null, .unset] [.int z])) := c4.trans (st5 _ (Steps.refl _))
  have c7 : Steps p.tables e below (s₁.setTop (entryFrame m #[.ref a, .ref b, .int (Int32.ofNat o), .int (Int32.ofNat len), .null] 6)) (T5.setTop (mkF m 36 #[.val (.ref a), .val (.ref b), .val (.int (Int32.ofNat o)), .val (.int (Int32.ofNat len)), .val .null, .unset] [.int (Int32.ofNat len), .int (Int32.ofNat o), .ref b])) := c6.trans (by
    refine XS.ifNo X5.here hexec rfl (hb hbytes d30) rfl (i0_eq_f hz) ?_
    refine XS.aloadN X5.here hexec rfl (hb hbytes d33) rfl rfl ?_
    refine XS.iloadN X5.here hexec rfl (hb hbytes d34) rfl ?_
    refine XS.iloadN X5.here hexec rfl (hb hbytes d35) rfl ?_
    exact Steps.refl _)
  obtain ⟨v8, T8, X8, E8, g8⟩ := X5.callS hexec (Cmp3.law l b A o len) hown (wks W (staticW "java/lang/String" 177 Cmp3.yN)) (wk W Cmp3.tab) (W := 0) (Nat.le_of_ble_eq_true rfl) (Nat.le_of_ble_eq_true rfl) (Nat.le_refl _) (by show 0 + len ≤ len; omega) (g := (mkF m 36 #[.val (.ref a), .val (.ref b), .val (.int (Int32.ofNat o)), .val (.int (Int32.ofNat len)), .val .null, .unset] [.int (Int32.ofNat len), .int (Int32.ofNat o), .ref b])) rfl (by rw [hml]; rfl) c7 (argsL := [.ref b, .int (Int32.ofNat o), .int (Int32.ofNat len)]) (rest := []) rfl rfl (by show 2 * 0 + 0 ≤ _; decide) (hb hbytes d36) (⟨rfl, hA.mv X5.warmed.alike hh5, l1, l2, hp⟩)
  obtain ⟨e8, z8⟩ := E8
  obtain ⟨rfl, N, n1, n2, n3, n4, n5, n6⟩ := NewArr.mv _ T5 s _ _ hh5.symm (Vm.Alike.refl _) rfl e8
  rw [hh5] at z8
  have hB1 := hB.keep X8.warmed.alike (n6 _ _ hB.1)
  have hne : s.heap.size ≠ a := (Nat.ne_of_lt (Array.getElem?_eq_some_iff.mp hB.1).1).symm
  have c9 : Steps p.tables e below (s₁.setTop (entryFrame m #[.ref a, .ref b, .int (Int32.ofNat o), .int (Int32.ofNat len), .null] 6)) (T8.setTop (mkF m 39 #[.val (.ref a), .val (.ref b), .val (.int (Int32.ofNat o)), .val (.int (Int32.ofNat len)), .val .null, .unset] [.ref s.heap.size])) := g8
  have c10 : Steps p.tables e below (s₁.setTop (entryFrame m #[.ref a, .ref b, .int (Int32.ofNat o), .int (Int32.ofNat len), .null] 6)) (T8.setTop (mkF m 45 #[.val (.ref a), .val (.ref b), .val (.int (Int32.ofNat o)), .val (.int (Int32.ofNat len)), .val .null, .val (.ref s.heap.size)] [.int (Int32.ofNat N.slots.size), .ref s.heap.size, .ref a])) := by
    have hc : Steps p.tables e below (s₁.setTop (entryFrame m #[.ref a, .ref b, .int (Int32.ofNat o), .int (Int32.ofNat len), .null] 6)) (T8.setTop (mkF m 45 #[.val (.ref a), .val (.ref b), .val (.int (Int32.ofNat o)), .val (.int (Int32.ofNat len)), .val .null, .val (.ref s.heap.size)] [.int (Int32.ofNat len), .ref s.heap.size, .ref a])) := c9.trans (by
      refine XS.astore X8.here hexec rfl (hb hbytes d39) rfl rfl rfl ?_
      refine XS.aloadN X8.here hexec rfl (hb hbytes d41) rfl rfl ?_
      refine XS.aload X8.here hexec rfl (hb hbytes d42) rfl rfl ?_
      refine XS.iloadN X8.here hexec rfl (hb hbytes d44) rfl ?_
      exact Steps.refl _)
    rw [n4]; exact hc
  obtain ⟨v11, T11, X11, E11, g11⟩ := X8.callS hexec (CodL.law l s.heap.size N) hown (wks W (staticW "java/lang/String" 47 CodL.yN)) (wk W CodL.tab) (W := 1) (Nat.le_of_ble_eq_true rfl) (Nat.le_of_ble_eq_true rfl) (Nat.le_refl _) (by show 0 + len + 0 ≤ len; omega) (g := (mkF m 45 #[.val (.ref a), .val (.ref b), .val (.int (Int32.ofNat o)), .val (.int (Int32.ofNat len)), .val .null, .val (.ref s.heap.size)] [.int (Int32.ofNat N.slots.size), .ref s.heap.size, .ref a])) rfl (by rw [hml]; rfl) c10 (argsL := [.ref s.heap.size, .int (Int32.ofNat N.slots.size)]) (rest := [.ref a]) rfl rfl (by show 2 * 0 + (1 + 0) ≤ _; decide) (hb hbytes d45) (⟨rfl, n1⟩)
  obtain ⟨rfl, q11⟩ := E11
  have hB11 := hB1.mv (X8.warmed.alike.symm.trans X11.warmed.alike) q11
  have c12 : Steps p.tables e below (s₁.setTop (entryFrame m #[.ref a, .ref b, .int (Int32.ofNat o), .int (Int32.ofNat len), .null] 6)) (T11.setTop (mkF m 48 #[.val (.ref a), .val (.ref b), .val (.int (Int32.ofNat o)), .val (.int (Int32.ofNat len)), .val .null, .val (.ref s.heap.size)] [.int 0, .ref a])) := g11
  obtain ⟨T13, X13, p13, bl13, sl13, st13⟩ := X11.finit hexec hown (wk W (.fieldLink "java/lang/String" 15 "java/lang/String" "coder" "B")) (Or.inr ⟨_, (wk W (.laysFinal "java/lang/String" "java/lang/String" "coder" "B"))⟩) (Or.inl ⟨rfl, hnm⟩) f2 (Or.inl rfl) hB11 (t := .byte) (by decide +kernel) rfl (g := (mkF m 48 #[.val (.ref a), .val (.ref b), .val (.int (Int32.ofNat o)), .val (.int (Int32.ofNat len)), .val .null, .val (.ref s.heap.size)] [.int 0, .ref a])) rfl (rest := []) rfl (hb hbytes d48)
  have c14 : Steps p.tables e below (s₁.setTop (entryFrame m #[.ref a, .ref b, .int (Int32.ofNat o), .int (Int32.ofNat len), .null] 6)) (T13.setTop (mkF m 54 #[.val (.ref a), .val (.ref b), .val (.int (Int32.ofNat o)), .val (.int (Int32.ofNat len)), .val .null, .val (.ref s.heap.size)] [.ref s.heap.size, .ref a])) := (c12.trans (st13 _ (Steps.refl _))).trans (by
    refine XS.aloadN X13.here hexec rfl (hb hbytes d51) rfl rfl ?_
    refine XS.aload X13.here hexec rfl (hb hbytes d52) rfl rfl ?_
    exact Steps.refl _)
  obtain ⟨T15, X15, p15, bl15, sl15, st15⟩ := X13.finit hexec hown (wk W (.fieldLink "java/lang/String" 9 "java/lang/String" "value" "[B")) (Or.inr ⟨_, (wk W (.laysFinal "java/lang/String" "java/lang/String" "value" "[B"))⟩) (Or.inl ⟨rfl, hnm⟩) f1 (Or.inl rfl) bl13 (t := (.array .byte)) (by decide +kernel) rfl (g := (mkF m 54 #[.val (.ref a), .val (.ref b), .val (.int (Int32.ofNat o)), .val (.int (Int32.ofNat len)), .val .null, .val (.ref s.heap.size)] [.ref s.heap.size, .ref a])) rfl (rest := []) rfl (hb hbytes d54)
  have c16 : Steps p.tables e below (s₁.setTop (entryFrame m #[.ref a, .ref b, .int (Int32.ofNat o), .int (Int32.ofNat len), .null] 6)) (T15.setTop (mkF m 57 #[.val (.ref a), .val (.ref b), .val (.int (Int32.ofNat o)), .val (.int (Int32.ofNat len)), .val .null, .val (.ref s.heap.size)] [])) := c14.trans (st15 _ (Steps.refl _))
  have ap := apart (Or.inr ⟨_, (wk W (.laysFinal "java/lang/String" "java/lang/String" "value" "[B"))⟩) (Or.inr ⟨_, (wk W (.laysFinal "java/lang/String" "java/lang/String" "coder" "B"))⟩) f1 f2 (t₁ := .array .byte) (t₂ := .byte) (by decide +kernel) (by decide +kernel) (by decide)
  have al := X8.warmed.alike.symm.trans X15.warmed.alike
  have n7 : T11.heap[s.heap.size]? = some N := by rw [q11]; exact n1.1
  exact ⟨T15, none, _, _, _, X15, by simp, rfl, by omega, (fun _ => rfl), ⟨rfl, _, N, bl15, ((Same.refl D _).set _ (by simp)).set _ (by simp), sl15, (Cell.slots_setSlot_ne _ ap).trans sl13, n1.keep al (p15.other hne (p13.other hne n7)), n2, by rw [al.findClass]; exact n3, n4, n5, fun y c h1 h2 => p15.other h1 (p13.other h1 (by rw [q11]; exact n6 y c h2)), by rw [p15.2.2, p13.2.2, q11]; exact z8⟩, fun fs hl => c16.trans (X15.returnOut hexec hret (hb hbytes d57) hl)⟩
end New4
namespace New1
def yN : MethodName := ⟨"java/lang/String", "<init>", "([C)V"⟩
abbrev yB : ByteArray := jdk_42_method_3_code
theorem d0 : decode yB 0 = .ok (.aload_n 0, 1) := by decide +kernel
theorem d1 : decode yB 1 = .ok (.aload_n 1, 1) := by decide +kernel
theorem d2 : decode yB 2 = .ok (.iconst 0, 1) := by decide +kernel
theorem d3 : decode yB 3 = .ok (.aload_n 1, 1) := by decide +kernel
theorem d4 : decode yB 4 = .ok (.arraylength, 1) := by decide +kernel
theorem d5 : decode yB 5 = .ok (.aconst_null, 1) := by decide +kernel
theorem d6 : decode yB 6 = .ok (.invokespecial 27, 3) := by decide +kernel
theorem d9 : decode yB 9 = .ok (.return_, 1) := by decide +kernel
def site : List Cond := [New4.tab] ++ initW "java/lang/String" 27 New4.yN
def tab : Cond := tabOf yN yB 2 none site
def P (a : Addr) (D : Cell) (fV fC : Field) (b : Addr) (A : Cell) (z : Int32) (args : Array Value) (s : State) : Prop := args = #[.ref a, .ref b] ∧ Blank "java/lang/String" a D s ∧ Found "java/lang/String" "value" "[B" fV s ∧ Found "java/lang/String" "coder" "B" fC s ∧ Ch b A s ∧ StaticIs s "java/lang/String" "COMPACT_STRINGS" "Z" (.int z) ∧ ¬ z = 0 ∧ 0 < A.slots.size ∧ A.slots.size ≤ 536870912 ∧ ∀ i, i < A.slots.size → ¬ 255 < cv A i
def E (a : Addr) (D : Cell) (fV fC : Field) (A : Cell) (r : Option Value) (s u : State) : Prop := Got a D fV fC A 0 A.slots.size r s u
/-- new String(chars), not empty, no char above 255: a Latin-1 String of their low bytes -/
theorem law (l : Launch) (a : Addr) (D : Cell) (fV fC : Field) (b : Addr) (A : Cell) (z : Int32) : Law l yN 2 1 3 52 yB 2 none site (P a D fV fC b A z) (E a D fV fC A) [⟨a, fC.slot⟩, ⟨a, fV.slot⟩] 1 A.slots.size := by
  refine Law.of_walk (plainFor_of_name (by decide +kernel)) (by decide +kernel) (by decide +kernel) (by decide) (fun _ _ h => by rw [h.1]; rfl) (fun _ U U' hal hh h => ⟨h.1, h.2.1.mv hal hh, h.2.2.1.al hal, h.2.2.2.1.al hal, h.2.2.2.2.1.mv hal hh, h.2.2.2.2.2.1.there hal hh, h.2.2.2.2.2.2⟩) (fun r U U' V V' h1 hal h2 h => Got.mv r U U' V V' h1 hal h2 h) ?_
  intro p e s m args below meth c s₁ X0 hexec hbytes hml hret hlk hnm hown hh0 W hP
  obtain ⟨rfl, hB, f1, f2, hA, s1, hz, l0, l2, hp⟩ := hP
  have c1 : Steps p.tables e below (s₁.setTop (entryFrame m #[.ref a, .ref b] 2)) (s₁.setTop (mkF m 0 #[.val (.ref a), .val (.ref b)] [])) := entry rfl
  have c2 : Steps p.tables e below (s₁.setTop (entryFrame m #[.ref a, .ref b] 2)) (s₁.setTop (mkF m 6 #[.val (.ref a), .val (.ref b)] [.null, .int (Int32.ofNat A.slots.size), .int 0, .ref b, .ref a])) := c1.trans (by
    refine XS.aloadN X0.here hexec rfl (hb hbytes d0) rfl rfl ?_
    refine XS.aloadN X0.here hexec rfl (hb hbytes d1) rfl rfl ?_
    refine iconstV X0.here hexec rfl 0 (hb hbytes d2) (by decide) ?_
    refine XS.aloadN X0.here hexec rfl (hb hbytes d3) rfl rfl ?_
    refine X0.alen hexec (hA.1.mv X0.warmed.alike hh0) rfl rfl (hb hbytes d4) ?_
    refine XS.aconstNull X0.here hexec rfl (hb hbytes d5) ?_
    exact Steps.refl _)
  obtain ⟨v3, T3, X3, E3, g3⟩ := X0.callN hexec (New4.law l a D fV fC b A z 0 A.slots.size) rfl hown (wks W (initW "java/lang/String" 27 New4.yN)) (W New4.tab (by simp only [site, List.mem_cons, List.mem_append, true_or, or_true])) (W := 0) (Nat.le_of_ble_eq_true rfl) (Nat.le_of_ble_eq_true rfl) (Nat.le_refl _) (by show 0 + A.slots.size ≤ A.slots.size; omega) (g := (mkF m 6 #[.val (.ref a), .val (.ref b)] [.null, .int (Int32.ofNat A.slots.size), .int (Int32.ofNat 0), .ref b, .ref a])) rfl (by rw [hml]; rfl) c2 (argsL := [.ref b, .int (Int32.ofNat 0), .int (Int32.ofNat A.slots.size), .null]) (rest := []) rfl rfl (by show 2 * 0 + 0 ≤ _; decide) (hb hbytes d6) (⟨rfl, hB.mv X0.warmed.alike hh0, f1.al X0.warmed.alike, f2.al X0.warmed.alike, hA.mv X0.warmed.alike hh0, s1.there X0.warmed.alike hh0, hz, l0, by omega, l2, fun i hi => by rw [Nat.zero_add]; exact hp i hi⟩)
  have e0 := Got.mv _ s₁ s _ _ hh0.symm (Vm.Alike.refl _) rfl E3
  obtain rfl := e0.1
  have c4 : Steps p.tables e below (s₁.setTop (entryFrame m #[.ref a, .ref b] 2)) (T3.setTop (mkF m 9 #[.val (.ref a), .val (.ref b)] [])) := g3
  exact ⟨T3, none, _, _, _, X3, by simp, rfl, by omega, (fun _ => rfl), e0, fun fs hl => c4.trans (X3.returnOut hexec hret (hb hbytes d9) hl)⟩
theorem pays {l : Launch} {R : Room} {p : Program} {e : Env} {below : List Frame} {s : State} {sargs : Array Value} {len W : Nat} (a : Addr) (D : Cell) (fV fC : Field) (b : Addr) (A : Cell) (z : Int32) (htab : tab.before sargs s = true) (hfr : 4 ≤ R.frames) (hlo : W + 65 ≤ R.locals) :
    Back l R p e below s sargs yN len W (fun A₁ a₁ => A₁.cells + 1 ≤ R.cells ∧ A₁.slots + A.slots.size ≤ R.slots ∧ P a D fV fC b A z a₁ A₁.U) (fun A₁ _ v₁ B₁ => E a D fV fC A v₁ A₁.U B₁.U ∧ B₁.locs = A₁.locs ++ [⟨a, fC.slot⟩, ⟨a, fV.slot⟩] ∧ B₁.cells = A₁.cells + 1 ∧ B₁.slots = A₁.slots + A.slots.size) :=
  (law l a D fV fC b A z).pays htab hfr (by omega)
end New1
/-- the byte, read back as charAt reads it, is the char -/
theorem lo8_mask {x : Int32} (h0 : ¬ x < 0) (h1 : ¬ 255 < x) : lo8 x &&& 255 = x := by
  have t : ∀ k : Fin 256, lo8 (Int32.ofNat k.val) &&& 255 = Int32.ofNat k.val := by decide +kernel
  rw [Int32.lt_iff_toInt_lt] at h0 h1
  have e0 : (0 : Int32).toInt = 0 := rfl
  have e1 : (255 : Int32).toInt = 255 := rfl
  obtain ⟨k, hk⟩ : ∃ k : Nat, x.toInt = k := ⟨x.toInt.toNat, by omega⟩
  have hx : x = Int32.ofNat k := Int32.toInt_inj.mp (by rw [hk, Int32.toInt_ofNat_small (by omega)])
  rw [hx]
  exact t ⟨k, by omega⟩
end StrChars
namespace StrChars.Road
open Jvm Sem ClassFile Op Lib Jvm.Stand Jvm.Free Jvm.Free.XT
open Jvm.Lib.Cold (StaticIs)
abbrev ST : String := "java/lang/String"
/-- every table word that New1's law asks, flat -/
abbrev words : List Jvm.Cond := [.code New1.yN New1.yB 2 none, .initialized ST, .methodLink ST 27 New4.yN, .instanceMethod New4.yN,
  .code New4.yN New4.yB 6 none, .fieldLink ST 38 ST "COMPACT_STRINGS" "Z", .laysFinal ST ST "value" "[B", .fieldLink ST 9 ST "value" "[B", .laysFinal ST ST "coder" "B", .fieldLink ST 15 ST "coder" "B",
  .methodLink ST 1 Lib.objectInit, .instanceMethod Lib.objectInit, .code Lib.objectInit ⟨#[0xb1]⟩ 1 none, .methodLink ST 177 Cmp3.yN, .static Cmp3.yN, .methodLink ST 47 CodL.yN, .static CodL.yN,
  .code Cmp3.yN Cmp3.yB 6 (some (.array .byte)), .initialized U16, .arrayClass .byte, .methodLink U16 115 Cmp5.yN, .static Cmp5.yN, .code Cmp5.yN Cmp5.yB 7 (some .int), .code CodL.yN CodL.yB 2 (some .byte)]
theorem tab_of {a : Array Value} {s : State} (h : ∀ w ∈ words, w.before a s = true) : New1.tab.before a s = true := by
  have h5 : Cmp5.tab.before a s = true := unparts (wk h (.code Cmp5.yN Cmp5.yB 7 (some .int))) (wks h (.initialized Cmp5.yN.cls :: Cmp5.site))
  have hc : CodL.tab.before a s = true := unparts (wk h (.code CodL.yN CodL.yB 2 (some .byte))) (wks h (.initialized CodL.yN.cls :: CodL.site))
  have q5 : ∀ w ∈ Cmp5.tab :: words, w.before a s = true := fun w hw => (List.mem_cons.mp hw).elim (fun e => e ▸ h5) (h w)
  have h3 : Cmp3.tab.before a s = true := unparts (wk q5 (.code Cmp3.yN Cmp3.yB 6 (some (.array .byte)))) (wks q5 (.initialized Cmp3.yN.cls :: Cmp3.site))
  have q3 : ∀ w ∈ Cmp3.tab :: CodL.tab :: words, w.before a s = true := fun w hw => (List.mem_cons.mp hw).elim (fun e => e ▸ h3) fun hw => (List.mem_cons.mp hw).elim (fun e => e ▸ hc) (h w)
  have h4 : New4.tab.before a s = true := unparts (wk q3 (.code New4.yN New4.yB 6 none)) (wks q3 (.initialized New4.yN.cls :: New4.site))
  have q4 : ∀ w ∈ New4.tab :: words, w.before a s = true := fun w hw => (List.mem_cons.mp hw).elim (fun e => e ▸ h4) (h w)
  exact unparts (wk q4 (.code New1.yN New1.yB 2 none)) (wks q4 (.initialized New1.yN.cls :: New1.site))
/-- the words ride from the start Z to the walk's own state -/
theorem moved {Z s : State} {a0 args : Array Value} (hZ : Z.Warmed39 s.vm) (hw : ∀ d ∈ words, d.before a0 Z = true) : ∀ d ∈ words, d.before args s = true := fun d hd => by
  have q := hw d hd
  have t : ∀ d ∈ words, d = .arrayClass .byte ∨ (d.onTables && d.keepsFace) = true := by decide +kernel
  rcases t d hd with rfl | t
  · exact RoadKit.mvA hZ q
  · exact RoadKit.mv hZ q t
/-- WHAT COMES BACK, over the tables of the start Z: h the heap at the call, h' behind it -/
def Q (Z : State) (x : Addr) (A : Cell) (h : Heap) (v : Option Value) (h' : Heap) (L : List Loc) : Prop := v = none ∧ (∀ y ∈ L, y.base = x) ∧ RoadKit.Keep h h' [x] ∧ h'.size = h.size + 1 ∧ RoadKit.Exa Z h' x ST ∧ RoadKit.Fld Z h' x ST "value" "[B" (.ref h.size) ∧ RoadKit.Fld Z h' x ST "coder" "B" (.int 0) ∧
  (∃ V : Cell, RoadKit.Arr Z h' h.size V .byte ∧ V.vm = .none ∧ Z.vm.findClass "[B" = some V.cls ∧ V.slots.size = A.slots.size ∧ ∀ j, j < A.slots.size → V.slots[j]? = some (.int (lo8 (cv A j)))) ∧
  ∀ (O n d : String) (w : Value), RoadKit.Fld Z h x O n d w → RoadKit.slotOf Z O n d ≠ RoadKit.slotOf Z ST "value" "[B" → RoadKit.slotOf Z O n d ≠ RoadKit.slotOf Z ST "coder" "B" → RoadKit.Fld Z h' x O n d w
/-- **new String(chars) AT A CALL, IN THE ROAD'S FORM**: for specialBack behind newO: x the fresh String, b the char[] with the cell A -/
theorem back {p : Program} {l : Launch} {e : Env} {R : Room} {s : State} {args : Array Value} {below : List Frame} {len W : Nat} {Z : State} {a0 : Array Value} {h : Heap} (hZ : Z.Warmed39 s.vm) (hw : ∀ d ∈ words, d.before a0 Z = true) {kI : Nat} (wi : (Jvm.Cond.instantiable ST kI).before a0 Z = true)
    {x b : Addr} {A : Cell} {z : Int32} {v0 c0 : Value} (E : RoadKit.Exa Z h x ST) (V : RoadKit.Fld Z h x ST "value" "[B" v0) (C : RoadKit.Fld Z h x ST "coder" "B" c0) (K : RoadKit.Arr Z h b A .char) (hty : Typed .char A) (S : RoadKit.Sta Z h ST "COMPACT_STRINGS" "Z" (.int z)) (hz : ¬ z = 0)
    (l0 : 0 < A.slots.size) (l2 : A.slots.size ≤ 536870912) (hp : ∀ i, i < A.slots.size → ¬ 255 < cv A i) (hfr : 4 ≤ R.frames) (hlo : W + 65 ≤ R.locals) :
    Back l R p e below s args New1.yN len W (fun P a => a = #[.ref x, .ref b] ∧ P.U.heap = h ∧ P.cells + 1 ≤ R.cells ∧ P.slots + A.slots.size ≤ R.slots)
      (fun P _ v B => ∃ L, Q Z x A h v B.U.heap L ∧ B.locs = P.locs ++ L ∧ B.cells = P.cells + 1 ∧ B.slots = P.slots + A.slots.size) := by
  intro m meth c P g ig mk a X hg hsize hdg hW hn hp'
  obtain ⟨rfl, rfl, r1, r2⟩ := hp'
  have al : Z.vm.Alike P.U.vm := hZ.alike.trans X.warmed.alike
  obtain ⟨D, cfV, kV, iV, fV, hD, gV, stV, knV, obV, asV, slV⟩ := id V
  obtain ⟨D', cfC, kC, iC, fC, hD', gC, stC, -, -, asC, slC⟩ := id C
  cases hD.symm.trans hD'
  obtain ⟨D2, kD, e1, e2, e3, e4, e5⟩ := id E
  cases hD.symm.trans e1
  obtain ⟨c2, k2, i1, i2, i3, -⟩ := Cond.instantiable_spec wi
  cases e2.symm.trans i1
  cases e3.symm.trans i2
  obtain ⟨kU, u1, u2⟩ := al.2.2 _ _ e3
  have hB : Blank ST x D P.U := ⟨hD, ⟨knV, fun q hq => by rw [hq] at obV; cases obV⟩, by rw [al.findClass]; exact e2, kU, u1, by rw [u2]; exact i3, by rw [u2]; exact e5 i3⟩
  have F1 : Found ST "value" "[B" fV P.U := ⟨SBG.found_only al ⟨cfV, kV, iV, gV⟩, stV⟩
  have F2 : Found ST "coder" "B" fC P.U := ⟨SBG.found_only al ⟨cfC, kC, iC, gC⟩, stC⟩
  have hA : Ch b A P.U := ⟨⟨K.1, State.isArrayOf_alike al K.2.1, K.2.2, by omega⟩, hty⟩
  have hS : StaticIs P.U ST "COMPACT_STRINGS" "Z" (.int z) := by
    obtain ⟨cfS, iS, kS, fS, st, cS, t1, t2, t3, t4, t5, t6, t7⟩ := S
    exact StaticIs.there (s := { Z with heap := P.U.heap }) ⟨cfS, iS, kS, fS, st, cS, t1, t2, t3, t4, t5, (fun q => by rw [q] at t6; cases t6), t7⟩ al rfl
  obtain ⟨v, B, X', ⟨⟨hv, E', V', q1, q2, q3, q4, q5, q6, q7, q8, q9, q10, q11⟩, hl, hc, hs⟩, st⟩ := New1.pays x D fV fC b A z (tab_of (moved hZ hw)) hfr hlo m meth c P g ig mk _ X hg hsize hdg hW hn ⟨r1, r2, rfl, hB, F1, F2, hA, hS, hz, l0, l2, hp⟩
  have al' : Z.vm.Alike B.U.vm := hZ.alike.trans X'.warmed.alike
  have hsz : E'.slots.size = D.slots.size := by
    obtain ⟨-, -, -, kB, w1, w2, w3⟩ := q1
    obtain ⟨kB', y1, y2⟩ := al'.2.2 _ _ e3
    rw [q2.2.1] at w1
    cases w1.symm.trans y1
    rw [w3, e5 i3, y2]
  refine ⟨v, B, X', ⟨_, ⟨hv, ?_, ⟨by omega, fun y cy hy hn' => q10 y cy (by simpa using hn') hy, fun y cy hy => ?_⟩, q11, ⟨E', _, q1.1, by rw [q2.2.1]; exact e2, by rw [q2.2.1]; exact e3, by rw [q2.1]; exact obV, fun _ => by rw [hsz]; exact e5 i3⟩,
    ⟨E', cfV, kV, iV, fV, q1.1, gV, stV, by rw [q2.1]; exact knV, by rw [q2.1]; exact obV, by rw [q2.2.1]; exact asV, q3⟩, ⟨E', cfC, kC, iC, fC, q1.1, gC, stC, by rw [q2.1]; exact knV, by rw [q2.1]; exact obV, by rw [q2.2.1]; exact asC, q4⟩,
    ⟨V', ⟨q5.1, State.isArrayOf_alike al'.symm q5.2.1, q5.2.2.1⟩, q6, by rw [← al'.findClass]; exact q7, q8, fun j hj => by have := q9 j hj; rwa [Nat.zero_add] at this⟩, fun O n d w F n1 n2 => ?_⟩, hl, hc, hs⟩, st⟩
  · intro y hy
    simp only [List.mem_cons, List.not_mem_nil, or_false] at hy
    rcases hy with rfl | rfl <;> rfl
  · by_cases q : y = x
    · subst q
      cases hD.symm.trans hy
      exact ⟨E', q1.1, q2.2.1, q2.1, hsz⟩
    · exact ⟨cy, q10 y cy q hy, rfl, rfl, rfl⟩
  · obtain ⟨D3, cf, k, i, f, g1, g2, g3, g4, g5, g6, g7⟩ := F
    cases hD.symm.trans g1
    simp only [RoadKit.slotOf, g2, gV, gC, Option.map_some, Option.getD_some] at n1 n2
    exact ⟨E', cf, k, i, f, q1.1, g2, g3, by rw [q2.1]; exact g4, by rw [q2.1]; exact g5, by rw [q2.2.1]; exact g6, by rw [q2.2.2 f.slot (by simp [n1, n2])]; exact g7⟩
end StrChars.Road
namespace StrChars.Road
open Jvm Sem ClassFile Op Lib Jvm.Stand Jvm.Free Jvm.Free.XT
/-- WHAT COMES BACK, the byte[] as a list of values -/
def QA (Z : State) (x : Addr) (zn : Int32) (cs : List Int32) (h : Heap) (v : Option Value) (h' : Heap) (L : List Loc) : Prop := v = none ∧ (∀ y ∈ L, y.base = x) ∧ RoadKit.Keep h h' [x] ∧ h'.size = h.size + 1 ∧ RoadKit.Exa Z h' x ST ∧ RoadKit.Fld Z h' x ST "value" "[B" (.ref h.size) ∧ RoadKit.Fld Z h' x ST "coder" "B" (.int 0) ∧
  (∃ kb, Z.vm.findClass "[B" = some kb ∧ RoadKit.Arv Z h' h.size kb .byte zn (cs.map fun c => .int (lo8 c)) (.int 0)) ∧
  ∀ (O n d : String) (w : Value), RoadKit.Fld Z h x O n d w → RoadKit.slotOf Z O n d ≠ RoadKit.slotOf Z ST "value" "[B" → RoadKit.slotOf Z O n d ≠ RoadKit.slotOf Z ST "coder" "B" → RoadKit.Fld Z h' x O n d w
/-- **new String(chars) AT A CALL, THE ARRAYS AS LISTS**: the char[] at b holds cs, not empty, no char above 255 -/
theorem backArv {p : Program} {l : Launch} {e : Env} {R : Room} {s : State} {args : Array Value} {below : List Frame} {len W : Nat} {Z : State} {a0 : Array Value} {h : Heap} (hZ : Z.Warmed39 s.vm) (hw : ∀ d ∈ words, d.before a0 Z = true) {kI : Nat} (wi : (Jvm.Cond.instantiable ST kI).before a0 Z = true)
    {x b : Addr} {k : ClassId} {zn z : Int32} {cs : List Int32} {dv v0 c0 : Value} (E : RoadKit.Exa Z h x ST) (V : RoadKit.Fld Z h x ST "value" "[B" v0) (C : RoadKit.Fld Z h x ST "coder" "B" c0) (K : RoadKit.Arv Z h b k .char zn (cs.map Value.int) dv) (S : RoadKit.Sta Z h ST "COMPACT_STRINGS" "Z" (.int z)) (hz : ¬ z = 0)
    (hlen : zn.toNatClampNeg = cs.length) (h0 : 0 < cs.length) (hbig : cs.length ≤ 536870912) (hall : ∀ c ∈ cs, ¬ 255 < c) (hfr : 4 ≤ R.frames) (hlo : W + 65 ≤ R.locals) :
    Back l R p e below s args New1.yN len W (fun P a => a = #[.ref x, .ref b] ∧ P.U.heap = h ∧ P.cells + 1 ≤ R.cells ∧ P.slots + cs.length ≤ R.slots)
      (fun P _ v B => ∃ L, QA Z x zn cs h v B.U.heap L ∧ B.locs = P.locs ++ L ∧ B.cells = P.cells + 1 ∧ B.slots = P.slots + cs.length) := by
  obtain ⟨A, K1, K2, K3, K4, K5, K6⟩ := K
  have e : A.slots.size = cs.length := K3.trans hlen
  have hat : ∀ (i : Nat) (hi : i < cs.length), A.slots[i]? = some (.int cs[i]) := fun i hi => by rw [K5 i (by omega)]; simp [List.getD_eq_getElem?_getD, hi]
  have hcv : ∀ (i : Nat) (hi : i < cs.length), cv A i = cs[i] := fun i hi => by unfold cv; rw [hat i hi]
  have hty : Typed .char A := fun i v hv => by
    have hi : i < A.slots.size := (Array.getElem?_eq_some_iff.mp hv).1
    have q := K5 i hi
    rw [hv] at q
    rw [Option.some.inj q]
    exact K6 i hi
  refine Back.mono (back hZ hw wi E V C K1 hty S hz (by omega) (by omega) (fun i hi => by rw [hcv i (by omega)]; exact hall _ (List.getElem_mem _)) hfr hlo) (fun P a hp => ⟨hp.1, hp.2.1, hp.2.2.1, by rw [e]; exact hp.2.2.2⟩) (fun P a v B hp hq => ?_)
  obtain ⟨L, ⟨q1, q2, q3, q4, q5, q6, q7, ⟨V', v1, v2, v3, v4, v5⟩, q9⟩, hl, hc, hs⟩ := hq
  refine ⟨L, ⟨q1, q2, q3, q4, q5, q6, q7, ⟨V'.cls, v3, V', v1, rfl, by rw [v4, e, hlen], K4, fun i hi => ?_, fun i hi => ?_⟩, q9⟩, hl, hc, by rw [hs, e]⟩
  · have hi' : i < cs.length := by omega
    rw [v5 i (by omega), hcv i hi']; simp [List.getD_eq_getElem?_getD, hi']
  · have hi' : i < cs.length := by omega
    simp only [List.getD_eq_getElem?_getD, List.getElem?_map, List.getElem?_eq_getElem hi', Option.map_some, Option.getD_some]
    exact fits_lo8 _
end StrChars.Road
namespace StrChars.Road
open Jvm Sem ClassFile Op Lib Jvm.Stand Jvm.Free Jvm.Free.XT
/-- WHAT COMES BACK, in the writer's own shape -/
def QV (Z : State) (x : Addr) (N : Int32) (bs : List Int32) (h : Heap) (n0 : Nat) (v : Option Value) (h' : Heap) (L : List Loc) : Prop := v = none ∧ RoadKit.Fr n0 L ∧ RoadKit.Keep h h' [x] ∧ RoadKit.Exa Z h' x ST ∧ RoadKit.Fld Z h' x ST "coder" "B" (.int 0) ∧
  ∃ (t : Addr) (kb : ClassId), n0 ≤ t ∧ h.size ≤ t ∧ ¬ t = x ∧ RoadKit.Fld Z h' x ST "value" "[B" (.ref t) ∧ RoadKit.Arv Z h' t kb .byte N (bs.map Value.int) (.int 0)
/-- **new String(chars) AT A CALL, FOR THE WRITER**: a char[] of n known ints, each 0 to 255 -/
theorem backV {p : Program} {l : Launch} {e : Env} {R : Room} {s : State} {args : Array Value} {below : List Frame} {len W : Nat} {Z : State} {a0 : Array Value} {h : Heap} (hZ : Z.Warmed39 s.vm) (hw : ∀ d ∈ words, d.before a0 Z = true) {kI : Nat} (wi : (Jvm.Cond.instantiable ST kI).before a0 Z = true)
    {x b : Addr} {kC : ClassId} {cs bs : List Int32} {d v0 c0 : Value} {z N : Int32} {n n0 : Nat} (hx0 : n0 ≤ x) (hh0 : n0 ≤ h.size) (E : RoadKit.Exa Z h x ST) (V : RoadKit.Fld Z h x ST "value" "[B" v0) (C : RoadKit.Fld Z h x ST "coder" "B" c0) (K : RoadKit.Arv Z h b kC .char N (cs.map Value.int) d) (S : RoadKit.Sta Z h ST "COMPACT_STRINGS" "Z" (.int z)) (hz : ¬ z = 0)
    (hn : cs.length = n) (hN : N = Int32.ofNat n) (l0 : 0 < n) (l2 : n ≤ 4000) (hp : ∀ c ∈ cs, ¬ c < 0 ∧ ¬ (255 : Int32) < c) (hb : bs = cs.map (fun c => c.toInt8.toInt32)) (hfr : 4 ≤ R.frames) (hlo : W + 65 ≤ R.locals) :
    Back l R p e below s args (⟨"java/lang/String", "<init>", "([C)V"⟩ : MethodName) len W (fun P a => a = #[.ref x, .ref b] ∧ P.U.heap = h ∧ P.cells + 1 ≤ R.cells ∧ P.slots + n ≤ R.slots)
      (fun P _ v B => ∃ L, QV Z x N bs h n0 v B.U.heap L ∧ B.locs = P.locs ++ L ∧ B.cells = P.cells + 1 ∧ B.slots = P.slots + n) := by
  subst hn hN hb
  refine Back.mono (backArv hZ hw wi E V C K S hz (n32 (by omega)) l0 (by omega) (fun c hc => (hp c hc).2) hfr hlo) (fun P a hp => hp) (fun P a v B hp hq => ?_)
  obtain ⟨L, ⟨q1, q2, q3, q4, q5, q6, q7, ⟨kb, v1, v2⟩, q9⟩, hl, hc, hs⟩ := hq
  exact ⟨L, ⟨q1, fun y hy => by rw [q2 y hy]; exact hx0, q3, q5, q7, h.size, kb, hh0, Nat.le_refl _, Nat.ne_of_gt E.lt, q6, by rw [List.map_map]; exact v2⟩, hl, hc, hs⟩
end StrChars.Road
namespace StrChars
open Jvm Sem ClassFile Op Lib Jvm.Stand Jvm.Free.XT Jvm.Free.ALB Jvm.Free.JM Jvm.Free
open Jvm.Lib.Cold (StaticIs)
def hi8 (x : Int32) : Int32 := lo8 (x >>> ((8 : Int32) &&& 31))
/-- what StringUTF16.getChar makes of two bytes -/
def pairCh (u v : Int32) : Int32 := (((u &&& 255) <<< ((0 : Int32) &&& 31)) ||| ((v &&& 255) <<< ((8 : Int32) &&& 31))).toUInt32.toUInt16.toUInt32.toInt32
theorem shr0 (c : Int32) : c >>> ((0 : Int32) &&& 31) = c := by
  have e : ((0 : Int32) &&& 31) = 0 := by decide
  rw [e]
  apply Int32.toBitVec_inj.mp
  rw [Int32.toBitVec_shiftRight]
  have e1 : ((0 : Int32).toBitVec.smod 32) = 0#32 := by decide
  rw [e1, BitVec.sshiftRight_eq']
  exact BitVec.sshiftRight_zero
theorem lo8_and (x : Int32) : (lo8 x &&& 255).toBitVec.toNat = x.toBitVec.toNat % 256 := by
  have h : (lo8 x).toBitVec = (x.toBitVec.signExtend 8).signExtend 32 := by rw [lo8, Int8.toBitVec_toInt32, Int32.toBitVec_toInt8]
  rw [Int32.toBitVec_and, BitVec.toNat_and, h]
  have e : ((x.toBitVec.signExtend 8).signExtend 32).toNat % 256 = x.toBitVec.toNat % 256 := by
    rw [BitVec.toNat_signExtend]
    have hlt := x.toBitVec.isLt
    simp only [BitVec.toNat_setWidth, BitVec.toNat_signExtend]
    split <;> split <;> omega
  rw [← e]
  exact Nat.and_two_pow_sub_one_eq_mod _ 8
theorem pair_says {c : Int32} (h0 : ¬ c < 0) (h1 : ¬ 65535 < c) : pairCh (lo8 c) (hi8 c) = c := by
  rw [Int32.lt_iff_toInt_lt] at h0 h1
  have e0 : (0 : Int32).toInt = 0 := rfl
  have e1 : (65535 : Int32).toInt = 65535 := rfl
  have hc : c.toInt = c.toBitVec.toNat := by
    have := c.toBitVec.isLt
    have e : c.toInt = c.toBitVec.toInt := rfl
    rw [e] at h0 h1
    rw [e]
    rw [BitVec.toInt_eq_toNat_cond] at h0 h1 ⊢
    split at h0 <;> split <;> omega
  have hn : c.toBitVec.toNat < 65536 := by omega
  have a1 := lo8_and c
  have a2 : (hi8 c &&& 255).toBitVec.toNat = c.toBitVec.toNat / 256 := by
    rw [hi8, lo8_and]
    have e : ((8 : Int32) &&& 31) = 8 := by decide
    rw [e, Int32.toBitVec_shiftRight]
    have e2 : ((8 : Int32).toBitVec.smod 32) = 8#32 := by decide
    rw [e2, BitVec.sshiftRight_eq', BitVec.toNat_sshiftRight_of_msb_false (by rw [BitVec.msb_eq_false_iff_two_mul_lt]; omega)]
    show c.toBitVec.toNat >>> 8 % 256 = _
    rw [Nat.shiftRight_eq_div_pow]
    omega
  unfold pairCh
  apply Int32.toBitVec_inj.mp
  apply BitVec.eq_of_toNat_eq
  have f0 : ((0 : Int32) &&& 31) = 0 := by decide
  have f8 : ((8 : Int32) &&& 31) = 8 := by decide
  rw [f0, f8]
  have g : (((lo8 c &&& 255) <<< (0 : Int32)) ||| ((hi8 c &&& 255) <<< (8 : Int32))).toBitVec.toNat = c.toBitVec.toNat := by
    rw [Int32.toBitVec_or, Int32.toBitVec_shiftLeft, Int32.toBitVec_shiftLeft]
    have s0 : ((0 : Int32).toBitVec.smod 32) = 0#32 := by decide
    have s8 : ((8 : Int32).toBitVec.smod 32) = 8#32 := by decide
    rw [s0, s8, BitVec.toNat_or]
    simp only [BitVec.shiftLeft_eq', BitVec.toNat_shiftLeft, a1, a2]
    show (c.toBitVec.toNat % 256) <<< 0 % 2 ^ 32 ||| (c.toBitVec.toNat / 256) <<< 8 % 2 ^ 32 = _
    rw [Nat.shiftLeft_zero, Nat.mod_eq_of_lt (show c.toBitVec.toNat % 256 < 2 ^ 32 by omega), Nat.mod_eq_of_lt (show (c.toBitVec.toNat / 256) <<< 8 < 2 ^ 32 by rw [Nat.shiftLeft_eq]; omega), Nat.or_comm, ← Nat.shiftLeft_add_eq_or_of_lt (by omega), Nat.shiftLeft_eq]
    omega
  show BitVec.toNat (((((lo8 c &&& 255) <<< (0 : Int32)) ||| ((hi8 c &&& 255) <<< (8 : Int32))).toBitVec.setWidth 16).setWidth 32) = _
  rw [BitVec.toNat_setWidth, BitVec.toNat_setWidth, g]
  omega
end StrChars
namespace StrChars
open Jvm Sem ClassFile Op Lib Jvm.Stand Jvm.Free.XT Jvm.Free.ALB Jvm.Free.JM Jvm.Free
open Jvm.Lib.Cold (StaticIs)
theorem shr1 {n : Nat} (h : 2 * n < 2 ^ 31) : Int32.ofNat (2 * n) >>> ((1 : Int32) &&& 31) = Int32.ofNat n := by
  have e : ((1 : Int32) &&& 31) = 1 := by decide
  rw [e]
  apply Int32.toBitVec_inj.mp
  rw [Int32.toBitVec_shiftRight]
  have e1 : ((1 : Int32).toBitVec.smod 32) = 1#32 := by decide
  have hm : (BitVec.ofNat 32 (2 * n)).toNat = 2 * n := by rw [BitVec.toNat_ofNat, Nat.mod_eq_of_lt (by omega)]
  rw [e1, BitVec.sshiftRight_eq']
  apply BitVec.eq_of_toNat_eq
  show ((BitVec.ofNat 32 (2 * n)).sshiftRight 1).toNat = (BitVec.ofNat 32 n).toNat
  rw [BitVec.toNat_sshiftRight_of_msb_false (by rw [BitVec.msb_eq_false_iff_two_mul_lt, hm]; omega), hm, BitVec.toNat_ofNat, Nat.shiftRight_eq_div_pow]
  omega
/-- charAt's cast of a byte read back -/
def chr8 (u : Int32) : Int32 := (u &&& 255).toUInt32.toUInt16.toUInt32.toInt32
theorem chr8_lo8 {c : Int32} (h0 : ¬ c < 0) (h1 : ¬ 255 < c) : chr8 (lo8 c) = c := by
  have t : ∀ k : Fin 256, (Int32.ofNat k.val).toUInt32.toUInt16.toUInt32.toInt32 = Int32.ofNat k.val := by decide +kernel
  unfold chr8
  rw [lo8_mask h0 h1]
  rw [Int32.lt_iff_toInt_lt] at h0 h1
  have e0 : (0 : Int32).toInt = 0 := rfl
  have e1 : (255 : Int32).toInt = 255 := rfl
  obtain ⟨k, hk⟩ : ∃ k : Nat, c.toInt = k := ⟨c.toInt.toNat, by omega⟩
  have hx : c = Int32.ofNat k := Int32.toInt_inj.mp (by rw [hk, Int32.toInt_ofNat_small (by omega)])
  rw [hx]
  exact t ⟨k, by omega⟩
theorem narrow_ch {c : Int32} (h0 : ¬ c < 0) (h1 : ¬ 65535 < c) : narrow .char (.int c) = .int c := by
  have q : narrow .char (.int (pairCh (lo8 c) (hi8 c))) = .int (pairCh (lo8 c) (hi8 c)) := narrow_c _
  rwa [pair_says h0 h1] at q
/-- the array's cell V codes the n chars f 0 .. f (n - 1) by the coder cd, as the JDK does: coder 1 just where some char is above 255 -/
def Cod (cd : Int32) (n : Nat) (f : Nat → Int32) (V : Cell) : Prop := (cd = 0 ∧ V.slots.size = n ∧ ∀ j, j < n → V.slots[j]? = some (.int (lo8 (f j))) ∧ ¬ 255 < f j) ∨ (cd = 1 ∧ V.slots.size = 2 * n ∧ (∀ j, j < n → V.slots[2 * j]? = some (.int (lo8 (f j))) ∧ V.slots[2 * j + 1]? = some (.int (hi8 (f j)))) ∧ ∃ j, j < n ∧ 255 < f j)
theorem Cod.cd {cd : Int32} {n : Nat} {f : Nat → Int32} {V : Cell} (h : Cod cd n f V) : cd = 0 ∨ cd = 1 := h.imp (fun q => q.1) fun q => q.1
theorem Cod.len {cd : Int32} {n : Nat} {f : Nat → Int32} {V : Cell} (h : Cod cd n f V) (hs : V.slots.size < 2 ^ 31) : Int32.ofNat V.slots.size >>> (cd &&& 31) = Int32.ofNat n := by
  rcases h with ⟨rfl, h, -⟩ | ⟨rfl, h, -⟩
  · rw [shr0, h]
  · rw [h, shr1 (by omega)]
/-- **x is a String of the n chars f 0 .. f (n - 1)**, Latin-1 or UTF-16; its array at t has the cell V -/
def Txt (x t : Addr) (V : Cell) (cd : Int32) (n : Nat) (f : Nat → Int32) (U : State) : Prop := Exact "java/lang/String" x U ∧ Has x "java/lang/String" "value" "[B" (.ref t) U ∧ Has x "java/lang/String" "coder" "B" (.int cd) U ∧ XT.Arr .byte t V U ∧ Cod cd n f V ∧ ∀ j, j < n → ¬ f j < 0 ∧ ¬ 65535 < f j
theorem Txt.mv {x t : Addr} {V : Cell} {cd : Int32} {n : Nat} {f : Nat → Int32} {U U' : State} (h : Txt x t V cd n f U) (hal : U.vm.Alike U'.vm) (hh : U'.heap = U.heap) : Txt x t V cd n f U' := ⟨h.1.mv hal hh, h.2.1.mv hal hh, h.2.2.1.mv hal hh, h.2.2.2.1.mv hal hh, h.2.2.2.2⟩
namespace Cdr
def yN : MethodName := ⟨"java/lang/String", "coder", "()B"⟩
abbrev yB : ByteArray := jdk_42_method_152_code
theorem d0 : decode yB 0 = .ok (.getstatic 38, 3) := by decide +kernel
theorem d3 : decode yB 3 = .ok (.ifCond (.eq) 10, 3) := by decide +kernel
theorem d6 : decode yB 6 = .ok (.aload_n 0, 1) := by decide +kernel
theorem d7 : decode yB 7 = .ok (.getfield 15, 3) := by decide +kernel
theorem d10 : decode yB 10 = .ok (.goto 4, 3) := by decide +kernel
theorem d14 : decode yB 14 = .ok (.ireturn, 1) := by decide +kernel
def site : List Cond := [.fieldLink "java/lang/String" 38 "java/lang/String" "COMPACT_STRINGS" "Z", .fieldLink "java/lang/String" 15 "java/lang/String" "coder" "B"]
def tab : Cond := tabOf yN yB 1 (some .byte) site
def P (x : Addr) (cd z : Int32) (args : Array Value) (s : State) : Prop := args = #[.ref x] ∧ Has x "java/lang/String" "coder" "B" (.int cd) s ∧ (cd = 0 ∨ cd = 1) ∧ StaticIs s "java/lang/String" "COMPACT_STRINGS" "Z" (.int z) ∧ ¬ z = 0
def E (cd : Int32) (r : Option Value) (s u : State) : Prop := XT.PureE (some (.int cd)) r s u
theorem law (l : Launch) (x : Addr) (cd z : Int32) : Law l yN 1 0 0 0 yB 1 (some .byte) site (P x cd z) (E cd) [] 0 0 := by
  refine Law.of_walk (plainFor_of_name (by decide +kernel)) (by decide +kernel) (by decide +kernel) (by decide) (fun _ _ h => by rw [h.1]; rfl) (fun _ U U' hal hh h => ⟨h.1, h.2.1.mv hal hh, h.2.2.1, h.2.2.2.1.there hal hh, h.2.2.2.2⟩) (fun r U U' V V' h1 hal h2 h => XT.PureE.mv r U U' V V' h1 hal h2 h) ?_
  intro p e s m args below meth c s₁ X0 hexec hbytes hml hret hlk hnm hown hh0 W hP
  obtain ⟨rfl, hx, hc, s1, hz⟩ := hP
  have c1 : Steps p.tables e below (s₁.setTop (entryFrame m #[.ref x] 1)) (s₁.setTop (mkF m 0 #[.val (.ref x)] [])) := entry rfl
  obtain ⟨T2, X2, q2, st2⟩ := X0.sget hexec hown (wk W (.fieldLink "java/lang/String" 38 "java/lang/String" "COMPACT_STRINGS" "Z")) s1 (fun _ _ h => by rw [hh0]; exact h) (g := (mkF m 0 #[.val (.ref x)] [])) rfl (hb hbytes d0)
  have hh2 := q2.trans hh0
  have c3 : Steps p.tables e below (s₁.setTop (entryFrame m #[.ref x] 1)) (T2.setTop (mkF m 7 #[.val (.ref x)] [.ref x])) := (c1.trans (st2 _ (Steps.refl _))).trans (by
    refine XS.ifNo X2.here hexec rfl (hb hbytes d3) rfl (i0_eq_f hz) ?_
    refine XS.aloadN X2.here hexec rfl (hb hbytes d6) rfl rfl ?_
    exact Steps.refl _)
  obtain ⟨T4, X4, q4, st4⟩ := X2.hget hexec hown (wk W (.fieldLink "java/lang/String" 15 "java/lang/String" "coder" "B")) (hx.mv X2.warmed.alike hh2) (g := (mkF m 7 #[.val (.ref x)] [.ref x])) rfl (rest := []) rfl (hb hbytes d7)
  have c5 : Steps p.tables e below (s₁.setTop (entryFrame m #[.ref x] 1)) (T4.setTop (mkF m 14 #[.val (.ref x)] [.int cd])) := (c3.trans (st4 _ (Steps.refl _))).trans (by
    refine XS.goto X4.here hexec rfl (pc0 := 10) rfl (hb hbytes d10) (by decide) rfl ?_
    exact Steps.refl _)
  exact ⟨T4, some (.int cd), _, _, _, X4, rfl, rfl, rfl, (fun h => by cases h), ⟨rfl, q4.trans hh2⟩, fun fs hl => c5.trans (X4.ireturnOut hexec hret (by rcases hc with rfl | rfl <;> rfl) (Or.inr (Or.inr (Or.inl rfl))) (hb hbytes d14) hl)⟩
end Cdr
namespace Len
def yN : MethodName := ⟨"java/lang/String", "length", "()I"⟩
abbrev yB : ByteArray := jdk_42_method_54_code
theorem d0 : decode yB 0 = .ok (.aload_n 0, 1) := by decide +kernel
theorem d1 : decode yB 1 = .ok (.getfield 9, 3) := by decide +kernel
theorem d4 : decode yB 4 = .ok (.arraylength, 1) := by decide +kernel
theorem d5 : decode yB 5 = .ok (.aload_n 0, 1) := by decide +kernel
theorem d6 : decode yB 6 = .ok (.invokevirtual 335, 3) := by decide +kernel
theorem d9 : decode yB 9 = .ok (.ishr, 1) := by decide +kernel
theorem d10 : decode yB 10 = .ok (.ireturn, 1) := by decide +kernel
def site : List Cond := [.fieldLink "java/lang/String" 9 "java/lang/String" "value" "[B", Cdr.tab] ++ virtW "java/lang/String" 335 "java/lang/String" Cdr.yN Cdr.yN
def tab : Cond := tabOf yN yB 1 (some .int) site
def P (x t : Addr) (V : Cell) (cd : Int32) (n : Nat) (f : Nat → Int32) (z : Int32) (args : Array Value) (s : State) : Prop := args = #[.ref x] ∧ Txt x t V cd n f s ∧ StaticIs s "java/lang/String" "COMPACT_STRINGS" "Z" (.int z) ∧ ¬ z = 0
def E (n : Nat) (r : Option Value) (s u : State) : Prop := XT.PureE (some (.int (Int32.ofNat n))) r s u
/-- length() of a String of n chars, in either coding -/
theorem law (l : Launch) (x t : Addr) (V : Cell) (cd : Int32) (n : Nat) (f : Nat → Int32) (z : Int32) : Law l yN 1 0 1 13 yB 1 (some .int) site (P x t V cd n f z) (E n) [] 0 0 := by
  refine Law.of_walk (plainFor_of_name (by decide +kernel)) (by decide +kernel) (by decide +kernel) (by decide) (fun _ _ h => by rw [h.1]; rfl) (fun _ U U' hal hh h => ⟨h.1, h.2.1.mv hal hh, h.2.2.1.there hal hh, h.2.2.2⟩) (fun r U U' V V' h1 hal h2 h => XT.PureE.mv r U U' V V' h1 hal h2 h) ?_
  intro p e s m args below meth c s₁ X0 hexec hbytes hml hret hlk hnm hown hh0 W hP
  obtain ⟨rfl, hx, s1, hz⟩ := hP
  have v31 := hx.2.2.2.1.2.2.2
  have c1 : Steps p.tables e below (s₁.setTop (entryFrame m #[.ref x] 1)) (s₁.setTop (mkF m 1 #[.val (.ref x)] [.ref x])) := Steps.trans (entry rfl) (by
    show Steps p.tables e below (s₁.setTop (mkF m 0 #[.val (.ref x)] [])) _
    refine XS.aloadN X0.here hexec rfl (hb hbytes d0) rfl rfl ?_
    exact Steps.refl _)
  obtain ⟨T2, X2, q2, st2⟩ := X0.hget hexec hown (wk W (.fieldLink "java/lang/String" 9 "java/lang/String" "value" "[B")) (hx.mv X0.warmed.alike hh0).2.1 (g := (mkF m 1 #[.val (.ref x)] [.ref x])) rfl (rest := []) rfl (hb hbytes d1)
  have hh2 := q2.trans hh0
  have hx2 := hx.mv X2.warmed.alike hh2
  have c3 : Steps p.tables e below (s₁.setTop (entryFrame m #[.ref x] 1)) (T2.setTop (mkF m 6 #[.val (.ref x)] [.ref x, .int (Int32.ofNat V.slots.size)])) := (c1.trans (st2 _ (Steps.refl _))).trans (by
    refine X2.alen hexec hx2.2.2.2.1 rfl rfl (hb hbytes d4) ?_
    refine XS.aloadN X2.here hexec rfl (hb hbytes d5) rfl rfl ?_
    exact Steps.refl _)
  obtain ⟨v4, T4, X4, E4, g4⟩ := X2.callV hexec (Cdr.law l x cd z) hown (wks W (virtW "java/lang/String" 335 "java/lang/String" Cdr.yN Cdr.yN)) rfl (by decide) (wk W Cdr.tab) (W := 1) (Nat.le_of_ble_eq_true rfl) (Nat.le_of_ble_eq_true rfl) (Nat.le_refl _) (Nat.le_refl _) (hx2.1.fc X2.warmed.alike) hx2.1.is (g := (mkF m 6 #[.val (.ref x)] [.ref x, .int (Int32.ofNat V.slots.size)])) rfl (by rw [hml]; rfl) c3 (argsL := []) (rest := [.int (Int32.ofNat V.slots.size)]) rfl rfl (by show 2 * 0 + (1 + 0) ≤ _; decide) (hb hbytes d6) (⟨rfl, hx2.2.2.1, hx.2.2.2.2.1.cd, s1.there X2.warmed.alike hh2, hz⟩)
  obtain ⟨rfl, q4⟩ := E4
  have c5 : Steps p.tables e below (s₁.setTop (entryFrame m #[.ref x] 1)) (T4.setTop (mkF m 10 #[.val (.ref x)] [.int (Int32.ofNat V.slots.size >>> (cd &&& 31))])) := Steps.trans g4 (by
    refine ishr X4.here hexec rfl (hb hbytes d9) rfl ?_
    exact Steps.refl _)
  rw [hx.2.2.2.2.1.len v31] at c5
  exact ⟨T4, some (.int (Int32.ofNat n)), _, _, _, X4, rfl, rfl, rfl, (fun h => by cases h), ⟨rfl, q4.trans hh2⟩, fun fs hl => c5.trans (X4.ireturnOut hexec hret rfl (Or.inl rfl) (hb hbytes d10) hl)⟩
theorem pays {l : Launch} {R : Room} {p : Program} {e : Env} {below : List Frame} {s : State} {sargs : Array Value} {len W : Nat} (x t : Addr) (V : Cell) (cd : Int32) (n : Nat) (f : Nat → Int32) (z : Int32) (htab : tab.before sargs s = true) (hfr : 2 ≤ R.frames) (hlo : W + 25 ≤ R.locals) :
    Back l R p e below s sargs yN len W (fun A₁ a₁ => A₁.cells + 0 ≤ R.cells ∧ A₁.slots + 0 ≤ R.slots ∧ P x t V cd n f z a₁ A₁.U) (fun A₁ _ v₁ B₁ => E n v₁ A₁.U B₁.U ∧ B₁.locs = A₁.locs ++ [] ∧ B₁.cells = A₁.cells + 0 ∧ B₁.slots = A₁.slots + 0) :=
  (law l x t V cd n f z).pays htab hfr (by omega)
end Len
namespace IsL
def yN : MethodName := ⟨"java/lang/String", "isLatin1", "()Z"⟩
abbrev yB : ByteArray := jdk_42_method_154_code
theorem d0 : decode yB 0 = .ok (.getstatic 38, 3) := by decide +kernel
theorem d3 : decode yB 3 = .ok (.ifCond (.eq) 14, 3) := by decide +kernel
theorem d6 : decode yB 6 = .ok (.aload_n 0, 1) := by decide +kernel
theorem d7 : decode yB 7 = .ok (.getfield 15, 3) := by decide +kernel
theorem d10 : decode yB 10 = .ok (.ifCond (.ne) 7, 3) := by decide +kernel
theorem d13 : decode yB 13 = .ok (.iconst 1, 1) := by decide +kernel
theorem d14 : decode yB 14 = .ok (.goto 4, 3) := by decide +kernel
theorem d17 : decode yB 17 = .ok (.iconst 0, 1) := by decide +kernel
theorem d18 : decode yB 18 = .ok (.ireturn, 1) := by decide +kernel
def site : List Cond := [.fieldLink "java/lang/String" 38 "java/lang/String" "COMPACT_STRINGS" "Z", .fieldLink "java/lang/String" 15 "java/lang/String" "coder" "B"]
def tab : Cond := tabOf yN yB 1 (some .boolean) site
def P (x : Addr) (cd z : Int32) (args : Array Value) (s : State) : Prop := args = #[.ref x] ∧ Has x "java/lang/String" "coder" "B" (.int cd) s ∧ (cd = 0 ∨ cd = 1) ∧ StaticIs s "java/lang/String" "COMPACT_STRINGS" "Z" (.int z) ∧ ¬ z = 0
def E (cd : Int32) (r : Option Value) (s u : State) : Prop := XT.PureE (some (.int (1 - cd))) r s u
theorem law (l : Launch) (x : Addr) (cd z : Int32) : Law l yN 1 0 0 0 yB 1 (some .boolean) site (P x cd z) (E cd) [] 0 0 := by
  refine Law.of_walk (plainFor_of_name (by decide +kernel)) (by decide +kernel) (by decide +kernel) (by decide) (fun _ _ h => by rw [h.1]; rfl) (fun _ U U' hal hh h => ⟨h.1, h.2.1.mv hal hh, h.2.2.1, h.2.2.2.1.there hal hh, h.2.2.2.2⟩) (fun r U U' V V' h1 hal h2 h => XT.PureE.mv r U U' V V' h1 hal h2 h) ?_
  intro p e s m args below meth c s₁ X0 hexec hbytes hml hret hlk hnm hown hh0 W hP
  obtain ⟨rfl, hx, hc, s1, hz⟩ := hP
  have c1 : Steps p.tables e below (s₁.setTop (entryFrame m #[.ref x] 1)) (s₁.setTop (mkF m 0 #[.val (.ref x)] [])) := entry rfl
  obtain ⟨T2, X2, q2, st2⟩ := X0.sget hexec hown (wk W (.fieldLink "java/lang/String" 38 "java/lang/String" "COMPACT_STRINGS" "Z")) s1 (fun _ _ h => by rw [hh0]; exact h) (g := (mkF m 0 #[.val (.ref x)] [])) rfl (hb hbytes d0)
  have hh2 := q2.trans hh0
  have c3 : Steps p.tables e below (s₁.setTop (entryFrame m #[.ref x] 1)) (T2.setTop (mkF m 7 #[.val (.ref x)] [.ref x])) := (c1.trans (st2 _ (Steps.refl _))).trans (by
    refine XS.ifNo X2.here hexec rfl (hb hbytes d3) rfl (i0_eq_f hz) ?_
    refine XS.aloadN X2.here hexec rfl (hb hbytes d6) rfl rfl ?_
    exact Steps.refl _)
  obtain ⟨T4, X4, q4, st4⟩ := X2.hget hexec hown (wk W (.fieldLink "java/lang/String" 15 "java/lang/String" "coder" "B")) (hx.mv X2.warmed.alike hh2) (g := (mkF m 7 #[.val (.ref x)] [.ref x])) rfl (rest := []) rfl (hb hbytes d7)
  have c5 : Steps p.tables e below (s₁.setTop (entryFrame m #[.ref x] 1)) (T4.setTop (mkF m 10 #[.val (.ref x)] [.int cd])) := c3.trans (st4 _ (Steps.refl _))
  have c6 : Steps p.tables e below (s₁.setTop (entryFrame m #[.ref x] 1)) (T4.setTop (mkF m 18 #[.val (.ref x)] [.int (1 - cd)])) := by
    rcases hc with rfl | rfl
    · exact c5.trans (by
        refine XS.ifNo X4.here hexec rfl (hb hbytes d10) rfl (i0_ne_f rfl) ?_
        refine iconstV X4.here hexec rfl 1 (hb hbytes d13) (by decide) ?_
        refine XS.goto X4.here hexec rfl (pc0 := 14) rfl (hb hbytes d14) (by decide) rfl ?_
        exact Steps.refl _)
    · exact c5.trans (by
        refine XS.ifYes X4.here hexec rfl (pc0 := 10) rfl (hb hbytes d10) rfl (i0_ne_t (by decide)) (by decide) rfl ?_
        refine iconstV X4.here hexec rfl 0 (hb hbytes d17) (by decide) ?_
        exact Steps.refl _)
  exact ⟨T4, some (.int (1 - cd)), _, _, _, X4, rfl, rfl, rfl, (fun h => by cases h), ⟨rfl, q4.trans hh2⟩, fun fs hl => c6.trans (X4.ireturnOut hexec hret (by rcases hc with rfl | rfl <;> rfl) (Or.inr (Or.inl rfl)) (hb hbytes d18) hl)⟩
end IsL
namespace LChA
def yN : MethodName := ⟨"java/lang/StringLatin1", "charAt", "([BI)C"⟩
abbrev yB : ByteArray := jdk_43_method_2_code
theorem d0 : decode yB 0 = .ok (.iload_n 1, 1) := by decide +kernel
theorem d1 : decode yB 1 = .ok (.aload_n 0, 1) := by decide +kernel
theorem d2 : decode yB 2 = .ok (.arraylength, 1) := by decide +kernel
theorem d3 : decode yB 3 = .ok (.invokestatic 9, 3) := by decide +kernel
theorem d6 : decode yB 6 = .ok (.aload_n 0, 1) := by decide +kernel
theorem d7 : decode yB 7 = .ok (.iload_n 1, 1) := by decide +kernel
theorem d8 : decode yB 8 = .ok (.baload, 1) := by decide +kernel
theorem d9 : decode yB 9 = .ok (.sipush 255, 3) := by decide +kernel
theorem d12 : decode yB 12 = .ok (.iand, 1) := by decide +kernel
theorem d13 : decode yB 13 = .ok (.i2c, 1) := by decide +kernel
theorem d14 : decode yB 14 = .ok (.ireturn, 1) := by decide +kernel
def site : List Cond := [JO.Str_checkIndex.tab] ++ staticW "java/lang/StringLatin1" 9 JO.Str_checkIndex.yN
def tab : Cond := tabOf yN yB 2 (some .char) site
def P (t : Addr) (V : Cell) (i : Nat) (u : Int32) (fm : Value) (args : Array Value) (s : State) : Prop := args = #[.ref t, .int (Int32.ofNat i)] ∧ XT.Arr .byte t V s ∧ V.slots[i]? = some (.int u) ∧ (StaticIs s "jdk/internal/util/Preconditions" "SIOOBE_FORMATTER" "Ljava/util/function/BiFunction;" fm ∧ fm.isRef = true)
def E (u : Int32) (r : Option Value) (s w : State) : Prop := XT.PureE (some (.int (chr8 u))) r s w
theorem law (l : Launch) (t : Addr) (V : Cell) (i : Nat) (u : Int32) (fm : Value) : Law l yN 2 2 2 27 yB 2 (some .char) site (P t V i u fm) (E u) [] 0 0 := by
  refine Law.of_walk (plainFor_of_name (by decide +kernel)) (by decide +kernel) (by decide +kernel) (by decide) (fun _ _ h => by rw [h.1]; rfl) (fun _ U U' hal hh h => ⟨h.1, h.2.1.mv hal hh, h.2.2.1, h.2.2.2.1.there hal hh, h.2.2.2.2⟩) (fun r U U' V V' h1 hal h2 h => XT.PureE.mv r U U' V V' h1 hal h2 h) ?_
  intro p e s m args below meth c s₁ X0 hexec hbytes hml hret hlk hnm hown hh0 W hP
  obtain ⟨rfl, hV, hu, s1, rf⟩ := hP
  have v31 := hV.2.2.2
  have hi : i < V.slots.size := (Array.getElem?_eq_some_iff.mp hu).1
  have c1 : Steps p.tables e below (s₁.setTop (entryFrame m #[.ref t, .int (Int32.ofNat i)] 2)) (s₁.setTop (mkF m 0 #[.val (.ref t), .val (.int (Int32.ofNat i))] [])) := entry rfl
  have c2 : Steps p.tables e below (s₁.setTop (entryFrame m #[.ref t, .int (Int32.ofNat i)] 2)) (s₁.setTop (mkF m 3 #[.val (.ref t), .val (.int (Int32.ofNat i))] [.int (Int32.ofNat V.slots.size), .int (Int32.ofNat i)])) := c1.trans (by
    refine XS.iloadN X0.here hexec rfl (hb hbytes d0) rfl ?_
    refine XS.aloadN X0.here hexec rfl (hb hbytes d1) rfl rfl ?_
    refine X0.alen hexec (hV.mv X0.warmed.alike hh0) rfl rfl (hb hbytes d2) ?_
    exact Steps.refl _)
  obtain ⟨v3, T3, X3, E3, g3⟩ := X0.callS hexec (JO.Str_checkIndex.law l (Int32.ofNat i) (Int32.ofNat V.slots.size) fm) hown (wks W (staticW "java/lang/StringLatin1" 9 JO.Str_checkIndex.yN)) (wk W JO.Str_checkIndex.tab) (W := 0) (Nat.le_of_ble_eq_true rfl) (Nat.le_of_ble_eq_true rfl) (Nat.le_refl _) (Nat.le_refl _) (g := (mkF m 3 #[.val (.ref t), .val (.int (Int32.ofNat i))] [.int (Int32.ofNat V.slots.size), .int (Int32.ofNat i)])) rfl (by rw [hml]; rfl) c2 (argsL := [.int (Int32.ofNat i), .int (Int32.ofNat V.slots.size)]) (rest := []) rfl rfl (by show 2 * 0 + 0 ≤ _; decide) (hb hbytes d3) (⟨rfl, rf, s1.there X0.warmed.alike hh0, Int32.ofNat_not_neg (by omega), lt32 v31 hi⟩)
  obtain ⟨rfl, q3⟩ := E3
  have hh3 := q3.trans hh0
  have c4 : Steps p.tables e below (s₁.setTop (entryFrame m #[.ref t, .int (Int32.ofNat i)] 2)) (T3.setTop (mkF m 14 #[.val (.ref t), .val (.int (Int32.ofNat i))] [.int (chr8 u)])) := Steps.trans g3 (by
    refine XS.aloadN X3.here hexec rfl (hb hbytes d6) rfl rfl ?_
    refine XS.iloadN X3.here hexec rfl (hb hbytes d7) rfl ?_
    refine X3.aget hexec (hV.mv X3.warmed.alike hh3) rfl hu rfl rfl (hb hbytes d8) ?_
    refine sipushV X3.here hexec rfl 255 (hb hbytes d9) (by decide) ?_
    refine XS.iand X3.here hexec rfl (hb hbytes d12) rfl ?_
    refine i2c X3.here hexec rfl (hb hbytes d13) rfl ?_
    exact Steps.refl _)
  exact ⟨T3, some (.int (chr8 u)), _, _, _, X3, rfl, rfl, rfl, (fun h => by cases h), ⟨rfl, hh3⟩, fun fs hl => c4.trans (X3.ireturnOut hexec hret (narrow_c _) (Or.inr (Or.inr (Or.inr (Or.inl rfl)))) (hb hbytes d14) hl)⟩
end LChA
end StrChars
namespace StrChars.Road
open Jvm Sem ClassFile Op Lib Jvm.Stand Jvm.Free Jvm.Free.XT
open Jvm.Lib.Cold (StaticIs)
theorem consq {a : Array Value} {s : State} {c : Jvm.Cond} {L : List Jvm.Cond} (h0 : c.before a s = true) (h : ∀ w ∈ L, w.before a s = true) : ∀ w ∈ c :: L, w.before a s = true := fun w hw => (List.mem_cons.mp hw).elim (fun e => e ▸ h0) (h w)
/-- the words of String.length(), either coding -/
abbrev wordsLen : List Jvm.Cond := [.code Len.yN Len.yB 1 (some .int), .initialized ST, .fieldLink ST 9 ST "value" "[B", .fieldLink ST 38 ST "COMPACT_STRINGS" "Z", .fieldLink ST 15 ST "coder" "B", .code Cdr.yN Cdr.yB 1 (some .byte), .methodLink ST 335 Cdr.yN, .declares Cdr.yN, .selects ST Cdr.yN Cdr.yN, .instanceMethod Cdr.yN]
theorem tabLen_of {a : Array Value} {s : State} (h : ∀ w ∈ wordsLen, w.before a s = true) : Len.tab.before a s = true := by
  have hc : Cdr.tab.before a s = true := unparts (wk h (.code Cdr.yN Cdr.yB 1 (some .byte))) (wks h (.initialized Cdr.yN.cls :: Cdr.site))
  have q := consq hc h
  exact unparts (wk q (.code Len.yN Len.yB 1 (some .int))) (wks q (.initialized Len.yN.cls :: Len.site))
theorem movedLen {Z s : State} {a0 args : Array Value} (hZ : Z.Warmed39 s.vm) (hw : ∀ d ∈ wordsLen, d.before a0 Z = true) : ∀ d ∈ wordsLen, d.before args s = true := fun d hd => by
  have q := hw d hd
  have t : ∀ d ∈ wordsLen, d = .arrayClass .byte ∨ (d.onTables && d.keepsFace) = true := by decide +kernel
  rcases t d hd with rfl | t
  · exact RoadKit.mvA hZ q
  · exact RoadKit.mv hZ q t
/-- the bytes of the chars cs, low before high -/
def wideBytes : List Int32 → List Value
  | [] => []
  | c :: cs => .int (lo8 c) :: .int (hi8 c) :: wideBytes cs
theorem wide_lo (d : Value) : ∀ (cs : List Int32) (j : Nat), j < cs.length → (wideBytes cs).getD (2 * j) d = .int (lo8 (cs.getD j 0))
  | [], j, h => absurd h (Nat.not_lt_zero j)
  | c :: cs, 0, _ => rfl
  | c :: cs, j + 1, h => by
    have q := wide_lo d cs j (by simpa using h)
    rw [show 2 * (j + 1) = 2 * j + 1 + 1 from by omega]
    simpa [wideBytes] using q
theorem wide_hi (d : Value) : ∀ (cs : List Int32) (j : Nat), j < cs.length → (wideBytes cs).getD (2 * j + 1) d = .int (hi8 (cs.getD j 0))
  | [], j, h => absurd h (Nat.not_lt_zero j)
  | c :: cs, 0, _ => rfl
  | c :: cs, j + 1, h => by
    have q := wide_hi d cs j (by simpa using h)
    rw [show 2 * (j + 1) + 1 = 2 * j + 1 + 1 + 1 from by omega]
    simpa [wideBytes] using q
theorem low_at (d : Value) (cs : List Int32) (j : Nat) (h : j < cs.length) : (cs.map fun c => Value.int (lo8 c)).getD j d = .int (lo8 (cs.getD j 0)) := by
  simp [List.getD_eq_getElem?_getD, h]
/-- an array of N2 bytes vs codes the chars cs by the coder cd -/
def CodA (cs : List Int32) (cd N2 : Int32) (vs : List Value) : Prop := (cd = 0 ∧ N2 = Int32.ofNat cs.length ∧ vs = (cs.map fun c => Value.int (lo8 c)) ∧ ∀ c ∈ cs, ¬ 255 < c) ∨ (cd = 1 ∧ N2 = Int32.ofNat (2 * cs.length) ∧ vs = wideBytes cs ∧ ∃ c ∈ cs, 255 < c)
theorem CodA.cod {cs : List Int32} {cd N2 : Int32} {vs : List Value} {V : Cell} (h : CodA cs cd N2 vs) (hn : 2 * cs.length < 2 ^ 31) (hs : V.slots.size = N2.toNatClampNeg) (hv : RoadKit.Has V vs (.int 0)) : Cod cd cs.length (fun j => cs.getD j 0) V := by
  rcases h with ⟨rfl, rfl, rfl, h⟩ | ⟨rfl, rfl, rfl, c, hc, hw⟩
  · rw [n32 (by omega)] at hs
    exact Or.inl ⟨rfl, hs, fun j hj => ⟨by rw [hv j (by omega), low_at _ _ _ hj], by
      have e : cs.getD j 0 = cs[j] := by simp [List.getD_eq_getElem?_getD, hj]
      show ¬ 255 < cs.getD j 0
      rw [e]; exact h _ (List.getElem_mem _)⟩⟩
  · rw [n32 (by omega)] at hs
    obtain ⟨j, hj, rfl⟩ := List.getElem_of_mem hc
    exact Or.inr ⟨rfl, hs, fun j hj => ⟨by rw [hv _ (by omega), wide_lo _ _ _ hj], by rw [hv _ (by omega), wide_hi _ _ _ hj]⟩, j, hj, by
      have e : cs.getD j 0 = cs[j] := by simp [List.getD_eq_getElem?_getD, hj]
      show 255 < cs.getD j 0
      rw [e]; exact hw⟩
/-- an object of exactly java/lang/String, its two fields found: as the laws ask it -/
theorem strObj {Z U : State} {a0 : Array Value} {kI : Nat} (wi : (Jvm.Cond.instantiable ST kI).before a0 Z = true) (al : Z.vm.Alike U.vm) {x : Addr} {v0 c0 : Value} (E : RoadKit.Exa Z U.heap x ST) (V : RoadKit.Fld Z U.heap x ST "value" "[B" v0) (C : RoadKit.Fld Z U.heap x ST "coder" "B" c0) :
    ∃ (D : Cell) (fV fC : Field), Blank ST x D U ∧ Found ST "value" "[B" fV U ∧ Found ST "coder" "B" fC U ∧ D.slots[fV.slot]? = some v0 ∧ D.slots[fC.slot]? = some c0 ∧ RoadKit.slotOf Z ST "value" "[B" = fV.slot ∧ RoadKit.slotOf Z ST "coder" "B" = fC.slot := by
  obtain ⟨D, cfV, kV, iV, fV, hD, gV, stV, knV, obV, asV, slV⟩ := V
  obtain ⟨D', cfC, kC, iC, fC, hD', gC, stC, -, -, asC, slC⟩ := C
  cases hD.symm.trans hD'
  obtain ⟨D2, kD, e1, e2, e3, e4, e5⟩ := E
  cases hD.symm.trans e1
  obtain ⟨c2, k2, i1, i2, i3, -⟩ := Cond.instantiable_spec wi
  cases e2.symm.trans i1
  cases e3.symm.trans i2
  obtain ⟨kU, u1, u2⟩ := al.2.2 _ _ e3
  exact ⟨D, fV, fC, ⟨hD, ⟨knV, fun q hq => by rw [hq] at obV; cases obV⟩, by rw [al.findClass]; exact e2, kU, u1, by rw [u2]; exact i3, by rw [u2]; exact e5 i3⟩, ⟨SBG.found_only al ⟨cfV, kV, iV, gV⟩, stV⟩, ⟨SBG.found_only al ⟨cfC, kC, iC, gC⟩, stC⟩, slV, slC, by simp [RoadKit.slotOf, gV], by simp [RoadKit.slotOf, gC]⟩
theorem sta_is {Z U : State} (al : Z.vm.Alike U.vm) {C n d : String} {v : Value} (S : RoadKit.Sta Z U.heap C n d v) : StaticIs U C n d v := by
  obtain ⟨cfS, iS, kS, fS, st, cS, t1, t2, t3, t4, t5, t6, t7⟩ := S
  exact StaticIs.there (s := { Z with heap := U.heap }) ⟨cfS, iS, kS, fS, st, cS, t1, t2, t3, t4, t5, (fun q => by rw [q] at t6; cases t6), t7⟩ al rfl
/-- **length() OF SUCH A STRING** -/
theorem lenW {p : Program} {l : Launch} {e : Env} {R : Room} {s : State} {args : Array Value} {below : List Frame} {len W : Nat} {Z : State} {a0 : Array Value} {h : Heap} (hZ : Z.Warmed39 s.vm) (hw : ∀ d ∈ wordsLen, d.before a0 Z = true) {kI : Nat} (wi : (Jvm.Cond.instantiable ST kI).before a0 Z = true)
    {x t : Addr} {kb : ClassId} {cs : List Int32} {cd N2 z : Int32} {vs : List Value} (E : RoadKit.Exa Z h x ST) (V : RoadKit.Fld Z h x ST "value" "[B" (.ref t)) (C : RoadKit.Fld Z h x ST "coder" "B" (.int cd)) (K : RoadKit.Arv Z h t kb .byte N2 vs (.int 0)) (hc : CodA cs cd N2 vs) (hb : ∀ c ∈ cs, ¬ c < 0 ∧ ¬ (65535 : Int32) < c)
    (S : RoadKit.Sta Z h ST "COMPACT_STRINGS" "Z" (.int z)) (hz : ¬ z = 0) (l2 : cs.length ≤ 4000) (hfr : 2 ≤ R.frames) (hlo : W + 25 ≤ R.locals) :
    Back l R p e below s args (⟨"java/lang/String", "length", "()I"⟩ : MethodName) len W (fun P a => a = #[.ref x] ∧ P.U.heap = h ∧ P.cells + 0 ≤ R.cells ∧ P.slots + 0 ≤ R.slots)
      (fun P _ v B => ∃ L, (v = some (.int (Int32.ofNat cs.length)) ∧ L = [] ∧ B.U.heap = h) ∧ B.locs = P.locs ++ L ∧ B.cells = P.cells + 0 ∧ B.slots = P.slots + 0) := by
  obtain ⟨A, K1, K2, K3, K4, K5, K6⟩ := K
  have hcod := hc.cod (by omega) K3 K5
  intro m meth c P g ig mk a X hg hsize hdg hW hn hp'
  obtain ⟨rfl, rfl, r1, r2⟩ := hp'
  have al : Z.vm.Alike P.U.vm := hZ.alike.trans X.warmed.alike
  obtain ⟨D, fV, fC, hB, F1, F2, g1, g2, -, -⟩ := strObj wi al E V C
  have hx : Txt x t A cd cs.length (fun j => cs.getD j 0) P.U := ⟨⟨_, hB.2.2.1, D, hB.1, rfl, by cases q : D.vm <;> first | rfl | exact absurd q (hB.2.1.2 _)⟩, Has.of hB F1 g1, Has.of hB F2 g2, ⟨K1.1, State.isArrayOf_alike al K1.2.1, K1.2.2, by rcases hcod with ⟨-, q, -⟩ | ⟨-, q, -⟩ <;> omega⟩, hcod, fun j hj => by
    have e : cs.getD j 0 = cs[j] := by simp [List.getD_eq_getElem?_getD, hj]
    show ¬ cs.getD j 0 < 0 ∧ ¬ 65535 < cs.getD j 0
    rw [e]; exact hb _ (List.getElem_mem _)⟩
  obtain ⟨v, B, X', ⟨⟨hv, hh⟩, hl, hk, hs⟩, st⟩ := Len.pays x t A cd cs.length (fun j => cs.getD j 0) z (tabLen_of (movedLen hZ hw)) hfr hlo m meth c P g ig mk _ X hg hsize hdg hW hn ⟨r1, r2, rfl, hx, sta_is al S, hz⟩
  exact ⟨v, B, X', ⟨[], ⟨hv, rfl, hh⟩, hl, hk, hs⟩, st⟩
end StrChars.Road
namespace StrChars.Road
open Jvm Sem ClassFile Op Lib Jvm.Stand Jvm.Free Jvm.Free.XT
open Jvm.Lib.Cold (StaticIs)
/-- the road's facts of a String, as the laws ask it -/
theorem txt_of {Z U : State} {a0 : Array Value} {kI : Nat} (wi : (Jvm.Cond.instantiable ST kI).before a0 Z = true) (al : Z.vm.Alike U.vm) {x t : Addr} {kb : ClassId} {cs : List Int32} {cd N2 : Int32} {vs : List Value} (E : RoadKit.Exa Z U.heap x ST) (V : RoadKit.Fld Z U.heap x ST "value" "[B" (.ref t)) (C : RoadKit.Fld Z U.heap x ST "coder" "B" (.int cd)) (K : RoadKit.Arv Z U.heap t kb .byte N2 vs (.int 0)) (hc : CodA cs cd N2 vs) (hb : ∀ c ∈ cs, ¬ c < 0 ∧ ¬ (65535 : Int32) < c) (l2 : cs.length ≤ 4000) :
    ∃ A, Txt x t A cd cs.length (fun j => cs.getD j 0) U := by
  obtain ⟨A, K1, K2, K3, K4, K5, K6⟩ := K
  have hcod := hc.cod (by omega) K3 K5
  obtain ⟨D, fV, fC, hB, F1, F2, g1, g2, -, -⟩ := strObj wi al E V C
  exact ⟨A, ⟨_, hB.2.2.1, D, hB.1, rfl, by cases q : D.vm <;> first | rfl | exact absurd q (hB.2.1.2 _)⟩, Has.of hB F1 g1, Has.of hB F2 g2, ⟨K1.1, State.isArrayOf_alike al K1.2.1, K1.2.2, by rcases hcod with ⟨-, q, -⟩ | ⟨-, q, -⟩ <;> omega⟩, hcod, fun j hj => by
    have e : cs.getD j 0 = cs[j] := by simp [List.getD_eq_getElem?_getD, hj]
    show ¬ cs.getD j 0 < 0 ∧ ¬ 65535 < cs.getD j 0
    rw [e]; exact hb _ (List.getElem_mem _)⟩
end StrChars.Road
namespace StrChars
open Jvm Sem ClassFile Op Lib Jvm.Stand Jvm.Free.XT Jvm.Free.ALB Jvm.Free.JM Jvm.Free
open Jvm.Lib.Cold (StaticIs)
namespace ChN
def yN : MethodName := ⟨"java/lang/String", "charAt", "(I)C"⟩
abbrev yB : ByteArray := jdk_42_method_56_code
theorem d0 : decode yB 0 = .ok (.aload_n 0, 1) := by decide +kernel
theorem d1 : decode yB 1 = .ok (.invokevirtual 492, 3) := by decide +kernel
theorem d4 : decode yB 4 = .ok (.ifCond (.eq) 12, 3) := by decide +kernel
theorem d7 : decode yB 7 = .ok (.aload_n 0, 1) := by decide +kernel
theorem d8 : decode yB 8 = .ok (.getfield 9, 3) := by decide +kernel
theorem d11 : decode yB 11 = .ok (.iload_n 1, 1) := by decide +kernel
theorem d12 : decode yB 12 = .ok (.invokestatic 495, 3) := by decide +kernel
theorem d15 : decode yB 15 = .ok (.ireturn, 1) := by decide +kernel
def site : List Cond := [.fieldLink "java/lang/String" 9 "java/lang/String" "value" "[B", IsL.tab, LChA.tab] ++ virtW "java/lang/String" 492 "java/lang/String" IsL.yN IsL.yN ++ staticW "java/lang/String" 495 LChA.yN
def tab : Cond := tabOf yN yB 2 (some .char) site
def P (x t : Addr) (V : Cell) (n : Nat) (f : Nat → Int32) (z : Int32) (fm : Value) (i : Nat) (args : Array Value) (s : State) : Prop := args = #[.ref x, .int (Int32.ofNat i)] ∧ Txt x t V 0 n f s ∧ i < n ∧ StaticIs s "java/lang/String" "COMPACT_STRINGS" "Z" (.int z) ∧ ¬ z = 0 ∧ StaticIs s "jdk/internal/util/Preconditions" "SIOOBE_FORMATTER" "Ljava/util/function/BiFunction;" fm ∧ fm.isRef = true
def E (f : Nat → Int32) (i : Nat) (r : Option Value) (s u : State) : Prop := XT.PureE (some (.int (f i))) r s u
/-- charAt(i) of a Latin-1 String of n chars, i < n: f i -/
theorem law (l : Launch) (x t : Addr) (V : Cell) (n : Nat) (f : Nat → Int32) (z : Int32) (fm : Value) (i : Nat) : Law l yN 2 1 3 40 yB 2 (some .char) site (P x t V n f z fm i) (E f i) [] 0 0 := by
  refine Law.of_walk (plainFor_of_name (by decide +kernel)) (by decide +kernel) (by decide +kernel) (by decide) (fun _ _ h => by rw [h.1]; rfl) (fun _ U U' hal hh h => ⟨h.1, h.2.1.mv hal hh, h.2.2.1, h.2.2.2.1.there hal hh, h.2.2.2.2.1, h.2.2.2.2.2.1.there hal hh, h.2.2.2.2.2.2⟩) (fun r U U' V V' h1 hal h2 h => XT.PureE.mv r U U' V V' h1 hal h2 h) ?_
  intro p e s m args below meth c s₁ X0 hexec hbytes hml hret hlk hnm hown hh0 W hP
  obtain ⟨rfl, hx, hi, s1, hz, s3, rf⟩ := hP
  have v31 := hx.2.2.2.1.2.2.2
  have hr := hx.2.2.2.2.2 i hi
  have hx0 := hx.mv X0.warmed.alike hh0
  have c1 : Steps p.tables e below (s₁.setTop (entryFrame m #[.ref x, .int (Int32.ofNat i)] 2)) (s₁.setTop (mkF m 1 #[.val (.ref x), .val (.int (Int32.ofNat i))] [.ref x])) := Steps.trans (entry rfl) (by
    show Steps p.tables e below (s₁.setTop (mkF m 0 #[.val (.ref x), .val (.int (Int32.ofNat i))] [])) _
    refine XS.aloadN X0.here hexec rfl (hb hbytes d0) rfl rfl ?_
    exact Steps.refl _)
  obtain ⟨v2, T2, X2, E2, g2⟩ := X0.callV hexec (IsL.law l x 0 z) hown (wks W (virtW "java/lang/String" 492 "java/lang/String" IsL.yN IsL.yN)) rfl (by decide) (wk W IsL.tab) (W := 0) (Nat.le_of_ble_eq_true rfl) (Nat.le_of_ble_eq_true rfl) (Nat.le_refl _) (Nat.le_refl _) (hx0.1.fc X0.warmed.alike) hx0.1.is (g := (mkF m 1 #[.val (.ref x), .val (.int (Int32.ofNat i))] [.ref x])) rfl (by rw [hml]; rfl) c1 (argsL := []) (rest := []) rfl rfl (by show 2 * 0 + 0 ≤ _; decide) (hb hbytes d1) (⟨rfl, hx0.2.2.1, hx.2.2.2.2.1.cd, s1.there X0.warmed.alike hh0, hz⟩)
  obtain ⟨rfl, q2⟩ := E2
  have hh2 := q2.trans hh0
  have hx2 := hx.mv X2.warmed.alike hh2
  obtain ⟨-, k1, k2⟩ | ⟨k0, -⟩ := hx.2.2.2.2.1
  · have c3 : Steps p.tables e below (s₁.setTop (entryFrame m #[.ref x, .int (Int32.ofNat i)] 2)) (T2.setTop (mkF m 8 #[.val (.ref x), .val (.int (Int32.ofNat i))] [.ref x])) := Steps.trans g2 (by
      refine XS.ifNo X2.here hexec rfl (hb hbytes d4) rfl (i0_eq_f (by decide)) ?_
      refine XS.aloadN X2.here hexec rfl (hb hbytes d7) rfl rfl ?_
      exact Steps.refl _)
    obtain ⟨T4, X4, q4, st4⟩ := X2.hget hexec hown (wk W (.fieldLink "java/lang/String" 9 "java/lang/String" "value" "[B")) hx2.2.1 (g := (mkF m 8 #[.val (.ref x), .val (.int (Int32.ofNat i))] [.ref x])) rfl (rest := []) rfl (hb hbytes d8)
    have hh4 := q4.trans hh2
    have c5 : Steps p.tables e below (s₁.setTop (entryFrame m #[.ref x, .int (Int32.ofNat i)] 2)) (T4.setTop (mkF m 12 #[.val (.ref x), .val (.int (Int32.ofNat i))] [.int (Int32.ofNat i), .ref t])) := (c3.trans (st4 _ (Steps.refl _))).trans (by
      refine XS.iloadN X4.here hexec rfl (hb hbytes d11) rfl ?_
      exact Steps.refl _)
    obtain ⟨v6, T6, X6, E6, g6⟩ := X4.callS hexec (LChA.law l t V i (lo8 (f i)) fm) hown (wks W (staticW "java/lang/String" 495 LChA.yN)) (wk W LChA.tab) (W := 0) (Nat.le_of_ble_eq_true rfl) (Nat.le_of_ble_eq_true rfl) (Nat.le_refl _) (Nat.le_refl _) (g := (mkF m 12 #[.val (.ref x), .val (.int (Int32.ofNat i))] [.int (Int32.ofNat i), .ref t])) rfl (by rw [hml]; rfl) c5 (argsL := [.ref t, .int (Int32.ofNat i)]) (rest := []) rfl rfl (by show 2 * 0 + 0 ≤ _; decide) (hb hbytes d12) (⟨rfl, hx.2.2.2.1.mv X4.warmed.alike hh4, (k2 i hi).1, s3.there X4.warmed.alike hh4, rf⟩)
    obtain ⟨rfl, q6⟩ := E6
    rw [chr8_lo8 hr.1 (k2 i hi).2] at g6
    exact ⟨T6, some (.int (f i)), _, _, _, X6, rfl, rfl, rfl, (fun h => by cases h), ⟨rfl, q6.trans hh4⟩, fun fs hl => Steps.trans g6 (X6.ireturnOut hexec hret (narrow_ch hr.1 hr.2) (Or.inr (Or.inr (Or.inr (Or.inl rfl)))) (hb hbytes d15) hl)⟩
  · exact absurd k0 (by decide)
theorem pays {l : Launch} {R : Room} {p : Program} {e : Env} {below : List Frame} {s : State} {sargs : Array Value} {len W : Nat} (x t : Addr) (V : Cell) (n : Nat) (f : Nat → Int32) (z : Int32) (fm : Value) (i : Nat) (htab : tab.before sargs s = true) (hfr : 4 ≤ R.frames) (hlo : W + 53 ≤ R.locals) :
    Back l R p e below s sargs yN len W (fun A₁ a₁ => A₁.cells + 0 ≤ R.cells ∧ A₁.slots + 0 ≤ R.slots ∧ P x t V n f z fm i a₁ A₁.U) (fun A₁ _ v₁ B₁ => E f i v₁ A₁.U B₁.U ∧ B₁.locs = A₁.locs ++ [] ∧ B₁.cells = A₁.cells + 0 ∧ B₁.slots = A₁.slots + 0) :=
  (law l x t V n f z fm i).pays htab hfr (by omega)
end ChN
end StrChars
namespace StrChars.Road
open Jvm Sem ClassFile Op Lib Jvm.Stand Jvm.Free Jvm.Free.XT
open Jvm.Lib.Cold (StaticIs)
/-- the words of String.charAt(int), the Latin-1 road alone -/
abbrev wordsChN : List Jvm.Cond := [.code ChN.yN ChN.yB 2 (some .char), .initialized ST, .fieldLink ST 9 ST "value" "[B", .fieldLink ST 38 ST "COMPACT_STRINGS" "Z", .fieldLink ST 15 ST "coder" "B", .code IsL.yN IsL.yB 1 (some .boolean), .methodLink ST 492 IsL.yN, .declares IsL.yN, .selects ST IsL.yN IsL.yN, .instanceMethod IsL.yN,
  .methodLink ST 495 LChA.yN, .static LChA.yN, .code LChA.yN LChA.yB 2 (some .char), .initialized "java/lang/StringLatin1", .methodLink "java/lang/StringLatin1" 9 JO.Str_checkIndex.yN, .static JO.Str_checkIndex.yN, .code JO.Str_checkIndex.yN JO.Str_checkIndex.yB 2 none,
  .fieldLink ST 1053 "jdk/internal/util/Preconditions" "SIOOBE_FORMATTER" "Ljava/util/function/BiFunction;", .methodLink ST 1059 JC.PreCheck.yN, .static JC.PreCheck.yN, .code JC.PreCheck.yN JC.PreCheck.yB 3 (some .int), .initialized "jdk/internal/util/Preconditions"]
theorem tabChN_of {a : Array Value} {s : State} (h : ∀ w ∈ wordsChN, w.before a s = true) : ChN.tab.before a s = true := by
  have hp : JC.PreCheck.tab.before a s = true := unparts (wk h (.code JC.PreCheck.yN JC.PreCheck.yB 3 (some .int))) (wks h (.initialized JC.PreCheck.yN.cls :: JC.PreCheck.site))
  have qk := consq hp h
  have hk : JO.Str_checkIndex.tab.before a s = true := unparts (wk qk (.code JO.Str_checkIndex.yN JO.Str_checkIndex.yB 2 none)) (wks qk (.initialized JO.Str_checkIndex.yN.cls :: JO.Str_checkIndex.site))
  have ql := consq hk h
  have hl : LChA.tab.before a s = true := unparts (wk ql (.code LChA.yN LChA.yB 2 (some .char))) (wks ql (.initialized LChA.yN.cls :: LChA.site))
  have hi : IsL.tab.before a s = true := unparts (wk h (.code IsL.yN IsL.yB 1 (some .boolean))) (wks h (.initialized IsL.yN.cls :: IsL.site))
  have q := consq hi (consq hl h)
  exact unparts (wk q (.code ChN.yN ChN.yB 2 (some .char))) (wks q (.initialized ChN.yN.cls :: ChN.site))
theorem movedChN {Z s : State} {a0 args : Array Value} (hZ : Z.Warmed39 s.vm) (hw : ∀ d ∈ wordsChN, d.before a0 Z = true) : ∀ d ∈ wordsChN, d.before args s = true := fun d hd => by
  have t : ∀ d ∈ wordsChN, (d.onTables && d.keepsFace) = true := by decide +kernel
  exact RoadKit.mv hZ (hw d hd) (t d hd)
/-- **charAt(i) OF A LATIN-1 STRING**, i < n: the char -/
theorem chN {p : Program} {l : Launch} {e : Env} {R : Room} {s : State} {args : Array Value} {below : List Frame} {len W : Nat} {Z : State} {a0 : Array Value} {h : Heap} (hZ : Z.Warmed39 s.vm) (hw : ∀ d ∈ wordsChN, d.before a0 Z = true) {kI : Nat} (wi : (Jvm.Cond.instantiable ST kI).before a0 Z = true)
    {x t : Addr} {kb : ClassId} {cs : List Int32} {N2 z : Int32} {vs : List Value} {fm : Value} {i : Nat} {j : Int32} (E : RoadKit.Exa Z h x ST) (V : RoadKit.Fld Z h x ST "value" "[B" (.ref t)) (C : RoadKit.Fld Z h x ST "coder" "B" (.int 0)) (K : RoadKit.Arv Z h t kb .byte N2 vs (.int 0)) (hc : CodA cs 0 N2 vs) (hb : ∀ c ∈ cs, ¬ c < 0 ∧ ¬ (65535 : Int32) < c)
    (S : RoadKit.Sta Z h ST "COMPACT_STRINGS" "Z" (.int z)) (hz : ¬ z = 0) (F : RoadKit.Sta Z h "jdk/internal/util/Preconditions" "SIOOBE_FORMATTER" "Ljava/util/function/BiFunction;" fm) (rf : fm.isRef = true) (l2 : cs.length ≤ 4000) (hi : i < cs.length) (hj : j = Int32.ofNat i) (hfr : 4 ≤ R.frames) (hlo : W + 53 ≤ R.locals) :
    Back l R p e below s args (⟨"java/lang/String", "charAt", "(I)C"⟩ : MethodName) len W (fun P a => a = #[.ref x, .int j] ∧ P.U.heap = h ∧ P.cells + 0 ≤ R.cells ∧ P.slots + 0 ≤ R.slots)
      (fun P _ v B => ∃ L, (v = some (.int (cs.getD i 0)) ∧ L = [] ∧ B.U.heap = h) ∧ B.locs = P.locs ++ L ∧ B.cells = P.cells + 0 ∧ B.slots = P.slots + 0) := by
  subst hj
  intro m meth c P g ig mk a X hg hsize hdg hW hn hp'
  obtain ⟨rfl, rfl, r1, r2⟩ := hp'
  have al : Z.vm.Alike P.U.vm := hZ.alike.trans X.warmed.alike
  obtain ⟨A, hx⟩ := txt_of wi al E V C K hc hb l2
  obtain ⟨v, B, X', ⟨⟨hv, hh⟩, hl, hk, hs⟩, st⟩ := ChN.pays x t A cs.length (fun j => cs.getD j 0) z fm i (tabChN_of (movedChN hZ hw)) hfr hlo m meth c P g ig mk _ X hg hsize hdg hW hn ⟨r1, r2, rfl, hx, hi, sta_is al S, hz, sta_is al F, rf⟩
  exact ⟨v, B, X', ⟨[], ⟨hv, rfl, hh⟩, hl, hk, hs⟩, st⟩
/-- what backV says of its String, as the contracts of this text ask it: cs's low bytes, coder 0 -/
theorem codOf {cs : List Int32} {n : Nat} (hn : cs.length = n) (hb : ∀ c ∈ cs, ¬ 255 < c) : CodA cs 0 (Int32.ofNat n) ((cs.map lo8).map Value.int) := Or.inl ⟨rfl, by rw [hn], by simp [List.map_map, Function.comp_def], hb⟩
end StrChars.Road
end Jvm.Pilot.@@N@@
namespace Jvm.Pilot.@@N@@
open Jvm Jvm.ClassFile Sem Op Lib Jvm.Free Jvm.Stand Jvm.LawKit Jvm.RoadKit Bundle Jvm.Pilot.@@N@@.Jvm.D
theorem wq {Z : State} {a0 : Array Value} {d : Jvm.Cond} (hw : ∀ d ∈ tables_1, d.before a0 Z = true) (i : Nat) (h : tables_1[i]? = some d) : d.before a0 Z = true := hw _ (List.mem_of_getElem? h)
def StrA (Z : State) (h : Heap) (x : Addr) (cs : List Int32) : Prop := ∃ (t : Addr) (kb : ClassId) (cd N2 : Int32) (vs : List Value), Exa Z h x "java/lang/String" ∧ Fld Z h x "java/lang/String" "value" "[B" (.ref t) ∧ Fld Z h x "java/lang/String" "coder" "B" (.int cd) ∧ Arv Z h t kb .byte N2 vs (.int 0) ∧ StrChars.Road.CodA cs cd N2 vs ∧ (∀ c ∈ cs, ¬ c < 0 ∧ ¬ (65535 : Int32) < c)
def Cmp (Z : State) (h : Heap) : Prop := ∃ z : Int32, Sta Z h "java/lang/String" "COMPACT_STRINGS" "Z" (.int z) ∧ ¬ z = 0
theorem Cmp.ext {Z : State} {h h' : Heap} (F : Cmp Z h) (E : Ext h h') : Cmp Z h' := by obtain ⟨z, S, q⟩ := F; exact ⟨z, S.ext E, q⟩
theorem StrA.ext {Z : State} {h h' : Heap} {x : Addr} {cs : List Int32} (F : StrA Z h x cs) (E : Ext h h') : StrA Z h' x cs := by
  obtain ⟨t, kb, cd, N2, vs, a1, a2, a3, a4, a5, a6⟩ := F
  exact ⟨t, kb, cd, N2, vs, a1.ext E, a2.ext E, a3.ext E, a4.ext E, a5, a6⟩
theorem StrA.exa {Z : State} {h : Heap} {x : Addr} {cs : List Int32} (F : StrA Z h x cs) : Exa Z h x "java/lang/String" := by obtain ⟨t, kb, cd, N2, vs, a1, -⟩ := F; exact a1
theorem up16 (cs : List Int32) (h : ∀ c ∈ cs, ¬ c < 0 ∧ ¬ (255 : Int32) < c) : ∀ c ∈ cs, ¬ c < 0 ∧ ¬ (65535 : Int32) < c := fun c hc => ⟨(h c hc).1, fun q => (h c hc).2 (by rw [Int32.lt_iff_toInt_lt] at q ⊢; have e1 : (65535 : Int32).toInt = 65535 := rfl; have e2 : (255 : Int32).toInt = 255 := rfl; omega)⟩
theorem and255_nat (x : Int32) : ∃ k : Fin 256, (x &&& (255 : Int32)) = Int32.ofNat k.val := by
  have h : (x &&& 255).toBitVec.toNat < 256 := by
    simp only [Int32.toBitVec_and, BitVec.toNat_and]
    exact Nat.lt_succ_of_le Nat.and_le_right
  refine ⟨⟨_, h⟩, ?_⟩
  apply Int32.toBitVec_inj.mp
  show _ = BitVec.ofNat 32 _
  rw [BitVec.ofNat_toNat]; simp
def C8 (c : Int32) : Prop := (¬ c < 0 ∧ ¬ (255 : Int32) < c) ∧ nar .char c = c
theorem c8_and (x : Int32) : C8 ((x &&& (255 : Int32)).toUInt32.toUInt16.toUInt32.toInt32) := by
  obtain ⟨k, e⟩ := and255_nat x
  rw [e]
  have t : ∀ k : Fin 256, (¬ ((Int32.ofNat k.val).toUInt32.toUInt16.toUInt32.toInt32) < 0 ∧ ¬ (255 : Int32) < ((Int32.ofNat k.val).toUInt32.toUInt16.toUInt32.toInt32)) ∧ nar .char ((Int32.ofNat k.val).toUInt32.toUInt16.toUInt32.toInt32) = ((Int32.ofNat k.val).toUInt32.toUInt16.toUInt32.toInt32) := by decide +kernel
  exact t k
theorem c8_nil : ∀ c ∈ ([] : List Int32), ¬ c < 0 ∧ ¬ (255 : Int32) < c := fun _ q => nomatch q
theorem c8_cons {c : Int32} {L : List Int32} (q : ¬ c < 0 ∧ ¬ (255 : Int32) < c) (r : ∀ c ∈ L, ¬ c < 0 ∧ ¬ (255 : Int32) < c) : ∀ x ∈ c :: L, ¬ x < 0 ∧ ¬ (255 : Int32) < x := fun x z => (List.mem_cons.mp z).elim (fun u => u ▸ q) (r x)
theorem strOf {Z : State} {h : Heap} {x t : Addr} {kb : ClassId} {cs : List Int32} {n : Nat} {N : Int32} (hn : cs.length = n) (hN : N = Int32.ofNat n) (hp : ∀ c ∈ cs, ¬ c < 0 ∧ ¬ (255 : Int32) < c) (E : Exa Z h x "java/lang/String") (V : Fld Z h x "java/lang/String" "value" "[B" (.ref t)) (C : Fld Z h x "java/lang/String" "coder" "B" (.int 0)) (K : Arv Z h t kb .byte N ((cs.map (fun c => c.toInt8.toInt32)).map Value.int) (.int 0)) : StrA Z h x cs := by
  subst hN
  exact ⟨t, kb, 0, _, _, E, V, C, K, StrChars.Road.codOf hn (fun c hc => (hp c hc).2), up16 cs hp⟩
theorem ws_new : ∀ d ∈ StrChars.Road.words, d ∈ tables_1 := by decide +kernel
theorem backS {p : Program} {l : Launch} {e : Env} {R : Room} {s : State} {args : Array Value} {below : List Frame} {len W : Nat} {Z : State} {a0 : Array Value} {h : Heap} (hZ : Z.Warmed39 s.vm) (hw : ∀ d ∈ tables_1, d.before a0 Z = true) {x b : Addr} {kC : ClassId} {cs : List Int32} {N : Int32} {n n0 : Nat} (hx0 : n0 ≤ x) (hh0 : n0 ≤ h.size) (E : Exa Z h x "java/lang/String") (V : Fld Z h x "java/lang/String" "value" "[B" .null) (C : Fld Z h x "java/lang/String" "coder" "B" (.int 0)) (K : Arv Z h b kC .char N (cs.map Value.int) (.int 0)) (CS : Cmp Z h) (hn : cs.length = n) (hN : N = Int32.ofNat n) (l0 : 0 < n) (l2 : n ≤ 4000) (hp : ∀ c ∈ cs, ¬ c < 0 ∧ ¬ (255 : Int32) < c) (hfr : 4 ≤ R.frames) (hlo : W + 65 ≤ R.locals) :
    Back l R p e below s args (⟨"java/lang/String", "<init>", "([C)V"⟩ : MethodName) len W (fun P a => a = #[.ref x, .ref b] ∧ P.U.heap = h ∧ P.cells + 1 ≤ R.cells ∧ P.slots + n ≤ R.slots)
      (fun P _ v B => ∃ L, (v = none ∧ Fr n0 L ∧ Keep h B.U.heap [x] ∧ StrA Z B.U.heap x cs) ∧ B.locs = P.locs ++ L ∧ B.cells = P.cells + 1 ∧ B.slots = P.slots + n) := by
  obtain ⟨z, S, hz⟩ := CS
  refine Back.mono (StrChars.Road.backV hZ (fun d hd => hw d (ws_new d hd)) (kI := 4) (wq hw 6 rfl) hx0 hh0 E V C K S hz hn hN l0 l2 hp rfl hfr hlo) (fun _ _ hp => hp) (fun P a v B _ hq => ?_)
  obtain ⟨L, ⟨q1, q2, q3, q4, q5, t, kb, -, -, -, q6, q7⟩, hl⟩ := hq
  exact ⟨L, ⟨q1, q2, q3, strOf hn hN hp q4 q6 q5 q7⟩, hl⟩
theorem ws_len : ∀ d ∈ StrChars.Road.wordsLen, d ∈ tables_1 := by decide +kernel
theorem lenS {p : Program} {l : Launch} {e : Env} {R : Room} {s : State} {args : Array Value} {below : List Frame} {len W : Nat} {Z : State} {a0 : Array Value} {h : Heap} (hZ : Z.Warmed39 s.vm) (hw : ∀ d ∈ tables_1, d.before a0 Z = true) {x : Addr} {cs : List Int32} (A : StrA Z h x cs) (CS : Cmp Z h) (l1 : cs.length ≤ 4000) (hfr : 2 ≤ R.frames) (hlo : W + 25 ≤ R.locals) :
    Back l R p e below s args (⟨"java/lang/String", "length", "()I"⟩ : MethodName) len W (fun P a => a = #[.ref x] ∧ P.U.heap = h ∧ P.cells + 0 ≤ R.cells ∧ P.slots + 0 ≤ R.slots)
      (fun P _ v B => ∃ L, (v = some (.int (Int32.ofNat cs.length)) ∧ L = [] ∧ B.U.heap = h) ∧ B.locs = P.locs ++ L ∧ B.cells = P.cells + 0 ∧ B.slots = P.slots + 0) := by
  obtain ⟨z, S, hz⟩ := CS
  obtain ⟨t, kb, cd, N2, vs, a1, a2, a3, a4, a5, a6⟩ := A
  exact StrChars.Road.lenW hZ (fun d hd => hw d (ws_len d hd)) (kI := 4) (wq hw 6 rfl) a1 a2 a3 a4 a5 a6 S hz l1 hfr hlo
theorem StrA.bd {Z : State} {h : Heap} {x : Addr} {cs : List Int32} (F : StrA Z h x cs) : ∀ c ∈ cs, ¬ c < 0 ∧ ¬ (65535 : Int32) < c := by obtain ⟨t, kb, cd, N2, vs, -, -, -, -, -, q⟩ := F; exact q
abbrev pD0 : Nat := 0
abbrev rO0 : Room := { frames := 0, cells := 0, slots := 0, locals := 0 }
abbrev rO1 : Room := { frames := 1, cells := 0, slots := 0, locals := 14 }
abbrev rO2 : Room := { frames := 2, cells := 0, slots := 0, locals := 27 }
abbrev rO3 : Room := { frames := 3, cells := 0, slots := 0, locals := 40 }
abbrev rO4 : Room := { frames := 4, cells := 0, slots := 0, locals := 53 }
abbrev rO5 : Room := { frames := 1, cells := 4, slots := 8, locals := 12 }
abbrev rO6 : Room := { frames := 2, cells := 4, slots := 8, locals := 29 }
abbrev rO7 : Room := { frames := 1, cells := 1, slots := 2, locals := 12 }
abbrev rO8 : Room := { frames := 2, cells := 1, slots := 2, locals := 24 }
abbrev rO9 : Room := { frames := 1, cells := 1, slots := 4, locals := 12 }
abbrev rO10 : Room := { frames := 2, cells := 1, slots := 4, locals := 24 }
abbrev rO11 : Room := { frames := 1, cells := 1, slots := 6, locals := 12 }
abbrev rO12 : Room := { frames := 2, cells := 1, slots := 6, locals := 24 }
abbrev rO13 : Room := { frames := 3, cells := 2, slots := 9, locals := 40 }
abbrev rO14 : Room := { frames := 4, cells := 2, slots := 9, locals := 57 }
abbrev rO15 : Room := { frames := 5, cells := 2, slots := 9, locals := 74 }
abbrev rO16 : Room := { frames := 2, cells := 0, slots := 0, locals := 29 }
abbrev rO17 : Room := { frames := 1, cells := 1, slots := 40, locals := 18 }
abbrev rO18 : Room := { frames := 3, cells := 1, slots := 40, locals := 48 }
abbrev rO19 : Room := { frames := 1, cells := 1, slots := 8, locals := 12 }
abbrev rO20 : Room := { frames := 2, cells := 1, slots := 8, locals := 25 }
abbrev rO21 : Room := { frames := 1, cells := 0, slots := 0, locals := 12 }
abbrev rO22 : Room := { frames := 1, cells := 0, slots := 0, locals := 13 }
abbrev rO23 : Room := { frames := 1, cells := 0, slots := 0, locals := 18 }
abbrev rO24 : Room := { frames := 2, cells := 0, slots := 0, locals := 33 }
abbrev rO25 : Room := { frames := 4, cells := 1, slots := 40, locals := 62 }
abbrev rO26 : Room := { frames := 5, cells := 1, slots := 40, locals := 76 }
abbrev rO27 : Room := { frames := 5, cells := 1, slots := 40, locals := 75 }
abbrev rO28 : Room := { frames := 2, cells := 1, slots := 40, locals := 34 }
abbrev rO29 : Room := { frames := 3, cells := 1, slots := 40, locals := 49 }
abbrev rO30 : Room := { frames := 4, cells := 1, slots := 40, locals := 65 }
abbrev rO31 : Room := { frames := 5, cells := 2, slots := 44, locals := 79 }
abbrev rO32 : Room := { frames := 6, cells := 6, slots := 228, locals := 88 }
abbrev rO33 : Room := { frames := 7, cells := 27, slots := 840, locals := 103 }
abbrev rO34 : Room := { frames := 8, cells := 33, slots := 976, locals := 121 }
abbrev rO35 : Room := { frames := 5, cells := 0, slots := 0, locals := 66 }
abbrev rO36 : Room := { frames := 3, cells := 6, slots := 12, locals := 43 }
abbrev rO37 : Room := { frames := 6, cells := 4, slots := 14, locals := 88 }
abbrev rO38 : Room := { frames := 6, cells := 4, slots := 15, locals := 88 }
abbrev rO39 : Room := { frames := 6, cells := 4, slots := 16, locals := 88 }
theorem R1 {p : Program} {e : Env} {below : List Frame} {T T2 : State} {g g2 : JFrame} {P : State → Outcome → Prop} (st : ∀ {t}, Steps p.tables e below (T2.setTop g2) t → Steps p.tables e below (T.setTop g) t) (r : Rch p e below T2 g2 P) : Rch p e below T g P := Rch.st (fun _ => st) r
theorem R0_ {p : Program} {e : Env} {below : List Frame} {T T2 : State} {g g2 : JFrame} {P : State → Outcome → Prop} (st : ∀ t, Steps p.tables e below (T2.setTop g2) t → Steps p.tables e below (T.setTop g) t) (r : Rch p e below T2 g2 P) : Rch p e below T g P := Rch.st st r
theorem R2 {p : Program} {e : Env} {below : List Frame} {T T2 : State} {g g2 : JFrame} {P : State → Outcome → Prop} (st : Steps p.tables e below (T.setTop g) (T2.setTop g2)) (r : Rch p e below T2 g2 P) : Rch p e below T g P := Rch.go st r
def dxs (b : ByteArray) (L : List (Nat × Instr × Nat)) : Bool := L.all fun x => decide (decode b x.1 = .ok x.2)
theorem dg {b : ByteArray} {L : List (Nat × Instr × Nat)} (h : dxs b L = true) (k : Nat) {i : Nat} {r : Instr × Nat} (hk : L[k]? = some (i, r)) : decode b i = .ok r := by
  have q := List.all_eq_true.mp h _ (List.mem_of_getElem? hk)
  simp only [decide_eq_true_eq] at q
  exact q
theorem mw {Z s : State} {a0 args : Array Value} {d : Jvm.Cond} (hZ : Z.Warmed39 s.vm) (hw : ∀ d ∈ tables_1, d.before a0 Z = true) (i : Nat) (h : tables_1[i]? = some d) (hd : (d.onTables && d.keepsFace) = true := by first | rfl | simp [Cond.onTables, Cond.keepsFace, Cond.keeps, Cond.steady]) : d.before args s = true := mvT hZ (wq hw i h) hd
theorem w0 {x W : Nat} (h : x = W) : 2 * 0 + x ≤ W := by omega
abbrev mN0 : MethodName := ⟨"jdk/internal/util/Preconditions", "checkIndex", "(IILjava/util/function/BiFunction;)I"⟩
abbrev mN1 : MethodName := ⟨"java/lang/String", "checkIndex", "(II)V"⟩
abbrev mN2 : MethodName := ⟨"java/lang/StringUTF16", "length", "([B)I"⟩
abbrev mN3 : MethodName := ⟨"java/lang/StringUTF16", "checkIndex", "(I[B)V"⟩
abbrev mN4 : MethodName := ⟨"java/lang/StringUTF16", "getChar", "([BI)C"⟩
abbrev mN5 : MethodName := ⟨"java/lang/StringUTF16", "charAt", "([BI)C"⟩
abbrev mN6 : MethodName := ⟨"java/lang/String", "isLatin1", "()Z"⟩
abbrev mN7 : MethodName := ⟨"java/lang/String", "charAt", "(I)C"⟩
abbrev mN8 : MethodName := ⟨"java/lang/String", "<init>", "([CIILjava/lang/Void;)V"⟩
abbrev mN9 : MethodName := ⟨"java/lang/String", "<init>", "([C)V"⟩
abbrev mN10 : MethodName := ⟨"java/lang/StringUTF16", "putChar", "([BII)V"⟩
abbrev mN11 : MethodName := ⟨"java/lang/StringUTF16", "newBytesLength", "(I)I"⟩
abbrev mN12 : MethodName := ⟨"java/lang/StringUTF16", "newBytesFor", "(I)[B"⟩
abbrev mN13 : MethodName := ⟨"java/lang/StringUTF16", "toBytes", "([CII)[B"⟩
abbrev mN14 : MethodName := ⟨"java/lang/StringUTF16", "compress", "([CI[BII)I"⟩
abbrev mN15 : MethodName := ⟨"java/lang/StringUTF16", "compress", "([CII)[B"⟩
abbrev mN16 : MethodName := ⟨"java/lang/StringUTF16", "coderFromArrayLen", "([BI)B"⟩
abbrev mN17 : MethodName := ⟨"java/lang/StringLatin1", "canEncode", "(C)Z"⟩
abbrev mN18 : MethodName := ⟨"java/lang/Math", "max", "(II)I"⟩
abbrev mN19 : MethodName := ⟨"java/lang/Math", "min", "(II)I"⟩
abbrev mN20 : MethodName := ⟨"jdk/internal/util/ArraysSupport", "newLength", "(III)I"⟩
abbrev mN21 : MethodName := ⟨"java/lang/AbstractStringBuilder", "newCapacity", "(I)I"⟩
abbrev mN22 : MethodName := ⟨"java/util/Arrays", "copyOf", "([BI)[B"⟩
abbrev mN23 : MethodName := ⟨"java/lang/AbstractStringBuilder", "ensureCapacityInternal", "(I)V"⟩
abbrev mN24 : MethodName := ⟨"java/lang/AbstractStringBuilder", "<init>", "(I)V"⟩
abbrev mN25 : MethodName := ⟨"java/lang/StringBuilder", "<init>", "(I)V"⟩
abbrev mN26 : MethodName := ⟨"java/lang/AbstractStringBuilder", "isLatin1", "()Z"⟩
abbrev mN27 : MethodName := ⟨"java/lang/AbstractStringBuilder", "getValue", "()[B"⟩
abbrev mN28 : MethodName := ⟨"java/lang/AbstractStringBuilder", "length", "()I"⟩
abbrev mN29 : MethodName := ⟨"java/lang/StringBuilder", "length", "()I"⟩
abbrev mN30 : MethodName := ⟨"java/lang/String", "coder", "()B"⟩
abbrev mN31 : MethodName := ⟨"java/lang/String", "length", "()I"⟩
abbrev mN32 : MethodName := ⟨"java/lang/AbstractStringBuilder", "inflateIfNeededFor", "(Ljava/lang/String;)V"⟩
abbrev mN33 : MethodName := ⟨"java/lang/String", "getBytes", "([BIB)V"⟩
abbrev mN34 : MethodName := ⟨"java/lang/AbstractStringBuilder", "putStringAt", "(ILjava/lang/String;)V"⟩
abbrev mN35 : MethodName := ⟨"java/lang/AbstractStringBuilder", "append", "(Ljava/lang/String;)Ljava/lang/AbstractStringBuilder;"⟩
abbrev mN36 : MethodName := ⟨"java/lang/StringBuilder", "append", "(Ljava/lang/String;)Ljava/lang/StringBuilder;"⟩
abbrev mN37 : MethodName := ⟨"java/lang/AbstractStringBuilder", "append", "(C)Ljava/lang/AbstractStringBuilder;"⟩
abbrev mN38 : MethodName := ⟨"java/lang/StringBuilder", "append", "(C)Ljava/lang/StringBuilder;"⟩
abbrev mN39 : MethodName := ⟨"java/util/Arrays", "checkLength", "(II)V"⟩
abbrev mN40 : MethodName := ⟨"java/util/Arrays", "copyOfRangeByte", "([BII)[B"⟩
abbrev mN41 : MethodName := ⟨"java/util/Arrays", "copyOfRange", "([BII)[B"⟩
abbrev mN42 : MethodName := ⟨"java/lang/String", "<init>", "(Ljava/lang/AbstractStringBuilder;Ljava/lang/Void;)V"⟩
abbrev mN43 : MethodName := ⟨"java/lang/String", "<init>", "(Ljava/lang/StringBuilder;)V"⟩
abbrev mN44 : MethodName := ⟨"java/lang/StringBuilder", "toString", "()Ljava/lang/String;"⟩
abbrev mN45 : MethodName := ⟨"com/example/ampersat/ampersat/text/Literals", "appendHex", "(Ljava/lang/StringBuilder;II)V"⟩
abbrev mN46 : MethodName := ⟨"com/example/ampersat/ampersat/text/Literals", "appendEscaped", "(Ljava/lang/StringBuilder;Ljava/lang/String;CZ)V"⟩
abbrev mN47 : MethodName := ⟨"com/example/ampersat/ampersat/text/Literals", "quoted", "(Ljava/lang/String;)Ljava/lang/String;"⟩
abbrev mN48 : MethodName := ⟨"com/example/ampersat/ampersat/text/LiteralsQuotedPinLaw", "width", "(C)I"⟩
abbrev mN49 : MethodName := ⟨"com/example/ampersat/ampersat/text/LiteralsQuotedPinLaw", "hex", "(I)C"⟩
abbrev mN50 : MethodName := ⟨"com/example/ampersat/ampersat/text/LiteralsQuotedPinLaw", "matches", "(Ljava/lang/String;IC)Z"⟩
abbrev mN51 : MethodName := ⟨"com/example/ampersat/ampersat/text/LiteralsQuotedPinLaw", "text", "(ICCC)Ljava/lang/String;"⟩
theorem pd_0 : parseMethodDescriptor "(IILjava/util/function/BiFunction;)I" = some ⟨[.int, .int, (.object "java/util/function/BiFunction")], some .int⟩ := by decide +kernel
theorem pd_1 : parseMethodDescriptor "([B)I" = some ⟨[(.array .byte)], some .int⟩ := by decide +kernel
theorem pd_2 : parseMethodDescriptor "(II)V" = some ⟨[.int, .int], none⟩ := by decide +kernel
theorem pd_3 : parseMethodDescriptor "(I[B)V" = some ⟨[.int, (.array .byte)], none⟩ := by decide +kernel
theorem pd_4 : parseMethodDescriptor "([BI)C" = some ⟨[(.array .byte), .int], some .char⟩ := by decide +kernel
theorem pd_5 : parseMethodDescriptor "()Z" = some ⟨[], some .boolean⟩ := by decide +kernel
theorem pd_6 : parseMethodDescriptor "([CIILjava/lang/Void;)V" = some ⟨[(.array .char), .int, .int, (.object "java/lang/Void")], none⟩ := by decide +kernel
theorem pd_7 : parseMethodDescriptor "(I)I" = some ⟨[.int], some .int⟩ := by decide +kernel
theorem pd_8 : parseMethodDescriptor "(I)[B" = some ⟨[.int], some (.array .byte)⟩ := by decide +kernel
theorem pd_9 : parseMethodDescriptor "([BII)V" = some ⟨[(.array .byte), .int, .int], none⟩ := by decide +kernel
theorem pd_10 : parseMethodDescriptor "([CI[BII)I" = some ⟨[(.array .char), .int, (.array .byte), .int, .int], some .int⟩ := by decide +kernel
theorem pd_11 : parseMethodDescriptor "([CII)[B" = some ⟨[(.array .char), .int, .int], some (.array .byte)⟩ := by decide +kernel
theorem pd_12 : parseMethodDescriptor "([BI)B" = some ⟨[(.array .byte), .int], some .byte⟩ := by decide +kernel
theorem pd_13 : parseMethodDescriptor "(II)I" = some ⟨[.int, .int], some .int⟩ := by decide +kernel
theorem pd_14 : parseMethodDescriptor "(III)I" = some ⟨[.int, .int, .int], some .int⟩ := by decide +kernel
theorem pd_15 : parseMethodDescriptor "([BI)[B" = some ⟨[(.array .byte), .int], some (.array .byte)⟩ := by decide +kernel
theorem pd_16 : parseMethodDescriptor "(I)V" = some ⟨[.int], none⟩ := by decide +kernel
theorem pd_17 : parseMethodDescriptor "()I" = some ⟨[], some .int⟩ := by decide +kernel
theorem pd_18 : parseMethodDescriptor "()B" = some ⟨[], some .byte⟩ := by decide +kernel
theorem pd_19 : parseMethodDescriptor "(Ljava/lang/String;)V" = some ⟨[(.object "java/lang/String")], none⟩ := by decide +kernel
theorem pd_20 : parseMethodDescriptor "([BIB)V" = some ⟨[(.array .byte), .int, .byte], none⟩ := by decide +kernel
theorem pd_21 : parseMethodDescriptor "(ILjava/lang/String;)V" = some ⟨[.int, (.object "java/lang/String")], none⟩ := by decide +kernel
theorem pd_22 : parseMethodDescriptor "(Ljava/lang/String;)Ljava/lang/AbstractStringBuilder;" = some ⟨[(.object "java/lang/String")], some (.object "java/lang/AbstractStringBuilder")⟩ := by decide +kernel
theorem pd_23 : parseMethodDescriptor "(C)Z" = some ⟨[.char], some .boolean⟩ := by decide +kernel
theorem pd_24 : parseMethodDescriptor "(C)Ljava/lang/AbstractStringBuilder;" = some ⟨[.char], some (.object "java/lang/AbstractStringBuilder")⟩ := by decide +kernel
theorem pd_25 : parseMethodDescriptor "([BII)[B" = some ⟨[(.array .byte), .int, .int], some (.array .byte)⟩ := by decide +kernel
theorem pd_26 : parseMethodDescriptor "()[B" = some ⟨[], some (.array .byte)⟩ := by decide +kernel
theorem pd_27 : parseMethodDescriptor "(Ljava/lang/AbstractStringBuilder;Ljava/lang/Void;)V" = some ⟨[(.object "java/lang/AbstractStringBuilder"), (.object "java/lang/Void")], none⟩ := by decide +kernel
theorem pd_28 : parseMethodDescriptor "(Ljava/lang/StringBuilder;)V" = some ⟨[(.object "java/lang/StringBuilder")], none⟩ := by decide +kernel
theorem pd_29 : parseMethodDescriptor "(I)C" = some ⟨[.int], some .char⟩ := by decide +kernel
theorem pd_30 : parseMethodDescriptor "(C)Ljava/lang/StringBuilder;" = some ⟨[.char], some (.object "java/lang/StringBuilder")⟩ := by decide +kernel
theorem pd_31 : parseMethodDescriptor "(Ljava/lang/String;)Ljava/lang/StringBuilder;" = some ⟨[(.object "java/lang/String")], some (.object "java/lang/StringBuilder")⟩ := by decide +kernel
theorem pd_32 : parseMethodDescriptor "(Ljava/lang/StringBuilder;II)V" = some ⟨[(.object "java/lang/StringBuilder"), .int, .int], none⟩ := by decide +kernel
theorem pd_33 : parseMethodDescriptor "(Ljava/lang/StringBuilder;Ljava/lang/String;CZ)V" = some ⟨[(.object "java/lang/StringBuilder"), (.object "java/lang/String"), .char, .boolean], none⟩ := by decide +kernel
theorem pd_34 : parseMethodDescriptor "()Ljava/lang/String;" = some ⟨[], some (.object "java/lang/String")⟩ := by decide +kernel
theorem pd_35 : parseMethodDescriptor "([C)V" = some ⟨[(.array .char)], none⟩ := by decide +kernel
theorem pd_36 : parseMethodDescriptor "(ICCC)Ljava/lang/String;" = some ⟨[.int, .char, .char, .char], some (.object "java/lang/String")⟩ := by decide +kernel
theorem pd_37 : parseMethodDescriptor "(Ljava/lang/String;)Ljava/lang/String;" = some ⟨[(.object "java/lang/String")], some (.object "java/lang/String")⟩ := by decide +kernel
theorem pd_38 : parseMethodDescriptor "(C)I" = some ⟨[.char], some .int⟩ := by decide +kernel
theorem pd_39 : parseMethodDescriptor "(Ljava/lang/String;IC)Z" = some ⟨[(.object "java/lang/String"), .int, .char], some .boolean⟩ := by decide +kernel
theorem exa_of {Z : State} {h : Heap} {a : Addr} {C : String} (E : Exa Z h a C) : a < h.size := by obtain ⟨c, _, h1, -⟩ := E; exact (Array.getElem?_eq_some_iff.mp h1).1
theorem nfOf {args : Array Value} {s : State} {C : String} {u y : MethodName} (hsel : (Cond.selects C u u).before args s = true) (hu : u.cls = y.cls) : NotFace s y := fun r0 h0 => by
  obtain ⟨c2, r2, m2, q1, q2, q3, q4, kP, hkP, hkPi⟩ := Cond.selects_spec hsel
  have a := findClass_of_methodNamed q3
  have b := findClass_of_methodNamed h0
  rw [hu] at a
  have e := Option.some.inj (a.symm.trans b)
  exact ⟨kP, by rw [← e]; exact hkP, hkPi⟩
theorem selSelf {s : State} {args : Array Value} {C : String} {y : MethodName} (hs : (Cond.selects C y y).before args s = true) (hi : (Cond.instanceMethod y).before args s = true) (hp : s.PrivateAt y) (hy : y.cls ≠ "java/lang/invoke/MethodHandle" ∧ y.cls ≠ "java/lang/invoke/VarHandle") : (Cond.selects y.cls y y).before args s = true := by
  obtain ⟨c2, r2, m2, -, -, q3, -, kP, hkP, hkPi⟩ := Cond.selects_spec hs
  exact selects_self_of_private (findClass_of_methodNamed q3) hkP hkPi hp hi hy
theorem exa_ns {Z : State} {h : Heap} {a : Addr} {C : String} (E : Exa Z h a C) : ∀ cell : Cell, h[a]? = some cell → cell.vm.isStatics = false := fun cell q => by
  obtain ⟨c, k, h1, h2, h3, h4, -⟩ := E
  cases h1.symm.trans q; exact h4
theorem staKeep1 {Z : State} {h h' : Heap} {C n d : String} {w : Value} {a : Addr} (F : Sta Z h C n d w) (K : Keep h h' [a]) (hn : ∀ cell : Cell, h[a]? = some cell → cell.vm.isStatics = false) : Sta Z h' C n d w := by
  obtain ⟨cf, i, k, f, st, cell, h1, h2, h3, h4, h5, h6, h7⟩ := F
  refine ⟨cf, i, k, f, st, cell, h1, h2, h3, h4, K.2.1 _ _ h5 (fun z => ?_), h6, h7⟩
  cases List.mem_singleton.mp z
  rw [hn _ h5] at h6; cases h6
theorem shl1n {n : Nat} (h : 2 * n < 2 ^ 31) : Int32.ofNat n <<< ((1 : Int32) &&& 31) = Int32.ofNat (2 * n) := by
  have q := c_ishl (Int32.ofNat n) 1 1 (by decide)
  apply Int32.toInt_inj.mp
  rw [Int32.toInt_ofNat_small (show n < 2 ^ 31 by omega)] at q
  rw [Int32.toInt_ofNat_small h]
  have r := rng32 (Int32.ofNat n <<< ((1 : Int32) &&& 31))
  omega
theorem add1n (n : Nat) : Int32.ofNat n + (1 : Int32) = Int32.ofNat (n + 1) := (inc_ofNat n).symm
def C16 (c : Int32) : Prop := (¬ c < 0 ∧ ¬ (65535 : Int32) < c) ∧ nar .char c = c
theorem c16_i2c (x : Int32) : C16 (x.toUInt32.toUInt16.toUInt32.toInt32) := by
  have q := c_i2c x
  have e1 : (65535 : Int32).toInt = 65535 := rfl
  have e0 : (0 : Int32).toInt = 0 := rfl
  refine ⟨⟨fun z => ?_, fun z => ?_⟩, ?_⟩
  · rw [Int32.lt_iff_toInt_lt] at z; omega
  · rw [Int32.lt_iff_toInt_lt] at z; omega
  · show (x.toUInt32.toUInt16.toUInt32.toInt32).toUInt32.toUInt16.toUInt32.toInt32 = x.toUInt32.toUInt16.toUInt32.toInt32
    have r := c_i2c (x.toUInt32.toUInt16.toUInt32.toInt32)
    apply Int32.toInt_inj.mp
    omega
theorem nar_byte (x : Int32) : nar .byte x.toInt8.toInt32 = x.toInt8.toInt32 := by show (x.toInt8.toInt32).toInt8.toInt32 = _; simp
def EL : List (String × Nat) := [("com/example/ampersat/ampersat/text/Literals", 120), ("com/example/ampersat/ampersat/text/Literals", 122), ("java/lang/String", 7)]
theorem ws_lit : ∀ d ∈ Bundle.stringAtoms, d ∈ tables_1 := by decide +kernel
theorem ew {Z : State} {a0 : Array Value} (hw : ∀ d ∈ tables_1, d.before a0 Z = true) : EW Z a0 EL := (EW.cons (wq hw 161 rfl) (by decide +kernel) (EW.cons (wq hw 195 rfl) (by decide +kernel) (EW.cons (wq hw 19 rfl) (by decide +kernel) EW.nil)))
def Bg (Z : State) (h : Heap) (fm : Value) : Prop := Cmp Z h ∧ Sta Z h "java/lang/StringUTF16" "$assertionsDisabled" "Z" (.int (1 : Int32)) ∧ Sta Z h "java/lang/StringUTF16" "HI_BYTE_SHIFT" "I" (.int (0 : Int32)) ∧ Sta Z h "java/lang/StringUTF16" "LO_BYTE_SHIFT" "I" (.int (8 : Int32)) ∧ Sta Z h "jdk/internal/util/Preconditions" "SIOOBE_FORMATTER" "Ljava/util/function/BiFunction;" fm ∧ fm.isRef = true
theorem Bg.ext {Z : State} {h h' : Heap} {fm : Value} (B : Bg Z h fm) (E : Ext h h') : Bg Z h' fm := ⟨B.1.ext E, B.2.1.ext E, B.2.2.1.ext E, B.2.2.2.1.ext E, B.2.2.2.2.1.ext E, B.2.2.2.2.2⟩
theorem Bg.wr {Z : State} {h h' : Heap} {fm : Value} {a : Addr} {sl : Nat} {v : Value} (B : Bg Z h fm) (W : Wr h h' a sl v) : Bg Z h' fm := ⟨by obtain ⟨z, S, q⟩ := B.1; exact ⟨z, S.wr W, q⟩, B.2.1.wr W, B.2.2.1.wr W, B.2.2.2.1.wr W, B.2.2.2.2.1.wr W, B.2.2.2.2.2⟩
theorem Sta.keep1 {Z : State} {h h' : Heap} {C n d : String} {w : Value} {a : Addr} (K : Keep h h' [a]) (hn : ∀ cell : Cell, h[a]? = some cell → cell.vm.isStatics = false) (F : Sta Z h C n d w) : Sta Z h' C n d w := by
  obtain ⟨cf, i, k, f, st, cell, h1, h2, h3, h4, h5, h6, h7⟩ := F
  refine ⟨cf, i, k, f, st, cell, h1, h2, h3, h4, K.2.1 _ _ h5 (fun z => ?_), h6, h7⟩
  cases List.mem_singleton.mp z
  rw [hn _ h5] at h6; cases h6
theorem Bg.keep1 {Z : State} {h h' : Heap} {fm : Value} {a : Addr} (B : Bg Z h fm) (K : Keep h h' [a]) (hn : ∀ cell : Cell, h[a]? = some cell → cell.vm.isStatics = false) : Bg Z h' fm := ⟨by obtain ⟨z, S, q⟩ := B.1; exact ⟨z, Sta.keep1 K hn S, q⟩, Sta.keep1 K hn B.2.1, Sta.keep1 K hn B.2.2.1, Sta.keep1 K hn B.2.2.2.1, Sta.keep1 K hn B.2.2.2.2.1, B.2.2.2.2.2⟩
theorem dpc : dxs jdk_41_method_11_code [(0, .iload_n 0, 1), (1, .ifCond .lt 8, 3), (4, .iload_n 0, 1), (5, .iload_n 1, 1), (6, .if_icmp .lt 10, 3), (16, .iload_n 0, 1), (17, .ireturn, 1)] = true := by decide +kernel
theorem pn_pchk : plainFor (⟨"jdk/internal/util/Preconditions", "checkIndex", "(IILjava/util/function/BiFunction;)I"⟩ : MethodName) = true := plainFor_of_name (by first | (simp [plainName, overriddenIn]; done) | decide +kernel)
theorem ef_pchk (m : MethodId) (x0 : Int32) (x1 : Int32) (x2 : Value) (hx2 : x2.isRef = true) : entryFrame m #[(.int x0), (.int x1), x2] 3 = mkF m 0 #[vI x0, vI x1, .val x2] [] := by rcases ref_cases hx2 with rfl | ⟨_, rfl⟩ <;> rfl
def Q_pchk (Z : State) (ix nn : Int32) (fm : Value) (h0 : Heap) (n0 : Nat) (v : Option Value) (h : Heap) (L : List Loc) : Prop := v = some (.int ix) ∧ Fr n0 L ∧ h = h0
set_option maxRecDepth 65536 in
set_option maxHeartbeats 40000000 in
theorem rm_pchk (l : Launch) (Z : State) (a0 : Array Value) (hw : ∀ d ∈ tables_1, d.before a0 Z = true) (ws : List Jvm.Cond) (ix nn : Int32) (fm : Value) (h0 : Heap) (n0 : Nat) (Z0 : n0 ≤ h0.size) (h_fm : fm.isRef = true) (h1 : ¬ ix < 0) (h2 : ix < nn) :
    MetFree l mN0 (head1 (Jvm.Cond.code mN0 jdk_41_method_11_code 3 (some .int) :: ws) rO0) (fun a U => a = #[(.int ix), (.int nn), fm] ∧ Z.Warmed39 U.vm ∧ U.heap = h0) (fun _ _ _ _ _ => True) (fun _ U o U' => ∃ v L, o = .returned v ∧ Q_pchk Z ix nn fm h0 n0 v U'.heap L ∧ FrameEnd U o U' L rO0.cells rO0.slots) := by
  refine MetFree.of_bodySF pn_pchk hisR ?_
  intro p e s m args below meth c s₁ Bd hml0 hP hK
  obtain ⟨rfl, hZ, hh⟩ := hP
  have hx := Bd.exec
  have hby := Bd.bytes
  have dq := @hb _ _ hby
  have hml : c.maxLocals = 3 := hml0
  have X0 : Stand p l e rO0 s m #[(.int ix), (.int nn), fm] below meth c s₁ [] 0 0 := Stand.of_body Bd
  have e0 : s₁.heap = h0 := by rw [← hh, Bd.state]; rfl
  have N0 := Fr.nil n0
  show Rch p e below s₁ _ _
  refine Rch.cast (ef_pchk m ix nn fm h_fm) ?_
  show Rch p e below s₁ (mkF m 0 #[vI ix, vI nn, .val fm] []) _
  refine R1 (XS.iloadN X0.here hx rfl (dq (dg dpc 0 rfl)) rfl) ?_
  refine R1 (XS.ifNo X0.here hx rfl (dq (dg dpc 1 rfl)) rfl ((if0 _ _).trans (flt h1).1)) ?_
  refine R1 (XS.iloadN X0.here hx rfl (dq (dg dpc 2 rfl)) rfl) ?_
  refine R1 (XS.iloadN X0.here hx rfl (dq (dg dpc 3 rfl)) rfl) ?_
  refine R1 (XS.icmpYes X0.here hx rfl (pc0 := 6) (pc' := 16) rfl (dq (dg dpc 4 rfl)) rfl (tlt h2).1 (by decide) (by decide)) ?_
  refine R1 (XS.iloadN X0.here hx rfl (dq (dg dpc 5 rfl)) rfl) ?_
  show Rch p e below s₁ (mkF m 17 #[vI ix, vI nn, .val fm] [(.int ix)]) _
  exact Rch.fin (Q := Q_pchk Z ix nn fm h0 n0) X0 (v := some (.int ix)) (fun h => by rw [Bd.returns] at h; cases h) (BodyLoose.notSynchronized Bd) (fun fs hr => retI X0 hx Bd.returns (dq (dg dpc 6 rfl)) hr) (by rw [e0]; exact ⟨rfl, N0, rfl⟩) (by decide) (by decide)
theorem dsc : dxs jdk_42_method_155_code [(0, .iload_n 0, 1), (1, .iload_n 1, 1), (2, .getstatic 1053, 3), (5, .invokestatic 1059, 3), (8, .pop, 1), (9, .return_, 1)] = true := by decide +kernel
theorem pn_schk : plainFor (⟨"java/lang/String", "checkIndex", "(II)V"⟩ : MethodName) = true := plainFor_of_name (by first | (simp [plainName, overriddenIn]; done) | decide +kernel)
theorem ef_schk (m : MethodId) (x0 : Int32) (x1 : Int32) : entryFrame m #[(.int x0), (.int x1)] 2 = mkF m 0 #[vI x0, vI x1] [] := by first | (simp [entryFrame, mkF, argsToLocals, Value.category]; done) | rfl
def Q_schk (Z : State) (ix nn : Int32) (fm : Value) (h0 : Heap) (n0 : Nat) (v : Option Value) (h : Heap) (L : List Loc) : Prop := v = none ∧ Fr n0 L ∧ h = h0
set_option maxRecDepth 65536 in
set_option maxHeartbeats 40000000 in
theorem rm_schk (l : Launch) (Z : State) (a0 : Array Value) (hw : ∀ d ∈ tables_1, d.before a0 Z = true) (ws : List Jvm.Cond) (ix nn : Int32) (fm : Value) (h0 : Heap) (n0 : Nat) (Z0 : n0 ≤ h0.size) (B : Bg Z h0 fm) (h1 : ¬ ix < 0) (h2 : ix < nn) :
    MetFree l mN1 (head1 (Jvm.Cond.code mN1 jdk_42_method_155_code 2 none :: ws) rO1) (fun a U => a = #[(.int ix), (.int nn)] ∧ Z.Warmed39 U.vm ∧ U.heap = h0) (fun _ _ _ _ _ => True) (fun _ U o U' => ∃ v L, o = .returned v ∧ Q_schk Z ix nn fm h0 n0 v U'.heap L ∧ FrameEnd U o U' L rO1.cells rO1.slots) := by
  refine MetFree.of_bodySF pn_schk hisR ?_
  intro p e s m args below meth c s₁ Bd hml0 hP hK
  obtain ⟨rfl, hZ, hh⟩ := hP
  have hx := Bd.exec
  have hby := Bd.bytes
  have dq := @hb _ _ hby
  have hml : c.maxLocals = 2 := hml0
  have hown : s.vm.findClass "java/lang/String" = some m.cls := findClass_of_methodNamed Bd.named
  have X0 : Stand p l e rO1 s m #[(.int ix), (.int nn)] below meth c s₁ [] 0 0 := Stand.of_body Bd
  have e0 : s₁.heap = h0 := by rw [← hh, Bd.state]; rfl
  have N0 := Fr.nil n0
  show Rch p e below s₁ _ _
  refine Rch.cast (ef_schk m ix nn) ?_
  show Rch p e below s₁ (mkF m 0 #[vI ix, vI nn] []) _
  refine R1 (XS.iloadN X0.here hx rfl (dq (dg dsc 0 rfl)) rfl) ?_
  refine R1 (XS.iloadN X0.here hx rfl (dq (dg dsc 1 rfl)) rfl) ?_
  show Rch p e below s₁ (mkF m 2 #[vI ix, vI nn] [(.int nn), (.int ix)]) _
  obtain ⟨T1, X1, e1, st1⟩ := getS2 X0 hx hZ hown (host := "") (Or.inl (wq hw 145 rfl)) Via.refl e0 B.2.2.2.2.1 (g := (mkF m 2 #[vI ix, vI nn] [(.int nn), (.int ix)])) rfl (dq (dg dsc 2 rfl))
  refine R0_ st1 ?_
  show Rch p e below T1 (mkF m 5 #[vI ix, vI nn] [fm, (.int nn), (.int ix)]) _
  obtain ⟨_, _, ⟨T2, L2, k2, n2⟩, -, X2, ⟨Lc2, hQ2, l2, y2, z2⟩, st2⟩ := Jvm.LawKit.callS X1 hx (y := mN0) hown (mw hZ hw 147 rfl) (mw hZ hw 148 rfl) (mw hZ hw 146 rfl) (mw hZ hw 149 rfl) (by decide) (backOf (W := 0) (rm_pchk l Z a0 hw [] ix nn fm h0 n0 Z0 B.2.2.2.2.2 h1 h2) hZ (wq hw 149 rfl) (wq hw 146 rfl) (by decide) (by decide)) (g := (mkF m 5 #[vI ix, vI nn] [fm, (.int nn), (.int ix)])) rfl (by rw [hml]; rfl) (argsL := [(.int ix), (.int nn), fm]) (rest := []) (lenOf pd_0 rfl) rfl (w0 rfl) (dq (dg dsc 3 rfl)) (fun _ _ => ⟨rfl, e1, (by decide : 0 + 0 ≤ _), (by decide : 0 + 0 ≤ _)⟩)
  dsimp only [Pt.U, Pt.locs, Pt.cells, Pt.slots] at X2 l2 y2 z2 st2 hQ2
  subst l2 y2 z2
  obtain ⟨rfl, Nq2, e2⟩ := hQ2
  have N2 := Fr.app N0 Nq2
  refine R0_ st2 ?_
  show Rch p e below T2 (mkF m 8 #[vI ix, vI nn] [(.int ix)]) _
  refine R1 (XT.pop X2.here hx rfl (dq (dg dsc 4 rfl)) rfl rfl) ?_
  show Rch p e below T2 (mkF m 9 #[vI ix, vI nn] []) _
  exact Rch.fin (Q := Q_schk Z ix nn fm h0 n0) X2 (v := none) (fun _ => rfl) (BodyLoose.notSynchronized Bd) (fun fs hr => X2.returnOut hx Bd.returns (dq (dg dsc 5 rfl)) hr) (by rw [e2]; exact ⟨rfl, N2, rfl⟩) (by decide) (by decide)
theorem dul : dxs jdk_52_method_6_code [(0, .aload_n 0, 1), (1, .arraylength, 1), (2, .iconst 1, 1), (3, .ishr, 1), (4, .ireturn, 1)] = true := by decide +kernel
theorem pn_ulen : plainFor (⟨"java/lang/StringUTF16", "length", "([B)I"⟩ : MethodName) = true := plainFor_of_name (by first | (simp [plainName, overriddenIn]; done) | decide +kernel)
theorem ef_ulen (m : MethodId) (x0 : Addr) : entryFrame m #[(.ref x0)] 1 = mkF m 0 #[vR x0] [] := by first | (simp [entryFrame, mkF, argsToLocals, Value.category]; done) | rfl
def Q_ulen (Z : State) (tb : Addr) (kb : ClassId) (vs : List Value) (nn : Nat) (h0 : Heap) (n0 : Nat) (v : Option Value) (h : Heap) (L : List Loc) : Prop := v = some (.int (Int32.ofNat nn)) ∧ Fr n0 L ∧ h = h0
set_option maxRecDepth 65536 in
set_option maxHeartbeats 40000000 in
theorem rm_ulen (l : Launch) (Z : State) (a0 : Array Value) (hw : ∀ d ∈ tables_1, d.before a0 Z = true) (ws : List Jvm.Cond) (tb : Addr) (kb : ClassId) (vs : List Value) (nn : Nat) (h0 : Heap) (n0 : Nat) (Z0 : n0 ≤ h0.size) (M : Arv Z h0 tb kb .byte (Int32.ofNat (2 * nn)) vs (.int 0)) (hn : 2 * nn < 2 ^ 31) :
    MetFree l mN2 (head1 (Jvm.Cond.code mN2 jdk_52_method_6_code 1 (some .int) :: ws) rO0) (fun a U => a = #[(.ref tb)] ∧ Z.Warmed39 U.vm ∧ U.heap = h0) (fun _ _ _ _ _ => True) (fun _ U o U' => ∃ v L, o = .returned v ∧ Q_ulen Z tb kb vs nn h0 n0 v U'.heap L ∧ FrameEnd U o U' L rO0.cells rO0.slots) := by
  refine MetFree.of_bodySF pn_ulen hisR ?_
  intro p e s m args below meth c s₁ Bd hml0 hP hK
  obtain ⟨rfl, hZ, hh⟩ := hP
  have hx := Bd.exec
  have hby := Bd.bytes
  have dq := @hb _ _ hby
  have hml : c.maxLocals = 1 := hml0
  have X0 : Stand p l e rO0 s m #[(.ref tb)] below meth c s₁ [] 0 0 := Stand.of_body Bd
  have e0 : s₁.heap = h0 := by rw [← hh, Bd.state]; rfl
  have N0 := Fr.nil n0
  show Rch p e below s₁ _ _
  refine Rch.cast (ef_ulen m tb) ?_
  show Rch p e below s₁ (mkF m 0 #[vR tb] []) _
  refine R1 (XS.aloadN X0.here hx rfl (dq (dg dul 0 rfl)) rfl rfl) ?_
  show Rch p e below s₁ (mkF m 1 #[vR tb] [(.ref tb)]) _
  refine R0_ (alenA X0 hx hZ e0 M.arh (g := (mkF m 1 #[vR tb] [(.ref tb)])) rfl rfl (dq (dg dul 1 rfl))) ?_
  show Rch p e below s₁ (mkF m 2 #[vR tb] [(.int (Int32.ofNat (2 * nn)))]) _
  refine R1 (XS.iconst X0.here hx rfl (dq (dg dul 2 rfl)) ) ?_
  refine R1 (XT.ishr X0.here hx rfl (dq (dg dul 3 rfl)) rfl) ?_
  show Rch p e below s₁ (mkF m 4 #[vR tb] [(.int ((Int32.ofNat (2 * nn)) >>> ((1 : Int32) &&& 31)))]) _
  rw [StrChars.shr1 hn]
  show Rch p e below s₁ (mkF m 4 #[vR tb] [(.int (Int32.ofNat nn))]) _
  exact Rch.fin (Q := Q_ulen Z tb kb vs nn h0 n0) X0 (v := some (.int (Int32.ofNat nn))) (fun h => by rw [Bd.returns] at h; cases h) (BodyLoose.notSynchronized Bd) (fun fs hr => retI X0 hx Bd.returns (dq (dg dul 4 rfl)) hr) (by rw [e0]; exact ⟨rfl, N0, rfl⟩) (by decide) (by decide)
theorem duc : dxs jdk_52_method_91_code [(0, .iload_n 0, 1), (1, .aload_n 1, 1), (2, .invokestatic 48, 3), (5, .invokestatic 414, 3), (8, .return_, 1)] = true := by decide +kernel
theorem pn_uchk : plainFor (⟨"java/lang/StringUTF16", "checkIndex", "(I[B)V"⟩ : MethodName) = true := plainFor_of_name (by first | (simp [plainName, overriddenIn]; done) | decide +kernel)
theorem ef_uchk (m : MethodId) (x0 : Int32) (x1 : Addr) : entryFrame m #[(.int x0), (.ref x1)] 2 = mkF m 0 #[vI x0, vR x1] [] := by first | (simp [entryFrame, mkF, argsToLocals, Value.category]; done) | rfl
def Q_uchk (Z : State) (tb : Addr) (kb : ClassId) (cs : List Int32) (i : Nat) (fm : Value) (h0 : Heap) (n0 : Nat) (v : Option Value) (h : Heap) (L : List Loc) : Prop := v = none ∧ Fr n0 L ∧ h = h0
set_option maxRecDepth 65536 in
set_option maxHeartbeats 40000000 in
theorem rm_uchk (l : Launch) (Z : State) (a0 : Array Value) (hw : ∀ d ∈ tables_1, d.before a0 Z = true) (ws : List Jvm.Cond) (tb : Addr) (kb : ClassId) (cs : List Int32) (i : Nat) (fm : Value) (h0 : Heap) (n0 : Nat) (Z0 : n0 ≤ h0.size) (B : Bg Z h0 fm) (M : Arv Z h0 tb kb .byte (Int32.ofNat (2 * cs.length)) (StrChars.Road.wideBytes cs) (.int 0)) (hi : i < cs.length) (hl : cs.length ≤ 4000) :
    MetFree l mN3 (head1 (Jvm.Cond.code mN3 jdk_52_method_91_code 2 none :: ws) rO2) (fun a U => a = #[(.int (Int32.ofNat i)), (.ref tb)] ∧ Z.Warmed39 U.vm ∧ U.heap = h0) (fun _ _ _ _ _ => True) (fun _ U o U' => ∃ v L, o = .returned v ∧ Q_uchk Z tb kb cs i fm h0 n0 v U'.heap L ∧ FrameEnd U o U' L rO2.cells rO2.slots) := by
  refine MetFree.of_bodySF pn_uchk hisR ?_
  intro p e s m args below meth c s₁ Bd hml0 hP hK
  obtain ⟨rfl, hZ, hh⟩ := hP
  have hx := Bd.exec
  have hby := Bd.bytes
  have dq := @hb _ _ hby
  have hml : c.maxLocals = 2 := hml0
  have hown : s.vm.findClass "java/lang/StringUTF16" = some m.cls := findClass_of_methodNamed Bd.named
  have X0 : Stand p l e rO2 s m #[(.int (Int32.ofNat i)), (.ref tb)] below meth c s₁ [] 0 0 := Stand.of_body Bd
  have e0 : s₁.heap = h0 := by rw [← hh, Bd.state]; rfl
  have N0 := Fr.nil n0
  show Rch p e below s₁ _ _
  refine Rch.cast (ef_uchk m (Int32.ofNat i) tb) ?_
  show Rch p e below s₁ (mkF m 0 #[vI (Int32.ofNat i), vR tb] []) _
  refine R1 (XS.iloadN X0.here hx rfl (dq (dg duc 0 rfl)) rfl) ?_
  refine R1 (XS.aloadN X0.here hx rfl (dq (dg duc 1 rfl)) rfl rfl) ?_
  show Rch p e below s₁ (mkF m 2 #[vI (Int32.ofNat i), vR tb] [(.ref tb), (.int (Int32.ofNat i))]) _
  obtain ⟨_, _, ⟨T3, L3, k3, n3⟩, -, X3, ⟨Lc3, hQ3, l3, y3, z3⟩, st3⟩ := Jvm.LawKit.callS X0 hx (y := mN2) hown (mw hZ hw 258 rfl) (mw hZ hw 259 rfl) (mw hZ hw 152 rfl) (mw hZ hw 260 rfl) (by decide) (backOf (W := 1) (rm_ulen l Z a0 hw [] tb kb _ cs.length h0 n0 Z0 M (by omega)) hZ (wq hw 260 rfl) (wq hw 152 rfl) (by decide) (by decide)) (g := (mkF m 2 #[vI (Int32.ofNat i), vR tb] [(.ref tb), (.int (Int32.ofNat i))])) rfl (by rw [hml]; rfl) (argsL := [(.ref tb)]) (rest := [(.int (Int32.ofNat i))]) (lenOf pd_1 rfl) rfl (w0 rfl) (dq (dg duc 2 rfl)) (fun _ _ => ⟨rfl, e0, (by decide : 0 + 0 ≤ _), (by decide : 0 + 0 ≤ _)⟩)
  dsimp only [Pt.U, Pt.locs, Pt.cells, Pt.slots] at X3 l3 y3 z3 st3 hQ3
  subst l3 y3 z3
  obtain ⟨rfl, Nq3, e3⟩ := hQ3
  have N3 := Fr.app N0 Nq3
  refine R0_ st3 ?_
  show Rch p e below T3 (mkF m 5 #[vI (Int32.ofNat i), vR tb] [(.int (Int32.ofNat cs.length)), (.int (Int32.ofNat i))]) _
  obtain ⟨_, _, ⟨T4, L4, k4, n4⟩, -, X4, ⟨Lc4, hQ4, l4, y4, z4⟩, st4⟩ := Jvm.LawKit.callS X3 hx (y := mN1) hown (mw hZ hw 261 rfl) (mw hZ hw 143 rfl) (mw hZ hw 7 rfl) (mw hZ hw 144 rfl) (by decide) (backOf (W := 0) (rm_schk l Z a0 hw [] (Int32.ofNat i) (Int32.ofNat cs.length) fm h0 n0 Z0 B (ofN_neg (by omega)) (ofN_lt hi (by omega))) hZ (wq hw 144 rfl) (wq hw 7 rfl) (by decide) (by decide)) (g := (mkF m 5 #[vI (Int32.ofNat i), vR tb] [(.int (Int32.ofNat cs.length)), (.int (Int32.ofNat i))])) rfl (by rw [hml]; rfl) (argsL := [(.int (Int32.ofNat i)), (.int (Int32.ofNat cs.length))]) (rest := []) (lenOf pd_2 rfl) rfl (w0 rfl) (dq (dg duc 3 rfl)) (fun _ _ => ⟨rfl, e3, (by decide : 0 + 0 ≤ _), (by decide : 0 + 0 ≤ _)⟩)
  dsimp only [Pt.U, Pt.locs, Pt.cells, Pt.slots] at X4 l4 y4 z4 st4 hQ4
  subst l4 y4 z4
  obtain ⟨rfl, Nq4, e4⟩ := hQ4
  have N4 := Fr.app N3 Nq4
  refine R0_ st4 ?_
  show Rch p e below T4 (mkF m 8 #[vI (Int32.ofNat i), vR tb] []) _
  exact Rch.fin (Q := Q_uchk Z tb kb cs i fm h0 n0) X4 (v := none) (fun _ => rfl) (BodyLoose.notSynchronized Bd) (fun fs hr => X4.returnOut hx Bd.returns (dq (dg duc 4 rfl)) hr) (by rw [e4]; exact ⟨rfl, N4, rfl⟩) (by decide) (by decide)
theorem dgc : dxs jdk_52_method_5_code [(0, .getstatic 44, 3), (3, .ifCond .ne 25, 3), (28, .iload_n 1, 1), (29, .iconst 1, 1), (30, .ishl, 1), (31, .istore_n 1, 1), (32, .aload_n 0, 1), (33, .iload_n 1, 1), (34, .iinc 1 1, 3), (37, .baload, 1), (38, .sipush 255, 3), (41, .iand, 1), (42, .getstatic 59, 3), (45, .ishl, 1), (46, .aload_n 0, 1), (47, .iload_n 1, 1), (48, .baload, 1), (49, .sipush 255, 3), (52, .iand, 1), (53, .getstatic 63, 3), (56, .ishl, 1), (57, .ior, 1), (58, .i2c, 1), (59, .ireturn, 1)] = true := by decide +kernel
theorem pn_getc : plainFor (⟨"java/lang/StringUTF16", "getChar", "([BI)C"⟩ : MethodName) = true := plainFor_of_name (by first | (simp [plainName, overriddenIn]; done) | decide +kernel)
theorem ef_getc (m : MethodId) (x0 : Addr) (x1 : Int32) : entryFrame m #[(.ref x0), (.int x1)] 2 = mkF m 0 #[vR x0, vI x1] [] := by first | (simp [entryFrame, mkF, argsToLocals, Value.category]; done) | rfl
def Q_getc (Z : State) (tb : Addr) (kb : ClassId) (cs : List Int32) (i : Nat) (fm : Value) (h0 : Heap) (n0 : Nat) (v : Option Value) (h : Heap) (L : List Loc) : Prop := v = some (.int (cs.getD i 0)) ∧ Fr n0 L ∧ h = h0
set_option maxRecDepth 65536 in
set_option maxHeartbeats 40000000 in
theorem rm_getc (l : Launch) (Z : State) (a0 : Array Value) (hw : ∀ d ∈ tables_1, d.before a0 Z = true) (ws : List Jvm.Cond) (tb : Addr) (kb : ClassId) (cs : List Int32) (i : Nat) (fm : Value) (h0 : Heap) (n0 : Nat) (Z0 : n0 ≤ h0.size) (B : Bg Z h0 fm) (hbd : ∀ c ∈ cs, ¬ c < 0 ∧ ¬ (65535 : Int32) < c) (M : Arv Z h0 tb kb .byte (Int32.ofNat (2 * cs.length)) (StrChars.Road.wideBytes cs) (.int 0)) (hi : i < cs.length) (hl : cs.length ≤ 4000) :
    MetFree l mN4 (head1 (Jvm.Cond.code mN4 jdk_52_method_5_code 2 (some .char) :: ws) rO0) (fun a U => a = #[(.ref tb), (.int (Int32.ofNat i))] ∧ Z.Warmed39 U.vm ∧ U.heap = h0) (fun _ _ _ _ _ => True) (fun _ U o U' => ∃ v L, o = .returned v ∧ Q_getc Z tb kb cs i fm h0 n0 v U'.heap L ∧ FrameEnd U o U' L rO0.cells rO0.slots) := by
  refine MetFree.of_bodySF pn_getc hisR ?_
  intro p e s m args below meth c s₁ Bd hml0 hP hK
  obtain ⟨rfl, hZ, hh⟩ := hP
  have hx := Bd.exec
  have hby := Bd.bytes
  have dq := @hb _ _ hby
  have hml : c.maxLocals = 2 := hml0
  have hown : s.vm.findClass "java/lang/StringUTF16" = some m.cls := findClass_of_methodNamed Bd.named
  have X0 : Stand p l e rO0 s m #[(.ref tb), (.int (Int32.ofNat i))] below meth c s₁ [] 0 0 := Stand.of_body Bd
  have e0 : s₁.heap = h0 := by rw [← hh, Bd.state]; rfl
  have N0 := Fr.nil n0
  show Rch p e below s₁ _ _
  refine Rch.cast (ef_getc m tb (Int32.ofNat i)) ?_
  show Rch p e below s₁ (mkF m 0 #[vR tb, vI (Int32.ofNat i)] []) _
  have hcm : ¬ cs.getD i 0 < 0 ∧ ¬ (65535 : Int32) < cs.getD i 0 := by
    have e : cs.getD i 0 = cs[i] := by simp [List.getD_eq_getElem?_getD, hi]
    rw [e]; exact hbd _ (List.getElem_mem _)
  obtain ⟨T5, X5, e5, st5⟩ := getS2 X0 hx hZ hown (host := "") (Or.inl (wq hw 246 rfl)) Via.refl e0 B.2.1 (g := (mkF m 0 #[vR tb, vI (Int32.ofNat i)] [])) rfl (dq (dg dgc 0 rfl))
  refine R0_ st5 ?_
  show Rch p e below T5 (mkF m 3 #[vR tb, vI (Int32.ofNat i)] [(.int (1 : Int32))]) _
  refine R1 (XS.ifYes X5.here hx rfl (pc0 := 3) (pc' := 28) rfl (dq (dg dgc 1 rfl)) rfl (by decide : ifCond.holds .ne (1 : Int32) = true) (by decide) (by decide)) ?_
  refine R1 (XS.iloadN X5.here hx rfl (dq (dg dgc 2 rfl)) rfl) ?_
  refine R1 (XS.iconst X5.here hx rfl (dq (dg dgc 3 rfl)) ) ?_
  refine R1 (XT.ishl X5.here hx rfl (dq (dg dgc 4 rfl)) rfl) ?_
  show Rch p e below T5 (mkF m 31 #[vR tb, vI (Int32.ofNat i)] [(.int ((Int32.ofNat i) <<< ((1 : Int32) &&& 31)))]) _
  rw [shl1n (show 2 * i < 2 ^ 31 by omega)]
  show Rch p e below T5 (mkF m 31 #[vR tb, vI (Int32.ofNat i)] [(.int (Int32.ofNat (2 * i)))]) _
  refine R1 (XS.istoreN X5.here hx rfl (dq (dg dgc 5 rfl)) rfl (l' := #[vR tb, vI (Int32.ofNat (2 * i))]) rfl) ?_
  refine R1 (XS.aloadN X5.here hx rfl (dq (dg dgc 6 rfl)) rfl rfl) ?_
  refine R1 (XS.iloadN X5.here hx rfl (dq (dg dgc 7 rfl)) rfl) ?_
  refine R1 (XS.iinc X5.here hx rfl (dq (dg dgc 8 rfl)) rfl (l' := #[vR tb, vI ((Int32.ofNat (2 * i)) + (1 : Int32))]) rfl) ?_
  show Rch p e below T5 (mkF m 37 #[vR tb, vI ((Int32.ofNat (2 * i)) + (1 : Int32))] [(.int (Int32.ofNat (2 * i))), (.ref tb)]) _
  rw [add1n]
  show Rch p e below T5 (mkF m 37 #[vR tb, vI (Int32.ofNat (2 * i + 1))] [(.int (Int32.ofNat (2 * i))), (.ref tb)]) _
  refine R0_ (balA X5 hx hZ e5 M ⟨ofN_neg (by omega), ofN_lt (by omega) (by omega)⟩ (v := (.int (StrChars.lo8 (cs.getD i 0)))) (by rw [ofN_clamp (by omega)]; exact StrChars.Road.wide_lo _ cs i hi) (g := (mkF m 37 #[vR tb, vI (Int32.ofNat (2 * i + 1))] [(.int (Int32.ofNat (2 * i))), (.ref tb)])) rfl rfl (dq (dg dgc 9 rfl))) ?_
  show Rch p e below T5 (mkF m 38 #[vR tb, vI (Int32.ofNat (2 * i + 1))] [(.int (StrChars.lo8 (cs.getD i 0)))]) _
  refine R1 (XS.sipush X5.here hx rfl (dq (dg dgc 10 rfl)) ) ?_
  refine R1 (XS.iand X5.here hx rfl (dq (dg dgc 11 rfl)) rfl) ?_
  show Rch p e below T5 (mkF m 42 #[vR tb, vI (Int32.ofNat (2 * i + 1))] [(.int ((StrChars.lo8 (cs.getD i 0)) &&& (255 : Int32)))]) _
  obtain ⟨T6, X6, e6, st6⟩ := getS2 X5 hx hZ hown (host := "") (Or.inl (wq hw 247 rfl)) Via.refl e5 B.2.2.1 (g := (mkF m 42 #[vR tb, vI (Int32.ofNat (2 * i + 1))] [(.int ((StrChars.lo8 (cs.getD i 0)) &&& (255 : Int32)))])) rfl (dq (dg dgc 12 rfl))
  refine R0_ st6 ?_
  show Rch p e below T6 (mkF m 45 #[vR tb, vI (Int32.ofNat (2 * i + 1))] [(.int (0 : Int32)), (.int ((StrChars.lo8 (cs.getD i 0)) &&& (255 : Int32)))]) _
  refine R1 (XT.ishl X6.here hx rfl (dq (dg dgc 13 rfl)) rfl) ?_
  refine R1 (XS.aloadN X6.here hx rfl (dq (dg dgc 14 rfl)) rfl rfl) ?_
  refine R1 (XS.iloadN X6.here hx rfl (dq (dg dgc 15 rfl)) rfl) ?_
  show Rch p e below T6 (mkF m 48 #[vR tb, vI (Int32.ofNat (2 * i + 1))] [(.int (Int32.ofNat (2 * i + 1))), (.ref tb), (.int (((StrChars.lo8 (cs.getD i 0)) &&& (255 : Int32)) <<< ((0 : Int32) &&& 31)))]) _
  refine R0_ (balA X6 hx hZ e6 M ⟨ofN_neg (by omega), ofN_lt (by omega) (by omega)⟩ (v := (.int (StrChars.hi8 (cs.getD i 0)))) (by rw [ofN_clamp (by omega)]; exact StrChars.Road.wide_hi _ cs i hi) (g := (mkF m 48 #[vR tb, vI (Int32.ofNat (2 * i + 1))] [(.int (Int32.ofNat (2 * i + 1))), (.ref tb), (.int (((StrChars.lo8 (cs.getD i 0)) &&& (255 : Int32)) <<< ((0 : Int32) &&& 31)))])) rfl rfl (dq (dg dgc 16 rfl))) ?_
  show Rch p e below T6 (mkF m 49 #[vR tb, vI (Int32.ofNat (2 * i + 1))] [(.int (StrChars.hi8 (cs.getD i 0))), (.int (((StrChars.lo8 (cs.getD i 0)) &&& (255 : Int32)) <<< ((0 : Int32) &&& 31)))]) _
  refine R1 (XS.sipush X6.here hx rfl (dq (dg dgc 17 rfl)) ) ?_
  refine R1 (XS.iand X6.here hx rfl (dq (dg dgc 18 rfl)) rfl) ?_
  show Rch p e below T6 (mkF m 53 #[vR tb, vI (Int32.ofNat (2 * i + 1))] [(.int ((StrChars.hi8 (cs.getD i 0)) &&& (255 : Int32))), (.int (((StrChars.lo8 (cs.getD i 0)) &&& (255 : Int32)) <<< ((0 : Int32) &&& 31)))]) _
  obtain ⟨T7, X7, e7, st7⟩ := getS2 X6 hx hZ hown (host := "") (Or.inl (wq hw 248 rfl)) Via.refl e6 B.2.2.2.1 (g := (mkF m 53 #[vR tb, vI (Int32.ofNat (2 * i + 1))] [(.int ((StrChars.hi8 (cs.getD i 0)) &&& (255 : Int32))), (.int (((StrChars.lo8 (cs.getD i 0)) &&& (255 : Int32)) <<< ((0 : Int32) &&& 31)))])) rfl (dq (dg dgc 19 rfl))
  refine R0_ st7 ?_
  show Rch p e below T7 (mkF m 56 #[vR tb, vI (Int32.ofNat (2 * i + 1))] [(.int (8 : Int32)), (.int ((StrChars.hi8 (cs.getD i 0)) &&& (255 : Int32))), (.int (((StrChars.lo8 (cs.getD i 0)) &&& (255 : Int32)) <<< ((0 : Int32) &&& 31)))]) _
  refine R1 (XT.ishl X7.here hx rfl (dq (dg dgc 20 rfl)) rfl) ?_
  refine R1 (XT.ior X7.here hx rfl (dq (dg dgc 21 rfl)) rfl) ?_
  refine R1 (XT.i2c X7.here hx rfl (dq (dg dgc 22 rfl)) rfl) ?_
  show Rch p e below T7 (mkF m 59 #[vR tb, vI (Int32.ofNat (2 * i + 1))] [(.int (((((StrChars.lo8 (cs.getD i 0)) &&& (255 : Int32)) <<< ((0 : Int32) &&& 31)) ||| (((StrChars.hi8 (cs.getD i 0)) &&& (255 : Int32)) <<< ((8 : Int32) &&& 31))).toUInt32.toUInt16.toUInt32.toInt32))]) _
  have ev : (((((StrChars.lo8 (cs.getD i 0)) &&& (255 : Int32)) <<< ((0 : Int32) &&& 31)) ||| (((StrChars.hi8 (cs.getD i 0)) &&& (255 : Int32)) <<< ((8 : Int32) &&& 31))).toUInt32.toUInt16.toUInt32.toInt32) = cs.getD i 0 := StrChars.pair_says hcm.1 hcm.2
  rw [ev]
  show Rch p e below T7 (mkF m 59 #[vR tb, vI (Int32.ofNat (2 * i + 1))] [(.int (cs.getD i 0))]) _
  exact Rch.fin (Q := Q_getc Z tb kb cs i fm h0 n0) X7 (v := some (.int (cs.getD i 0))) (fun h => by rw [Bd.returns] at h; cases h) (BodyLoose.notSynchronized Bd) (fun fs hr => retOut X7 hx Bd.returns (StrChars.narrow_ch hcm.1 hcm.2) (Or.inl ⟨rfl, by simp, _, rfl⟩) (dq (dg dgc 23 rfl)) hr) (by rw [e7]; exact ⟨rfl, N0, rfl⟩) (by decide) (by decide)
theorem dua : dxs jdk_52_method_83_code [(0, .iload_n 1, 1), (1, .aload_n 0, 1), (2, .invokestatic 67, 3), (5, .aload_n 0, 1), (6, .iload_n 1, 1), (7, .invokestatic 71, 3), (10, .ireturn, 1)] = true := by decide +kernel
theorem pn_uch : plainFor (⟨"java/lang/StringUTF16", "charAt", "([BI)C"⟩ : MethodName) = true := plainFor_of_name (by first | (simp [plainName, overriddenIn]; done) | decide +kernel)
def Q_uch (Z : State) (tb : Addr) (kb : ClassId) (cs : List Int32) (i : Nat) (fm : Value) (h0 : Heap) (n0 : Nat) (v : Option Value) (h : Heap) (L : List Loc) : Prop := v = some (.int (cs.getD i 0)) ∧ Fr n0 L ∧ h = h0
set_option maxRecDepth 65536 in
set_option maxHeartbeats 40000000 in
theorem rm_uch (l : Launch) (Z : State) (a0 : Array Value) (hw : ∀ d ∈ tables_1, d.before a0 Z = true) (ws : List Jvm.Cond) (tb : Addr) (kb : ClassId) (cs : List Int32) (i : Nat) (fm : Value) (h0 : Heap) (n0 : Nat) (Z0 : n0 ≤ h0.size) (B : Bg Z h0 fm) (hbd : ∀ c ∈ cs, ¬ c < 0 ∧ ¬ (65535 : Int32) < c) (M : Arv Z h0 tb kb .byte (Int32.ofNat (2 * cs.length)) (StrChars.Road.wideBytes cs) (.int 0)) (hi : i < cs.length) (hl : cs.length ≤ 4000) :
    MetFree l mN5 (head1 (Jvm.Cond.code mN5 jdk_52_method_83_code 2 (some .char) :: ws) rO3) (fun a U => a = #[(.ref tb), (.int (Int32.ofNat i))] ∧ Z.Warmed39 U.vm ∧ U.heap = h0) (fun _ _ _ _ _ => True) (fun _ U o U' => ∃ v L, o = .returned v ∧ Q_uch Z tb kb cs i fm h0 n0 v U'.heap L ∧ FrameEnd U o U' L rO3.cells rO3.slots) := by
  refine MetFree.of_bodySF pn_uch hisR ?_
  intro p e s m args below meth c s₁ Bd hml0 hP hK
  obtain ⟨rfl, hZ, hh⟩ := hP
  have hx := Bd.exec
  have hby := Bd.bytes
  have dq := @hb _ _ hby
  have hml : c.maxLocals = 2 := hml0
  have hown : s.vm.findClass "java/lang/StringUTF16" = some m.cls := findClass_of_methodNamed Bd.named
  have X0 : Stand p l e rO3 s m #[(.ref tb), (.int (Int32.ofNat i))] below meth c s₁ [] 0 0 := Stand.of_body Bd
  have e0 : s₁.heap = h0 := by rw [← hh, Bd.state]; rfl
  have N0 := Fr.nil n0
  show Rch p e below s₁ _ _
  refine Rch.cast (ef_getc m tb (Int32.ofNat i)) ?_
  show Rch p e below s₁ (mkF m 0 #[vR tb, vI (Int32.ofNat i)] []) _
  have hcm : ¬ cs.getD i 0 < 0 ∧ ¬ (65535 : Int32) < cs.getD i 0 := by
    have e : cs.getD i 0 = cs[i] := by simp [List.getD_eq_getElem?_getD, hi]
    rw [e]; exact hbd _ (List.getElem_mem _)
  refine R1 (XS.iloadN X0.here hx rfl (dq (dg dua 0 rfl)) rfl) ?_
  refine R1 (XS.aloadN X0.here hx rfl (dq (dg dua 1 rfl)) rfl rfl) ?_
  show Rch p e below s₁ (mkF m 2 #[vR tb, vI (Int32.ofNat i)] [(.ref tb), (.int (Int32.ofNat i))]) _
  obtain ⟨_, _, ⟨T8, L8, k8, n8⟩, -, X8, ⟨Lc8, hQ8, l8, y8, z8⟩, st8⟩ := Jvm.LawKit.callS X0 hx (y := mN3) hown (mw hZ hw 255 rfl) (mw hZ hw 256 rfl) (mw hZ hw 152 rfl) (mw hZ hw 257 rfl) (by decide) (backOf (W := 0) (rm_uchk l Z a0 hw [] tb kb cs i fm h0 n0 Z0 B M hi hl) hZ (wq hw 257 rfl) (wq hw 152 rfl) (by decide) (by decide)) (g := (mkF m 2 #[vR tb, vI (Int32.ofNat i)] [(.ref tb), (.int (Int32.ofNat i))])) rfl (by rw [hml]; rfl) (argsL := [(.int (Int32.ofNat i)), (.ref tb)]) (rest := []) (lenOf pd_3 rfl) rfl (w0 rfl) (dq (dg dua 2 rfl)) (fun _ _ => ⟨rfl, e0, (by decide : 0 + 0 ≤ _), (by decide : 0 + 0 ≤ _)⟩)
  dsimp only [Pt.U, Pt.locs, Pt.cells, Pt.slots] at X8 l8 y8 z8 st8 hQ8
  subst l8 y8 z8
  obtain ⟨rfl, Nq8, e8⟩ := hQ8
  have N8 := Fr.app N0 Nq8
  refine R0_ st8 ?_
  show Rch p e below T8 (mkF m 5 #[vR tb, vI (Int32.ofNat i)] []) _
  refine R1 (XS.aloadN X8.here hx rfl (dq (dg dua 3 rfl)) rfl rfl) ?_
  refine R1 (XS.iloadN X8.here hx rfl (dq (dg dua 4 rfl)) rfl) ?_
  show Rch p e below T8 (mkF m 7 #[vR tb, vI (Int32.ofNat i)] [(.int (Int32.ofNat i)), (.ref tb)]) _
  obtain ⟨_, _, ⟨T9, L9, k9, n9⟩, -, X9, ⟨Lc9, hQ9, l9, y9, z9⟩, st9⟩ := Jvm.LawKit.callS X8 hx (y := mN4) hown (mw hZ hw 249 rfl) (mw hZ hw 250 rfl) (mw hZ hw 152 rfl) (mw hZ hw 251 rfl) (by decide) (backOf (W := 0) (rm_getc l Z a0 hw [] tb kb cs i fm h0 n0 Z0 B hbd M hi hl) hZ (wq hw 251 rfl) (wq hw 152 rfl) (by decide) (by decide)) (g := (mkF m 7 #[vR tb, vI (Int32.ofNat i)] [(.int (Int32.ofNat i)), (.ref tb)])) rfl (by rw [hml]; rfl) (argsL := [(.ref tb), (.int (Int32.ofNat i))]) (rest := []) (lenOf pd_4 rfl) rfl (w0 rfl) (dq (dg dua 5 rfl)) (fun _ _ => ⟨rfl, e8, (by decide : 0 + 0 ≤ _), (by decide : 0 + 0 ≤ _)⟩)
  dsimp only [Pt.U, Pt.locs, Pt.cells, Pt.slots] at X9 l9 y9 z9 st9 hQ9
  subst l9 y9 z9
  obtain ⟨rfl, Nq9, e9⟩ := hQ9
  have N9 := Fr.app N8 Nq9
  refine R0_ st9 ?_
  show Rch p e below T9 (mkF m 10 #[vR tb, vI (Int32.ofNat i)] [(.int (cs.getD i 0))]) _
  exact Rch.fin (Q := Q_uch Z tb kb cs i fm h0 n0) X9 (v := some (.int (cs.getD i 0))) (fun h => by rw [Bd.returns] at h; cases h) (BodyLoose.notSynchronized Bd) (fun fs hr => retOut X9 hx Bd.returns (StrChars.narrow_ch hcm.1 hcm.2) (Or.inl ⟨rfl, by simp, _, rfl⟩) (dq (dg dua 6 rfl)) hr) (by rw [e9]; exact ⟨rfl, N9, rfl⟩) (by decide) (by decide)
theorem dil : dxs jdk_42_method_154_code [(0, .getstatic 38, 3), (3, .ifCond .eq 14, 3), (6, .aload_n 0, 1), (7, .getfield 15, 3), (10, .ifCond .ne 7, 3), (13, .iconst 1, 1), (14, .goto 4, 3), (17, .iconst 0, 1), (18, .ireturn, 1)] = true := by decide +kernel
theorem pn_isl : plainFor (⟨"java/lang/String", "isLatin1", "()Z"⟩ : MethodName) = true := plainFor_of_name (by first | (simp [plainName, overriddenIn]; done) | decide +kernel)
def Q_isl (Z : State) (ta : Addr) (cd : Int32) (h0 : Heap) (n0 : Nat) (v : Option Value) (h : Heap) (L : List Loc) : Prop := ∃ r, v = some (.int r) ∧ Fr n0 L ∧ h = h0 ∧ (cd = 0 → r = 1) ∧ (¬ cd = 0 → r = 0)
set_option maxRecDepth 65536 in
set_option maxHeartbeats 40000000 in
theorem rm_isl (l : Launch) (Z : State) (a0 : Array Value) (hw : ∀ d ∈ tables_1, d.before a0 Z = true) (ws : List Jvm.Cond) (ta : Addr) (cd : Int32) (h0 : Heap) (n0 : Nat) (Z0 : n0 ≤ h0.size) (CS : Cmp Z h0) (F : Fld Z h0 ta "java/lang/String" "coder" "B" (.int cd)) :
    MetFree l mN6 (head1 (Jvm.Cond.code mN6 jdk_42_method_154_code 1 (some .boolean) :: ws) rO0) (fun a U => a = #[(.ref ta)] ∧ Z.Warmed39 U.vm ∧ U.heap = h0) (fun _ _ _ _ _ => True) (fun _ U o U' => ∃ v L, o = .returned v ∧ Q_isl Z ta cd h0 n0 v U'.heap L ∧ FrameEnd U o U' L rO0.cells rO0.slots) := by
  refine MetFree.of_bodySF pn_isl hisR ?_
  intro p e s m args below meth c s₁ Bd hml0 hP hK
  obtain ⟨rfl, hZ, hh⟩ := hP
  have hx := Bd.exec
  have hby := Bd.bytes
  have dq := @hb _ _ hby
  have hml : c.maxLocals = 1 := hml0
  have hown : s.vm.findClass "java/lang/String" = some m.cls := findClass_of_methodNamed Bd.named
  have X0 : Stand p l e rO0 s m #[(.ref ta)] below meth c s₁ [] 0 0 := Stand.of_body Bd
  have e0 : s₁.heap = h0 := by rw [← hh, Bd.state]; rfl
  have N0 := Fr.nil n0
  show Rch p e below s₁ _ _
  refine Rch.cast (ef_ulen m ta) ?_
  show Rch p e below s₁ (mkF m 0 #[vR ta] []) _
  obtain ⟨zc, Sz, hzc⟩ := id CS
  obtain ⟨T10, X10, e10, st10⟩ := getS2 X0 hx hZ hown (host := "") (Or.inl (wq hw 44 rfl)) Via.refl e0 Sz (g := (mkF m 0 #[vR ta] [])) rfl (dq (dg dil 0 rfl))
  refine R0_ st10 ?_
  show Rch p e below T10 (mkF m 3 #[vR ta] [(.int zc)]) _
  refine R1 (XS.ifNo X10.here hx rfl (dq (dg dil 1 rfl)) rfl ((if0 _ _).trans (feq hzc).1)) ?_
  refine R1 (XS.aloadN X10.here hx rfl (dq (dg dil 2 rfl)) rfl rfl) ?_
  show Rch p e below T10 (mkF m 7 #[vR ta] [(.ref ta)]) _
  obtain ⟨T11, X11, e11, st11⟩ := getF X10 hx hZ hown (host := "") (Or.inl (wq hw 26 rfl)) Via.refl e10 F (g := (mkF m 7 #[vR ta] [(.ref ta)])) rfl rfl (dq (dg dil 3 rfl))
  refine R0_ st11 ?_
  show Rch p e below T11 (mkF m 10 #[vR ta] [(.int cd)]) _
  by_cases hcd : cd = (0 : Int32)
  · skip
    refine R1 (XS.ifNo X11.here hx rfl (dq (dg dil 4 rfl)) rfl ((if0 _ _).trans (teq hcd).2)) ?_
    refine R1 (XS.iconst X11.here hx rfl (dq (dg dil 5 rfl)) ) ?_
    refine R1 (XS.goto X11.here hx rfl (pc0 := 14) (pc' := 18) rfl (dq (dg dil 6 rfl)) (by decide) (by decide)) ?_
    show Rch p e below T11 (mkF m 18 #[vR ta] [(.int (1 : Int32))]) _
    exact Rch.fin (Q := Q_isl Z ta cd h0 n0) X11 (v := some (.int (1 : Int32))) (fun h => by rw [Bd.returns] at h; cases h) (BodyLoose.notSynchronized Bd) (fun fs hr => retN X11 hx (t := .boolean) Bd.returns (by simp) (dq (dg dil 8 rfl)) hr) (by rw [e11]; exact ⟨1, rfl, N0, rfl, fun _ => rfl, fun q => absurd hcd q⟩) (by decide) (by decide)
  · skip
    refine R1 (XS.ifYes X11.here hx rfl (pc0 := 10) (pc' := 17) rfl (dq (dg dil 4 rfl)) rfl ((if0 _ _).trans (feq hcd).2) (by decide) (by decide)) ?_
    refine R1 (XS.iconst X11.here hx rfl (dq (dg dil 7 rfl)) ) ?_
    show Rch p e below T11 (mkF m 18 #[vR ta] [(.int (0 : Int32))]) _
    exact Rch.fin (Q := Q_isl Z ta cd h0 n0) X11 (v := some (.int (0 : Int32))) (fun h => by rw [Bd.returns] at h; cases h) (BodyLoose.notSynchronized Bd) (fun fs hr => retN X11 hx (t := .boolean) Bd.returns (by simp) (dq (dg dil 8 rfl)) hr) (by rw [e11]; exact ⟨0, rfl, N0, rfl, fun q => absurd q hcd, fun _ => rfl⟩) (by decide) (by decide)
theorem dca : dxs jdk_42_method_56_code [(0, .aload_n 0, 1), (1, .invokevirtual 492, 3), (4, .ifCond .eq 12, 3), (16, .aload_n 0, 1), (17, .getfield 9, 3), (20, .iload_n 1, 1), (21, .invokestatic 498, 3), (24, .ireturn, 1)] = true := by decide +kernel
theorem pn_chU : plainFor (⟨"java/lang/String", "charAt", "(I)C"⟩ : MethodName) = true := plainFor_of_name (by first | (simp [plainName, overriddenIn]; done) | decide +kernel)
def Q_chU (Z : State) (ta : Addr) (tb : Addr) (kb : ClassId) (cs : List Int32) (i : Nat) (fm : Value) (h0 : Heap) (n0 : Nat) (v : Option Value) (h : Heap) (L : List Loc) : Prop := v = some (.int (cs.getD i 0)) ∧ Fr n0 L ∧ h = h0
set_option maxRecDepth 65536 in
set_option maxHeartbeats 40000000 in
theorem rm_chU (l : Launch) (Z : State) (a0 : Array Value) (hw : ∀ d ∈ tables_1, d.before a0 Z = true) (ws : List Jvm.Cond) (ta : Addr) (tb : Addr) (kb : ClassId) (cs : List Int32) (i : Nat) (fm : Value) (h0 : Heap) (n0 : Nat) (Z0 : n0 ≤ h0.size) (B : Bg Z h0 fm) (E1 : Exa Z h0 ta "java/lang/String") (F1 : Fld Z h0 ta "java/lang/String" "value" "[B" (.ref tb)) (F2 : Fld Z h0 ta "java/lang/String" "coder" "B" (.int (1 : Int32))) (hbd : ∀ c ∈ cs, ¬ c < 0 ∧ ¬ (65535 : Int32) < c) (M : Arv Z h0 tb kb .byte (Int32.ofNat (2 * cs.length)) (StrChars.Road.wideBytes cs) (.int 0)) (hi : i < cs.length) (hl : cs.length ≤ 4000) :
    MetFree l mN7 (head1 (Jvm.Cond.code mN7 jdk_42_method_56_code 2 (some .char) :: ws) rO4) (fun a U => a = #[(.ref ta), (.int (Int32.ofNat i))] ∧ Z.Warmed39 U.vm ∧ U.heap = h0) (fun _ _ _ _ _ => True) (fun _ U o U' => ∃ v L, o = .returned v ∧ Q_chU Z ta tb kb cs i fm h0 n0 v U'.heap L ∧ FrameEnd U o U' L rO4.cells rO4.slots) := by
  refine MetFree.of_bodySF pn_chU hisR ?_
  intro p e s m args below meth c s₁ Bd hml0 hP hK
  obtain ⟨rfl, hZ, hh⟩ := hP
  have hx := Bd.exec
  have hby := Bd.bytes
  have dq := @hb _ _ hby
  have hml : c.maxLocals = 2 := hml0
  have hown : s.vm.findClass "java/lang/String" = some m.cls := findClass_of_methodNamed Bd.named
  have X0 : Stand p l e rO4 s m #[(.ref ta), (.int (Int32.ofNat i))] below meth c s₁ [] 0 0 := Stand.of_body Bd
  have e0 : s₁.heap = h0 := by rw [← hh, Bd.state]; rfl
  have N0 := Fr.nil n0
  show Rch p e below s₁ _ _
  refine Rch.cast (ef_getc m ta (Int32.ofNat i)) ?_
  show Rch p e below s₁ (mkF m 0 #[vR ta, vI (Int32.ofNat i)] []) _
  have hcm : ¬ cs.getD i 0 < 0 ∧ ¬ (65535 : Int32) < cs.getD i 0 := by
    have e : cs.getD i 0 = cs[i] := by simp [List.getD_eq_getElem?_getD, hi]
    rw [e]; exact hbd _ (List.getElem_mem _)
  refine R1 (XS.aloadN X0.here hx rfl (dq (dg dca 0 rfl)) rfl rfl) ?_
  show Rch p e below s₁ (mkF m 1 #[vR ta, vI (Int32.ofNat i)] [(.ref ta)]) _
  obtain ⟨cq12, kq12, q12a, q12b, q12c⟩ := isOf hZ e0 E1
  obtain ⟨_, _, ⟨T12, L12, k12, n12⟩, -, X12, ⟨Lc12, hQ12, l12, y12, z12⟩, st12⟩ := X0.virtualBack hx (y := mN6) (z := mN6) hown (mw hZ hw 134 rfl) (mw hZ hw 135 rfl) (notFace_of_selects (args := #[]) (mw hZ hw 137 rfl)) (mw hZ hw 137 rfl) (mw hZ hw 136 rfl) (by decide) (backOf (W := 0) (rm_isl l Z a0 hw [] ta (1 : Int32) h0 n0 Z0 B.1 F2) hZ (wq hw 138 rfl) (wq hw 7 rfl) (by decide) (by decide)) q12a q12c (g := (mkF m 1 #[vR ta, vI (Int32.ofNat i)] [(.ref ta)])) rfl (by rw [hml]; rfl) (Steps.refl _) (argsL := []) (rest := []) (lenOf pd_5 rfl) rfl (w0 rfl) (dq (dg dca 1 rfl)) (fun _ _ => ⟨rfl, e0, (by decide : 0 + 0 ≤ _), (by decide : 0 + 0 ≤ _)⟩)
  dsimp only [Pt.U, Pt.locs, Pt.cells, Pt.slots] at X12 l12 y12 z12 st12 hQ12
  subst l12 y12 z12
  obtain ⟨r12, rfl, Nq12, e12, u12, v12⟩ := hQ12
  have N12 := Fr.app N0 Nq12
  obtain rfl : r12 = 0 := v12 (by decide)
  refine R2 st12 ?_
  show Rch p e below T12 (mkF m 4 #[vR ta, vI (Int32.ofNat i)] [(.int (0 : Int32))]) _
  refine R1 (XS.ifYes X12.here hx rfl (pc0 := 4) (pc' := 16) rfl (dq (dg dca 2 rfl)) rfl (by decide : ifCond.holds .eq (0 : Int32) = true) (by decide) (by decide)) ?_
  refine R1 (XS.aloadN X12.here hx rfl (dq (dg dca 3 rfl)) rfl rfl) ?_
  show Rch p e below T12 (mkF m 17 #[vR ta, vI (Int32.ofNat i)] [(.ref ta)]) _
  obtain ⟨T13, X13, e13, st13⟩ := getF X12 hx hZ hown (host := "") (Or.inl (wq hw 25 rfl)) Via.refl e12 F1 (g := (mkF m 17 #[vR ta, vI (Int32.ofNat i)] [(.ref ta)])) rfl rfl (dq (dg dca 4 rfl))
  refine R0_ st13 ?_
  show Rch p e below T13 (mkF m 20 #[vR ta, vI (Int32.ofNat i)] [(.ref tb)]) _
  refine R1 (XS.iloadN X13.here hx rfl (dq (dg dca 5 rfl)) rfl) ?_
  show Rch p e below T13 (mkF m 21 #[vR ta, vI (Int32.ofNat i)] [(.int (Int32.ofNat i)), (.ref tb)]) _
  obtain ⟨_, _, ⟨T14, L14, k14, n14⟩, -, X14, ⟨Lc14, hQ14, l14, y14, z14⟩, st14⟩ := Jvm.LawKit.callS X13 hx (y := mN5) hown (mw hZ hw 252 rfl) (mw hZ hw 253 rfl) (mw hZ hw 152 rfl) (mw hZ hw 254 rfl) (by decide) (backOf (W := 0) (rm_uch l Z a0 hw [] tb kb cs i fm h0 n0 Z0 B hbd M hi hl) hZ (wq hw 254 rfl) (wq hw 152 rfl) (by decide) (by decide)) (g := (mkF m 21 #[vR ta, vI (Int32.ofNat i)] [(.int (Int32.ofNat i)), (.ref tb)])) rfl (by rw [hml]; rfl) (argsL := [(.ref tb), (.int (Int32.ofNat i))]) (rest := []) (lenOf pd_4 rfl) rfl (w0 rfl) (dq (dg dca 6 rfl)) (fun _ _ => ⟨rfl, e13, (by decide : 0 + 0 ≤ _), (by decide : 0 + 0 ≤ _)⟩)
  dsimp only [Pt.U, Pt.locs, Pt.cells, Pt.slots] at X14 l14 y14 z14 st14 hQ14
  subst l14 y14 z14
  obtain ⟨rfl, Nq14, e14⟩ := hQ14
  have N14 := Fr.app N12 Nq14
  refine R0_ st14 ?_
  show Rch p e below T14 (mkF m 24 #[vR ta, vI (Int32.ofNat i)] [(.int (cs.getD i 0))]) _
  exact Rch.fin (Q := Q_chU Z ta tb kb cs i fm h0 n0) X14 (v := some (.int (cs.getD i 0))) (fun h => by rw [Bd.returns] at h; cases h) (BodyLoose.notSynchronized Bd) (fun fs hr => retOut X14 hx Bd.returns (StrChars.narrow_ch hcm.1 hcm.2) (Or.inl ⟨rfl, by simp, _, rfl⟩) (dq (dg dca 7 rfl)) hr) (by rw [e14]; exact ⟨rfl, N14, rfl⟩) (by decide) (by decide)
theorem ws_ch : ∀ d ∈ StrChars.Road.wordsChN, d ∈ tables_1 := by decide +kernel
theorem chS {p : Program} {l : Launch} {e : Env} {R : Room} {s : State} {args : Array Value} {below : List Frame} {len W : Nat} {Z : State} {a0 : Array Value} {h : Heap} (hZ : Z.Warmed39 s.vm) (hw : ∀ d ∈ tables_1, d.before a0 Z = true) {x : Addr} {cs : List Int32} {fm : Value} (A : StrA Z h x cs) (B : Bg Z h fm) (i : Nat) (hi : i < cs.length) (l1 : cs.length ≤ 4000) (n0 : Nat) (hn0 : n0 ≤ h.size) (hfr : 5 ≤ R.frames) (hlo : W + 66 ≤ R.locals) :
    Back l R p e below s args mN7 len W (fun P a => a = #[.ref x, .int (Int32.ofNat i)] ∧ P.U.heap = h ∧ P.cells + 0 ≤ R.cells ∧ P.slots + 0 ≤ R.slots)
      (fun P _ v B => ∃ L, (v = some (.int (cs.getD i 0)) ∧ Fr n0 L ∧ B.U.heap = h) ∧ B.locs = P.locs ++ L ∧ B.cells = P.cells + 0 ∧ B.slots = P.slots + 0) := by
  obtain ⟨t, kb, cd, N2, vs, a1, a2, a3, a4, a5, a6⟩ := A
  obtain ⟨⟨z, S, hz⟩, -, -, -, S4, hf⟩ := id B
  rcases a5 with ⟨rfl, rfl, rfl, q⟩ | ⟨rfl, rfl, rfl, q⟩
  · refine Back.mono (StrChars.Road.chN hZ (fun d hd => hw d (ws_ch d hd)) (kI := 4) (wq hw 6 rfl) a1 a2 a3 a4 (Or.inl ⟨rfl, rfl, rfl, q⟩) a6 S hz S4 hf l1 hi rfl (by omega) (by omega)) (fun _ _ hp => hp) (fun P a v B _ hq => ?_)
    obtain ⟨L, ⟨q1, q2, q3⟩, r⟩ := hq
    exact ⟨L, ⟨q1, by rw [q2]; exact Fr.nil n0, q3⟩, r⟩
  · exact backOf (W := W) (rm_chU l Z a0 hw [] x t kb cs i fm h n0 hn0 B a1 a2 a3 a6 a4 hi l1) hZ (wq hw 133 rfl) (wq hw 7 rfl) (by show 4 + 1 ≤ _; omega) (by show W + (2 + 11) + 53 ≤ _; omega)

theorem dn4 : dxs jdk_42_method_149_code [(0, .aload_n 0, 1), (1, .invokespecial 1, 3), (4, .iload_n 3, 1), (5, .ifCond .ne 22, 3), (8, .aload_n 0, 1), (9, .ldc 7, 2), (11, .getfield 9, 3), (14, .putfield 9, 3), (17, .aload_n 0, 1), (18, .ldc 7, 2), (20, .getfield 15, 3), (23, .putfield 15, 3), (26, .return_, 1), (27, .getstatic 38, 3), (30, .ifCond .eq 28, 3), (33, .aload_n 1, 1), (34, .iload_n 2, 1), (35, .iload_n 3, 1), (36, .invokestatic 177, 3), (39, .astore 5, 2), (41, .aload_n 0, 1), (42, .aload 5, 2), (44, .iload_n 3, 1), (45, .invokestatic 47, 3), (48, .putfield 15, 3), (51, .aload_n 0, 1), (52, .aload 5, 2), (54, .putfield 9, 3), (57, .return_, 1)] = true := by decide +kernel
theorem pn_new4e : plainFor (⟨"java/lang/String", "<init>", "([CIILjava/lang/Void;)V"⟩ : MethodName) = true := plainFor_of_name (by first | (simp [plainName, overriddenIn]; done) | decide +kernel)
theorem ef_new4e (m : MethodId) (x0 : Addr) (x1 : Addr) (x2 : Int32) (x3 : Int32) : entryFrame m #[(.ref x0), (.ref x1), (.int x2), (.int x3), .null] 6 = mkF m 0 #[vR x0, vR x1, vI x2, vI x3, .val .null, .unset] [] := by first | (simp [entryFrame, mkF, argsToLocals, Value.category]; done) | rfl
def Q_new4e (Z : State) (ta tb : Addr) (h0 : Heap) (n0 : Nat) (v : Option Value) (h : Heap) (L : List Loc) : Prop := v = none ∧ Fr n0 L ∧ Keep h0 h [ta] ∧ StrA Z h ta []
set_option maxRecDepth 65536 in
set_option maxHeartbeats 40000000 in
theorem rm_new4e (l : Launch) (Z : State) (a0 : Array Value) (hw : ∀ d ∈ tables_1, d.before a0 Z = true) (ws : List Jvm.Cond) (ta tb : Addr) (h0 : Heap) (n0 : Nat) (Z0 : n0 ≤ h0.size) (hthis : n0 ≤ ta) (E1 : Exa Z h0 ta "java/lang/String") (F1 : Fld Z h0 ta "java/lang/String" "value" "[B" .null) (F2 : Fld Z h0 ta "java/lang/String" "coder" "B" (.int (0 : Int32))) :
    MetFree l mN8 (head1 (Jvm.Cond.code mN8 jdk_42_method_149_code 6 none :: ws) rO5) (fun a U => a = #[(.ref ta), (.ref tb), (.int (0 : Int32)), (.int (0 : Int32)), .null] ∧ Z.Warmed39 U.vm ∧ U.heap = h0 ∧ CHv Z EL U.vm h0) (fun _ _ _ _ _ => True) (fun _ U o U' => ∃ v L, o = .returned v ∧ Q_new4e Z ta tb h0 n0 v U'.heap L ∧ CHr Z EL U.vm U.heap U'.vm U'.heap ∧ ReturnedEndW U o U' L rO5.cells rO5.slots) := by
  refine MetFree.of_bodySF pn_new4e hisR ?_
  intro p e s m args below meth c s₁ Bd hml0 hP hK
  obtain ⟨rfl, hZ, hh, H0⟩ := hP
  have hx := Bd.exec
  have hby := Bd.bytes
  have dq := @hb _ _ hby
  have hml : c.maxLocals = 6 := hml0
  have hown : s.vm.findClass "java/lang/String" = some m.cls := findClass_of_methodNamed Bd.named
  have hnm := (name_of_methodNamed Bd.named Bd.method).1
  have X0 : Stand p l e rO5 (s.setVm s.vm) m #[(.ref ta), (.ref tb), (.int (0 : Int32)), (.int (0 : Int32)), .null] below meth c s₁ [] 0 0 := Stand.of_body Bd
  have e0 : s₁.heap = h0 := by rw [← hh, Bd.state]; rfl
  have N0 := Fr.nil n0
  have hS0 : s.Since s.vm 0 := (State.WarmedH.refl s).since _
  have R0 : CHr Z EL s.vm s.heap s.vm h0 := by rw [hh]; exact CHr.refl H0
  have hZ : Z.Warmed39 (s.setVm s.vm).vm := hZ
  have hown : (s.setVm s.vm).vm.findClass "java/lang/String" = some m.cls := hown
  have hEL := ew hw
  have wS : ∀ d ∈ Bundle.stringAtoms, d.before a0 Z = true := fun d hd => hw d (ws_lit d hd)
  show Rch p e below s₁ _ _
  refine Rch.cast (ef_new4e m ta tb (0 : Int32) (0 : Int32)) ?_
  show Rch p e below s₁ (mkF m 0 #[vR ta, vR tb, vI (0 : Int32), vI (0 : Int32), .val .null, .unset] []) _
  have hsl : Jvm.RoadKit.slotOf Z "java/lang/String" "value" "[B" ≠ Jvm.RoadKit.slotOf Z "java/lang/String" "coder" "B" := slot_ne (C := "java/lang/String") (Or.inr (wq hw 21 rfl)) (Or.inr (wq hw 22 rfl)) (by decide) (t := .array .byte) (t' := .byte) (by decide) (by decide)
  refine R1 (XS.aloadN X0.here hx rfl (dq (dg dn4 0 rfl)) rfl rfl) ?_
  show Rch p e below s₁ (mkF m 1 #[vR ta, vR tb, vI (0 : Int32), vI (0 : Int32), .val .null, .unset] [(.ref ta)]) _
  obtain ⟨T15, X15, e15, st15⟩ := initO X0 hx hZ hown (wq hw 16 rfl) (wq hw 17 rfl) (wq hw 18 rfl) e0 (g := (mkF m 1 #[vR ta, vR tb, vI (0 : Int32), vI (0 : Int32), .val .null, .unset] [(.ref ta)])) rfl (by rw [hml]; rfl) rfl (dq (dg dn4 1 rfl)) (by decide) (W := 0) (w0 rfl) (by decide)
  refine R0_ st15 ?_
  show Rch p e below T15 (mkF m 4 #[vR ta, vR tb, vI (0 : Int32), vI (0 : Int32), .val .null, .unset] []) _
  refine R1 (XS.iloadN X15.here hx rfl (dq (dg dn4 2 rfl)) rfl) ?_
  refine R1 (XS.ifNo X15.here hx rfl (dq (dg dn4 3 rfl)) rfl (by decide : ifCond.holds .ne (0 : Int32) = false)) ?_
  refine R1 (XS.aloadN X15.here hx rfl (dq (dg dn4 4 rfl)) rfl rfl) ?_
  show Rch p e below T15 (mkF m 9 #[vR ta, vR tb, vI (0 : Int32), vI (0 : Int32), .val .null, .unset] [(.ref ta)]) _
  obtain ⟨a16, T16, h16, kk16, b16, kb16, X16, e16, E16, hS16, hk16, hZ16, hown16, EX16, CO16, VA16, AR16, la16, lb16, CR16, LT16, SF16, st16⟩ := ldcCH X15 hx hZ hown (wq hw 19 rfl) wS e15 hS0 (Nat.zero_le _) hEL (by simp [EL]) R0.1 (vs := ([] : List Int32).map (fun c => Value.int c.toInt8.toInt32)) (z := (0 : Int32)) ⟨by decide, by decide⟩ (by decide) rfl (g := (mkF m 9 #[vR ta, vR tb, vI (0 : Int32), vI (0 : Int32), .val .null, .unset] [(.ref ta)])) rfl (dq (dg dn4 5 rfl)) (n := 0) (by decide) (by decide) (by decide) (by decide)
  have Ex17 : Ext h0 h16 := E16
  have R16 := R0.trans CR16
  refine R0_ st16 ?_
  show Rch p e below T16 (mkF m 11 #[vR ta, vR tb, vI (0 : Int32), vI (0 : Int32), .val .null, .unset] [(.ref a16), (.ref ta)]) _
  have E2 := E1.ext Ex17
  have F3 := F1.ext Ex17
  have F4 := F2.ext Ex17
  have S0 : Safe Z EL T16.vm h16 ta := Safe.blank (State.Warmed39.alike hZ16) E2 F3
  obtain ⟨T18, X18, e18, st18⟩ := getF X16 hx hZ16 hown16 (host := "") (Or.inl (wq hw 25 rfl)) Via.refl e16 VA16 (g := (mkF m 11 #[vR ta, vR tb, vI (0 : Int32), vI (0 : Int32), .val .null, .unset] [(.ref a16), (.ref ta)])) rfl rfl (dq (dg dn4 6 rfl))
  refine R0_ st18 ?_
  show Rch p e below T18 (mkF m 14 #[vR ta, vR tb, vI (0 : Int32), vI (0 : Int32), .val .null, .unset] [(.ref b16), (.ref ta)]) _
  obtain ⟨T19, h19, X19, e19, W19, st19⟩ := putF X18 hx hZ16 hown16 (host := "") (Or.inl (wq hw 25 rfl)) Via.refl e18 F3 E2 (Or.inr ⟨(wq hw 21 rfl), rfl, hnm⟩) (wq hw 6 rfl) (ty := (.array .byte)) (by decide) rfl rfl (g := (mkF m 14 #[vR ta, vR tb, vI (0 : Int32), vI (0 : Int32), .val .null, .unset] [(.ref b16), (.ref ta)])) rfl rfl (dq (dg dn4 7 rfl))
  have N19 := Fr.snoc X19 N0 hthis
  refine R0_ st19 ?_
  show Rch p e below T19 (mkF m 17 #[vR ta, vR tb, vI (0 : Int32), vI (0 : Int32), .val .null, .unset] []) _
  have ne1 : ta ≠ b16 := E2.neArv AR16 (wq hw 6 rfl)
  have E5 := E2.wr W19
  have F5 := F3.same W19
  have F6 := F4.other W19 (Or.inr (Ne.symm hsl))
  have A5 := AR16.other W19 (Ne.symm ne1)
  have S1 := Safe.wr W19 S0 R16.1 S0
  have R20 := R16.trans (CHr.wr W19 S0 R16.1)
  have hk20 := Nat.le_trans hk16 (Keep.of_wr W19).1
  refine R1 (XS.aloadN X19.here hx rfl (dq (dg dn4 8 rfl)) rfl rfl) ?_
  show Rch p e below T19 (mkF m 18 #[vR ta, vR tb, vI (0 : Int32), vI (0 : Int32), .val .null, .unset] [(.ref ta)]) _
  obtain ⟨a21, T21, h21, kk21, b21, kb21, X21, e21, E21, hS21, hk21, hZ21, hown21, EX21, CO21, VA21, AR21, la21, lb21, CR21, LT21, SF21, st21⟩ := ldcCH X19 hx hZ16 hown16 (wq hw 19 rfl) wS e19 hS16 hk20 hEL (by simp [EL]) R20.1 (vs := ([] : List Int32).map (fun c => Value.int c.toInt8.toInt32)) (z := (0 : Int32)) ⟨by decide, by decide⟩ (by decide) rfl (g := (mkF m 18 #[vR ta, vR tb, vI (0 : Int32), vI (0 : Int32), .val .null, .unset] [(.ref ta)])) rfl (dq (dg dn4 9 rfl)) (n := 0) (by decide) (by decide) (by decide) (by decide)
  have Ex22 : Ext h19 h21 := E21
  have R21 := R20.trans CR21
  refine R0_ st21 ?_
  show Rch p e below T21 (mkF m 20 #[vR ta, vR tb, vI (0 : Int32), vI (0 : Int32), .val .null, .unset] [(.ref a21), (.ref ta)]) _
  have S2 := CR21.safe E5.lt S1
  have E7 := E5.ext Ex22
  have F7 := F5.ext Ex22
  have F8 := F6.ext Ex22
  have A7 := A5.ext Ex22
  obtain ⟨T23, X23, e23, st23⟩ := getF X21 hx hZ21 hown21 (host := "") (Or.inl (wq hw 26 rfl)) Via.refl e21 CO21 (g := (mkF m 20 #[vR ta, vR tb, vI (0 : Int32), vI (0 : Int32), .val .null, .unset] [(.ref a21), (.ref ta)])) rfl rfl (dq (dg dn4 10 rfl))
  refine R0_ st23 ?_
  show Rch p e below T23 (mkF m 23 #[vR ta, vR tb, vI (0 : Int32), vI (0 : Int32), .val .null, .unset] [(.int (0 : Int32)), (.ref ta)]) _
  obtain ⟨T24, h24, X24, e24, W24, st24⟩ := putF X23 hx hZ21 hown21 (host := "") (Or.inl (wq hw 26 rfl)) Via.refl e23 F8 E7 (Or.inr ⟨(wq hw 22 rfl), rfl, hnm⟩) (wq hw 6 rfl) (ty := .byte) (by decide) rfl rfl (g := (mkF m 23 #[vR ta, vR tb, vI (0 : Int32), vI (0 : Int32), .val .null, .unset] [(.int (0 : Int32)), (.ref ta)])) rfl rfl (dq (dg dn4 11 rfl))
  have N24 := Fr.snoc X24 N19 hthis
  refine R0_ st24 ?_
  show Rch p e below T24 (mkF m 26 #[vR ta, vR tb, vI (0 : Int32), vI (0 : Int32), .val .null, .unset] []) _
  have R25 := R21.trans (CHr.wr W24 S2 R21.1)
  have hk25 := Nat.le_trans hk21 (Keep.of_wr W24).1
  have K9 : Keep h0 h24 [ta] := ((((Keep.refl h0 [ta]).ext Ex17).wr W19 (Or.inl (List.mem_singleton.mpr rfl))).ext Ex22).wr W24 (Or.inl (List.mem_singleton.mpr rfl))
  have S9 : StrA Z h24 ta [] := strOf (n := 0) rfl rfl c8_nil (E7.wr W24) (F7.other W24 (Or.inr hsl)) (F8.same W24) (A7.other W24 (Ne.symm ne1))
  exact Rch.finW (Q := Q_new4e Z ta tb h0 n0) X24 hZ21 hEL hS21 (by rw [e24]; exact hk25) e24 R25 (v := none) (fun _ => rfl) (BodyLoose.notSynchronized Bd) (fun fs hr => X24.returnOut hx Bd.returns (dq (dg dn4 12 rfl)) hr) (by rw [e24]; exact ⟨rfl, N24, K9, S9⟩) (by decide) (by decide)
theorem dn1 : dxs jdk_42_method_3_code [(0, .aload_n 0, 1), (1, .aload_n 1, 1), (2, .iconst 0, 1), (3, .aload_n 1, 1), (4, .arraylength, 1), (5, .aconst_null, 1), (6, .invokespecial 27, 3), (9, .return_, 1)] = true := by decide +kernel
theorem pn_new1e : plainFor (⟨"java/lang/String", "<init>", "([C)V"⟩ : MethodName) = true := plainFor_of_name (by first | (simp [plainName, overriddenIn]; done) | decide +kernel)
theorem ef_new1e (m : MethodId) (x0 : Addr) (x1 : Addr) : entryFrame m #[(.ref x0), (.ref x1)] 2 = mkF m 0 #[vR x0, vR x1] [] := by first | (simp [entryFrame, mkF, argsToLocals, Value.category]; done) | rfl
def Q_new1e (Z : State) (ta tb : Addr) (kc : ClassId) (h0 : Heap) (n0 : Nat) (v : Option Value) (h : Heap) (L : List Loc) : Prop := v = none ∧ Fr n0 L ∧ Keep h0 h [ta] ∧ StrA Z h ta []
set_option maxRecDepth 65536 in
set_option maxHeartbeats 40000000 in
theorem rm_new1e (l : Launch) (Z : State) (a0 : Array Value) (hw : ∀ d ∈ tables_1, d.before a0 Z = true) (ws : List Jvm.Cond) (ta tb : Addr) (kc : ClassId) (h0 : Heap) (n0 : Nat) (Z0 : n0 ≤ h0.size) (hthis : n0 ≤ ta) (E1 : Exa Z h0 ta "java/lang/String") (F1 : Fld Z h0 ta "java/lang/String" "value" "[B" .null) (F2 : Fld Z h0 ta "java/lang/String" "coder" "B" (.int (0 : Int32))) (M : Arv Z h0 tb kc .char (0 : Int32) [] (.int (0 : Int32))) :
    MetFree l mN9 (head1 (Jvm.Cond.code mN9 jdk_42_method_3_code 2 none :: ws) rO6) (fun a U => a = #[(.ref ta), (.ref tb)] ∧ Z.Warmed39 U.vm ∧ U.heap = h0 ∧ CHv Z EL U.vm h0) (fun _ _ _ _ _ => True) (fun _ U o U' => ∃ v L, o = .returned v ∧ Q_new1e Z ta tb kc h0 n0 v U'.heap L ∧ CHr Z EL U.vm U.heap U'.vm U'.heap ∧ ReturnedEndW U o U' L rO6.cells rO6.slots) := by
  refine MetFree.of_bodySF pn_new1e hisR ?_
  intro p e s m args below meth c s₁ Bd hml0 hP hK
  obtain ⟨rfl, hZ, hh, H0⟩ := hP
  have hx := Bd.exec
  have hby := Bd.bytes
  have dq := @hb _ _ hby
  have hml : c.maxLocals = 2 := hml0
  have hown : s.vm.findClass "java/lang/String" = some m.cls := findClass_of_methodNamed Bd.named
  have X0 : Stand p l e rO6 (s.setVm s.vm) m #[(.ref ta), (.ref tb)] below meth c s₁ [] 0 0 := Stand.of_body Bd
  have e0 : s₁.heap = h0 := by rw [← hh, Bd.state]; rfl
  have N0 := Fr.nil n0
  have hS0 : s.Since s.vm 0 := (State.WarmedH.refl s).since _
  have R0 : CHr Z EL s.vm s.heap s.vm h0 := by rw [hh]; exact CHr.refl H0
  have hZ : Z.Warmed39 (s.setVm s.vm).vm := hZ
  have hown : (s.setVm s.vm).vm.findClass "java/lang/String" = some m.cls := hown
  have hEL := ew hw
  show Rch p e below s₁ _ _
  refine Rch.cast (ef_new1e m ta tb) ?_
  show Rch p e below s₁ (mkF m 0 #[vR ta, vR tb] []) _
  refine R1 (XS.aloadN X0.here hx rfl (dq (dg dn1 0 rfl)) rfl rfl) ?_
  refine R1 (XS.aloadN X0.here hx rfl (dq (dg dn1 1 rfl)) rfl rfl) ?_
  refine R1 (XS.iconst X0.here hx rfl (dq (dg dn1 2 rfl)) ) ?_
  refine R1 (XS.aloadN X0.here hx rfl (dq (dg dn1 3 rfl)) rfl rfl) ?_
  show Rch p e below s₁ (mkF m 4 #[vR ta, vR tb] [(.ref tb), (.int (0 : Int32)), (.ref tb), (.ref ta)]) _
  refine R0_ (alenA X0 hx hZ e0 M.arh (g := (mkF m 4 #[vR ta, vR tb] [(.ref tb), (.int (0 : Int32)), (.ref tb), (.ref ta)])) rfl rfl (dq (dg dn1 4 rfl))) ?_
  show Rch p e below s₁ (mkF m 5 #[vR ta, vR tb] [(.int (0 : Int32)), (.int (0 : Int32)), (.ref tb), (.ref ta)]) _
  refine R1 (XS.aconstNull X0.here hx rfl (dq (dg dn1 5 rfl)) ) ?_
  show Rch p e below s₁ (mkF m 6 #[vR ta, vR tb] [.null, (.int (0 : Int32)), (.int (0 : Int32)), (.ref tb), (.ref ta)]) _
  obtain ⟨_, _, ⟨T26, L26, k26, n26⟩, -, X26_, hS26_, hg26_, ⟨Lc26, hQ26, l26, y26, z26, CR26⟩, st26⟩ := X0.specialBackS hx (y := mN8) rfl hown (mw hZ hw 12 rfl) (mw hZ hw 13 rfl) (mw hZ hw 15 rfl) (by decide) (backOfSH (W := 0) (rm_new4e l Z a0 hw [] ta tb h0 n0 Z0 hthis E1 F1 F2) hZ (wq hw 15 rfl) (wq hw 7 rfl) (by decide) (by decide) hEL R0.1) (g := (mkF m 6 #[vR ta, vR tb] [.null, (.int (0 : Int32)), (.int (0 : Int32)), (.ref tb), (.ref ta)])) rfl (by rw [hml]; rfl) (Steps.refl _) (a := ta) (argsL := [(.ref tb), (.int (0 : Int32)), (.int (0 : Int32)), .null]) (rest := []) (lenOf pd_6 rfl) rfl (w0 rfl) (dq (dg dn1 6 rfl)) (fun _ _ => ⟨rfl, e0, (by decide : 0 + 4 ≤ _), (by decide : 0 + 8 ≤ _)⟩)
  dsimp only [Pt.U, Pt.locs, Pt.cells, Pt.slots] at X26_ hS26_ hg26_ l26 y26 z26 st26 hQ26 CR26
  subst l26 y26 z26
  obtain ⟨X26, hS26, hZ26, hown26⟩ := rebS hS0 (by rw [e0]; exact (Nat.zero_le _)) X26_ hS26_ hg26_ hZ hown
  obtain ⟨rfl, Nq26, K26, Q26⟩ := hQ26
  have N26 := Fr.app N0 Nq26
  have R26 := R0.trans CR26
  refine R2 st26 ?_
  show Rch p e below T26 (mkF m 9 #[vR ta, vR tb] []) _
  exact Rch.finW (Q := Q_new1e Z ta tb kc h0 n0) X26 hZ26 hEL hS26 (Nat.le_refl _) rfl R26 (v := none) (fun _ => rfl) (BodyLoose.notSynchronized Bd) (fun fs hr => X26.returnOut hx Bd.returns (dq (dg dn1 7 rfl)) hr) ⟨rfl, N26, K26, Q26⟩ (by decide) (by decide)
theorem dpu : dxs jdk_52_method_4_code [(0, .getstatic 44, 3), (3, .ifCond .ne 25, 3), (28, .iload_n 1, 1), (29, .iconst 1, 1), (30, .ishl, 1), (31, .istore_n 1, 1), (32, .aload_n 0, 1), (33, .iload_n 1, 1), (34, .iinc 1 1, 3), (37, .iload_n 2, 1), (38, .getstatic 59, 3), (41, .ishr, 1), (42, .i2b, 1), (43, .bastore, 1), (44, .aload_n 0, 1), (45, .iload_n 1, 1), (46, .iload_n 2, 1), (47, .getstatic 63, 3), (50, .ishr, 1), (51, .i2b, 1), (52, .bastore, 1), (53, .return_, 1)] = true := by decide +kernel
theorem pn_put : plainFor (⟨"java/lang/StringUTF16", "putChar", "([BII)V"⟩ : MethodName) = true := plainFor_of_name (by first | (simp [plainName, overriddenIn]; done) | decide +kernel)
theorem ef_put (m : MethodId) (x0 : Addr) (x1 : Int32) (x2 : Int32) : entryFrame m #[(.ref x0), (.int x1), (.int x2)] 3 = mkF m 0 #[vR x0, vI x1, vI x2] [] := by first | (simp [entryFrame, mkF, argsToLocals, Value.category]; done) | rfl
def Q_put (Z : State) (tb : Addr) (kb : ClassId) (vs : List Value) (i : Nat) (ch : Int32) (fm : Value) (h0 : Heap) (n0 : Nat) (v : Option Value) (h : Heap) (L : List Loc) : Prop := v = none ∧ Fr n0 L ∧ Keep h0 h [tb] ∧ Arv Z h tb kb .byte (Int32.ofNat vs.length) ((vs.set (2 * i) (.int (StrChars.lo8 ch))).set (2 * i + 1) (.int (StrChars.hi8 ch))) (.int 0)
set_option maxRecDepth 65536 in
set_option maxHeartbeats 40000000 in
theorem rm_put (l : Launch) (Z : State) (a0 : Array Value) (hw : ∀ d ∈ tables_1, d.before a0 Z = true) (ws : List Jvm.Cond) (tb : Addr) (kb : ClassId) (vs : List Value) (i : Nat) (ch : Int32) (fm : Value) (h0 : Heap) (n0 : Nat) (Z0 : n0 ≤ h0.size) (B : Bg Z h0 fm) (hthis : n0 ≤ tb) (M : Arv Z h0 tb kb .byte (Int32.ofNat vs.length) vs (.int 0)) (hi : 2 * i + 1 < vs.length) (hl : vs.length ≤ 10000) :
    MetFree l mN10 (head1 (Jvm.Cond.code mN10 jdk_52_method_4_code 3 none :: ws) rO0) (fun a U => a = #[(.ref tb), (.int (Int32.ofNat i)), (.int ch)] ∧ Z.Warmed39 U.vm ∧ U.heap = h0) (fun _ _ _ _ _ => True) (fun _ U o U' => ∃ v L, o = .returned v ∧ Q_put Z tb kb vs i ch fm h0 n0 v U'.heap L ∧ FrameEnd U o U' L rO0.cells rO0.slots) := by
  refine MetFree.of_bodySF pn_put hisR ?_
  intro p e s m args below meth c s₁ Bd hml0 hP hK
  obtain ⟨rfl, hZ, hh⟩ := hP
  have hx := Bd.exec
  have hby := Bd.bytes
  have dq := @hb _ _ hby
  have hml : c.maxLocals = 3 := hml0
  have hown : s.vm.findClass "java/lang/StringUTF16" = some m.cls := findClass_of_methodNamed Bd.named
  have X0 : Stand p l e rO0 s m #[(.ref tb), (.int (Int32.ofNat i)), (.int ch)] below meth c s₁ [] 0 0 := Stand.of_body Bd
  have e0 : s₁.heap = h0 := by rw [← hh, Bd.state]; rfl
  have N0 := Fr.nil n0
  show Rch p e below s₁ _ _
  refine Rch.cast (ef_put m tb (Int32.ofNat i) ch) ?_
  show Rch p e below s₁ (mkF m 0 #[vR tb, vI (Int32.ofNat i), vI ch] []) _
  obtain ⟨T27, X27, e27, st27⟩ := getS2 X0 hx hZ hown (host := "") (Or.inl (wq hw 246 rfl)) Via.refl e0 B.2.1 (g := (mkF m 0 #[vR tb, vI (Int32.ofNat i), vI ch] [])) rfl (dq (dg dpu 0 rfl))
  refine R0_ st27 ?_
  show Rch p e below T27 (mkF m 3 #[vR tb, vI (Int32.ofNat i), vI ch] [(.int (1 : Int32))]) _
  refine R1 (XS.ifYes X27.here hx rfl (pc0 := 3) (pc' := 28) rfl (dq (dg dpu 1 rfl)) rfl (by decide : ifCond.holds .ne (1 : Int32) = true) (by decide) (by decide)) ?_
  refine R1 (XS.iloadN X27.here hx rfl (dq (dg dpu 2 rfl)) rfl) ?_
  refine R1 (XS.iconst X27.here hx rfl (dq (dg dpu 3 rfl)) ) ?_
  refine R1 (XT.ishl X27.here hx rfl (dq (dg dpu 4 rfl)) rfl) ?_
  show Rch p e below T27 (mkF m 31 #[vR tb, vI (Int32.ofNat i), vI ch] [(.int ((Int32.ofNat i) <<< ((1 : Int32) &&& 31)))]) _
  rw [shl1n (show 2 * i < 2 ^ 31 by omega)]
  show Rch p e below T27 (mkF m 31 #[vR tb, vI (Int32.ofNat i), vI ch] [(.int (Int32.ofNat (2 * i)))]) _
  refine R1 (XS.istoreN X27.here hx rfl (dq (dg dpu 5 rfl)) rfl (l' := #[vR tb, vI (Int32.ofNat (2 * i)), vI ch]) rfl) ?_
  refine R1 (XS.aloadN X27.here hx rfl (dq (dg dpu 6 rfl)) rfl rfl) ?_
  refine R1 (XS.iloadN X27.here hx rfl (dq (dg dpu 7 rfl)) rfl) ?_
  refine R1 (XS.iinc X27.here hx rfl (dq (dg dpu 8 rfl)) rfl (l' := #[vR tb, vI ((Int32.ofNat (2 * i)) + (1 : Int32)), vI ch]) rfl) ?_
  show Rch p e below T27 (mkF m 37 #[vR tb, vI ((Int32.ofNat (2 * i)) + (1 : Int32)), vI ch] [(.int (Int32.ofNat (2 * i))), (.ref tb)]) _
  rw [add1n]
  show Rch p e below T27 (mkF m 37 #[vR tb, vI (Int32.ofNat (2 * i + 1)), vI ch] [(.int (Int32.ofNat (2 * i))), (.ref tb)]) _
  refine R1 (XS.iloadN X27.here hx rfl (dq (dg dpu 9 rfl)) rfl) ?_
  show Rch p e below T27 (mkF m 38 #[vR tb, vI (Int32.ofNat (2 * i + 1)), vI ch] [(.int ch), (.int (Int32.ofNat (2 * i))), (.ref tb)]) _
  obtain ⟨T28, X28, e28, st28⟩ := getS2 X27 hx hZ hown (host := "") (Or.inl (wq hw 247 rfl)) Via.refl e27 B.2.2.1 (g := (mkF m 38 #[vR tb, vI (Int32.ofNat (2 * i + 1)), vI ch] [(.int ch), (.int (Int32.ofNat (2 * i))), (.ref tb)])) rfl (dq (dg dpu 10 rfl))
  refine R0_ st28 ?_
  show Rch p e below T28 (mkF m 41 #[vR tb, vI (Int32.ofNat (2 * i + 1)), vI ch] [(.int (0 : Int32)), (.int ch), (.int (Int32.ofNat (2 * i))), (.ref tb)]) _
  refine R1 (XT.ishr X28.here hx rfl (dq (dg dpu 11 rfl)) rfl) ?_
  show Rch p e below T28 (mkF m 42 #[vR tb, vI (Int32.ofNat (2 * i + 1)), vI ch] [(.int (ch >>> ((0 : Int32) &&& 31))), (.int (Int32.ofNat (2 * i))), (.ref tb)]) _
  rw [StrChars.shr0]
  show Rch p e below T28 (mkF m 42 #[vR tb, vI (Int32.ofNat (2 * i + 1)), vI ch] [(.int ch), (.int (Int32.ofNat (2 * i))), (.ref tb)]) _
  refine R1 (XT.i2b X28.here hx rfl (dq (dg dpu 12 rfl)) rfl) ?_
  show Rch p e below T28 (mkF m 43 #[vR tb, vI (Int32.ofNat (2 * i + 1)), vI ch] [(.int (ch.toInt8.toInt32)), (.int (Int32.ofNat (2 * i))), (.ref tb)]) _
  obtain ⟨T29, h29, L29, sl29, X29, e29, W29, V29, N29, st29⟩ := stBv X28 hx hZ e28 M N0 hthis (j := (Int32.ofNat (2 * i))) ⟨ofN_neg (by omega), ofN_lt (by omega) (by omega)⟩ (2 * i) (ofN_clamp (by omega)) (by omega) (g := (mkF m 43 #[vR tb, vI (Int32.ofNat (2 * i + 1)), vI ch] [(.int (ch.toInt8.toInt32)), (.int (Int32.ofNat (2 * i))), (.ref tb)])) rfl rfl (dq (dg dpu 13 rfl))
  rw [nar_byte] at V29 W29
  have B29 := B.wr W29
  refine R0_ st29 ?_
  show Rch p e below T29 (mkF m 44 #[vR tb, vI (Int32.ofNat (2 * i + 1)), vI ch] []) _
  refine R1 (XS.aloadN X29.here hx rfl (dq (dg dpu 14 rfl)) rfl rfl) ?_
  refine R1 (XS.iloadN X29.here hx rfl (dq (dg dpu 15 rfl)) rfl) ?_
  refine R1 (XS.iloadN X29.here hx rfl (dq (dg dpu 16 rfl)) rfl) ?_
  show Rch p e below T29 (mkF m 47 #[vR tb, vI (Int32.ofNat (2 * i + 1)), vI ch] [(.int ch), (.int (Int32.ofNat (2 * i + 1))), (.ref tb)]) _
  obtain ⟨T30, X30, e30, st30⟩ := getS2 X29 hx hZ hown (host := "") (Or.inl (wq hw 248 rfl)) Via.refl e29 B29.2.2.2.1 (g := (mkF m 47 #[vR tb, vI (Int32.ofNat (2 * i + 1)), vI ch] [(.int ch), (.int (Int32.ofNat (2 * i + 1))), (.ref tb)])) rfl (dq (dg dpu 17 rfl))
  refine R0_ st30 ?_
  show Rch p e below T30 (mkF m 50 #[vR tb, vI (Int32.ofNat (2 * i + 1)), vI ch] [(.int (8 : Int32)), (.int ch), (.int (Int32.ofNat (2 * i + 1))), (.ref tb)]) _
  refine R1 (XT.ishr X30.here hx rfl (dq (dg dpu 18 rfl)) rfl) ?_
  refine R1 (XT.i2b X30.here hx rfl (dq (dg dpu 19 rfl)) rfl) ?_
  show Rch p e below T30 (mkF m 52 #[vR tb, vI (Int32.ofNat (2 * i + 1)), vI ch] [(.int ((ch >>> ((8 : Int32) &&& 31)).toInt8.toInt32)), (.int (Int32.ofNat (2 * i + 1))), (.ref tb)]) _
  obtain ⟨T31, h31, L31, sl31, X31, e31, W31, V31, N31, st31⟩ := stBv X30 hx hZ e30 V29 N29 hthis (j := (Int32.ofNat (2 * i + 1))) ⟨ofN_neg (by omega), ofN_lt (by omega) (by omega)⟩ (2 * i + 1) (ofN_clamp (by omega)) (by simpa using hi) (g := (mkF m 52 #[vR tb, vI (Int32.ofNat (2 * i + 1)), vI ch] [(.int ((ch >>> ((8 : Int32) &&& 31)).toInt8.toInt32)), (.int (Int32.ofNat (2 * i + 1))), (.ref tb)])) rfl rfl (dq (dg dpu 20 rfl))
  rw [nar_byte] at V31 W31
  refine R0_ st31 ?_
  show Rch p e below T31 (mkF m 53 #[vR tb, vI (Int32.ofNat (2 * i + 1)), vI ch] []) _
  have K9 : Keep h0 h31 [tb] := ((Keep.refl _ _).wr W29 (Or.inl (List.mem_singleton.mpr rfl))).wr W31 (Or.inl (List.mem_singleton.mpr rfl))
  exact Rch.fin (Q := Q_put Z tb kb vs i ch fm h0 n0) X31 (v := none) (fun _ => rfl) (BodyLoose.notSynchronized Bd) (fun fs hr => X31.returnOut hx Bd.returns (dq (dg dpu 21 rfl)) hr) (by rw [e31]; exact ⟨rfl, N31, K9, V31⟩) (by decide) (by decide)
theorem dnl : dxs jdk_52_method_3_code [(0, .iload_n 0, 1), (1, .ifCond .ge 11, 3), (12, .iload_n 0, 1), (13, .ldc 20, 2), (15, .if_icmp .lt 40, 3), (55, .iload_n 0, 1), (56, .iconst 1, 1), (57, .ishl, 1), (58, .ireturn, 1)] = true := by decide +kernel
theorem pn_nbl : plainFor (⟨"java/lang/StringUTF16", "newBytesLength", "(I)I"⟩ : MethodName) = true := plainFor_of_name (by first | (simp [plainName, overriddenIn]; done) | decide +kernel)
theorem ef_nbl (m : MethodId) (x0 : Int32) : entryFrame m #[(.int x0)] 1 = mkF m 0 #[vI x0] [] := by first | (simp [entryFrame, mkF, argsToLocals, Value.category]; done) | rfl
def Q_nbl (Z : State) (z : Int32) (h0 : Heap) (n0 : Nat) (v : Option Value) (h : Heap) (L : List Loc) : Prop := v = some (.int (z <<< ((1 : Int32) &&& 31))) ∧ Fr n0 L ∧ h = h0
set_option maxRecDepth 65536 in
set_option maxHeartbeats 40000000 in
theorem rm_nbl (l : Launch) (Z : State) (a0 : Array Value) (hw : ∀ d ∈ tables_1, d.before a0 Z = true) (ws : List Jvm.Cond) (z : Int32) (h0 : Heap) (n0 : Nat) (Z0 : n0 ≤ h0.size) (h1 : ¬ z < 0) (h2 : z < (1073741823 : Int32)) :
    MetFree l mN11 (head1 (Jvm.Cond.code mN11 jdk_52_method_3_code 1 (some .int) :: ws) rO0) (fun a U => a = #[(.int z)] ∧ Z.Warmed39 U.vm ∧ U.heap = h0) (fun _ _ _ _ _ => True) (fun _ U o U' => ∃ v L, o = .returned v ∧ Q_nbl Z z h0 n0 v U'.heap L ∧ FrameEnd U o U' L rO0.cells rO0.slots) := by
  refine MetFree.of_bodySF pn_nbl hisR ?_
  intro p e s m args below meth c s₁ Bd hml0 hP hK
  obtain ⟨rfl, hZ, hh⟩ := hP
  have hx := Bd.exec
  have hby := Bd.bytes
  have dq := @hb _ _ hby
  have hml : c.maxLocals = 1 := hml0
  have hown : s.vm.findClass "java/lang/StringUTF16" = some m.cls := findClass_of_methodNamed Bd.named
  have X0 : Stand p l e rO0 s m #[(.int z)] below meth c s₁ [] 0 0 := Stand.of_body Bd
  have e0 : s₁.heap = h0 := by rw [← hh, Bd.state]; rfl
  have N0 := Fr.nil n0
  show Rch p e below s₁ _ _
  refine Rch.cast (ef_nbl m z) ?_
  show Rch p e below s₁ (mkF m 0 #[vI z] []) _
  refine R1 (XS.iloadN X0.here hx rfl (dq (dg dnl 0 rfl)) rfl) ?_
  refine R1 (XS.ifYes X0.here hx rfl (pc0 := 1) (pc' := 12) rfl (dq (dg dnl 1 rfl)) rfl ((if0 _ _).trans (flt h1).2.1) (by decide) (by decide)) ?_
  refine R1 (XS.iloadN X0.here hx rfl (dq (dg dnl 2 rfl)) rfl) ?_
  show Rch p e below s₁ (mkF m 13 #[vI z] [(.int z)]) _
  refine R0_ (X0.ldcInt hx hown (mw hZ hw 242 rfl) (g := (mkF m 13 #[vI z] [(.int z)])) rfl (dq (dg dnl 3 rfl))) ?_
  show Rch p e below s₁ (mkF m 15 #[vI z] [(.int (1073741823 : Int32)), (.int z)]) _
  refine R1 (XS.icmpYes X0.here hx rfl (pc0 := 15) (pc' := 55) rfl (dq (dg dnl 4 rfl)) rfl (tlt h2).1 (by decide) (by decide)) ?_
  refine R1 (XS.iloadN X0.here hx rfl (dq (dg dnl 5 rfl)) rfl) ?_
  refine R1 (XS.iconst X0.here hx rfl (dq (dg dnl 6 rfl)) ) ?_
  refine R1 (XT.ishl X0.here hx rfl (dq (dg dnl 7 rfl)) rfl) ?_
  show Rch p e below s₁ (mkF m 58 #[vI z] [(.int (z <<< ((1 : Int32) &&& 31)))]) _
  exact Rch.fin (Q := Q_nbl Z z h0 n0) X0 (v := some (.int (z <<< ((1 : Int32) &&& 31)))) (fun h => by rw [Bd.returns] at h; cases h) (BodyLoose.notSynchronized Bd) (fun fs hr => retI X0 hx Bd.returns (dq (dg dnl 8 rfl)) hr) (by rw [e0]; exact ⟨rfl, N0, rfl⟩) (by decide) (by decide)
theorem dnf : dxs jdk_52_method_2_code [(0, .iload_n 0, 1), (1, .invokestatic 11, 3), (4, .newarray .byte, 2), (6, .areturn, 1)] = true := by decide +kernel
theorem dto : dxs jdk_52_method_14_code [(0, .iload_n 2, 1), (1, .invokestatic 107, 3), (4, .astore_n 3, 1), (5, .iconst 0, 1), (6, .istore 4, 2), (8, .iload 4, 2), (10, .iload_n 2, 1), (11, .if_icmp .ge 21, 3), (14, .aload_n 3, 1), (15, .iload 4, 2), (17, .aload_n 0, 1), (18, .iload_n 1, 1), (19, .caload, 1), (20, .invokestatic 111, 3), (23, .iinc 1 1, 3), (26, .iinc 4 1, 3), (29, .goto (-21), 3), (32, .aload_n 3, 1), (33, .areturn, 1)] = true := by decide +kernel
theorem dc5 : dxs jdk_52_method_21_code [(0, .iconst 0, 1), (1, .istore 5, 2), (3, .iload 5, 2), (5, .iload 4, 2), (7, .if_icmp .ge 37, 3), (10, .aload_n 0, 1), (11, .iload_n 1, 1), (12, .caload, 1), (13, .istore 6, 2), (15, .iload 6, 2), (17, .sipush 255, 3), (20, .if_icmp .le 6, 3), (23, .iload 5, 2), (25, .ireturn, 1), (26, .aload_n 2, 1), (27, .iload_n 3, 1), (28, .iload 6, 2), (30, .i2b, 1), (31, .bastore, 1), (32, .iinc 1 1, 3), (35, .iinc 3 1, 3), (38, .iinc 5 1, 3), (41, .goto (-38), 3)] = true := by decide +kernel
theorem dc3 : dxs jdk_52_method_16_code [(0, .iload_n 2, 1), (1, .newarray .byte, 2), (3, .astore_n 3, 1), (4, .aload_n 0, 1), (5, .iload_n 1, 1), (6, .aload_n 3, 1), (7, .iconst 0, 1), (8, .iload_n 2, 1), (9, .invokestatic 115, 3), (12, .istore 4, 2), (14, .iload 4, 2), (16, .iload_n 2, 1), (17, .if_icmp .eq 40, 3), (20, .aload_n 0, 1), (21, .iload_n 1, 1), (22, .iload_n 2, 1), (23, .invokestatic 119, 3), (26, .astore 5, 2), (28, .aload 5, 2), (30, .iload 4, 2), (32, .invokestatic 71, 3), (35, .sipush 255, 3), (38, .if_icmp .gt 16, 3), (54, .aload 5, 2), (56, .areturn, 1)] = true := by decide +kernel
theorem pn_nbf1 : plainFor (⟨"java/lang/StringUTF16", "newBytesFor", "(I)[B"⟩ : MethodName) = true := plainFor_of_name (by first | (simp [plainName, overriddenIn]; done) | decide +kernel)
def Q_nbf1 (Z : State)  (h0 : Heap) (n0 : Nat) (v : Option Value) (h : Heap) (L : List Loc) : Prop := ∃ b k, v = some (.ref b) ∧ Fr n0 L ∧ Ext h0 h ∧ h0.size ≤ b ∧ Arv Z h b k .byte (2 : Int32) [(.int (0 : Int32)), (.int (0 : Int32))] (.int 0)
set_option maxRecDepth 65536 in
set_option maxHeartbeats 40000000 in
theorem rm_nbf1 (l : Launch) (Z : State) (a0 : Array Value) (hw : ∀ d ∈ tables_1, d.before a0 Z = true) (ws : List Jvm.Cond) (h0 : Heap) (n0 : Nat) (Z0 : n0 ≤ h0.size) :
    MetFree l mN12 (head1 (Jvm.Cond.code mN12 jdk_52_method_2_code 1 (some (.array .byte)) :: ws) rO7) (fun a U => a = #[(.int (1 : Int32))] ∧ Z.Warmed39 U.vm ∧ U.heap = h0) (fun _ _ _ _ _ => True) (fun _ U o U' => ∃ v L, o = .returned v ∧ Q_nbf1 Z  h0 n0 v U'.heap L ∧ FrameEnd U o U' L rO7.cells rO7.slots) := by
  refine MetFree.of_bodySF pn_nbf1 hisR ?_
  intro p e s m args below meth c s₁ Bd hml0 hP hK
  obtain ⟨rfl, hZ, hh⟩ := hP
  have hx := Bd.exec
  have hby := Bd.bytes
  have dq := @hb _ _ hby
  have hml : c.maxLocals = 1 := hml0
  have hown : s.vm.findClass "java/lang/StringUTF16" = some m.cls := findClass_of_methodNamed Bd.named
  have X0 : Stand p l e rO7 s m #[(.int (1 : Int32))] below meth c s₁ [] 0 0 := Stand.of_body Bd
  have e0 : s₁.heap = h0 := by rw [← hh, Bd.state]; rfl
  have N0 := Fr.nil n0
  show Rch p e below s₁ _ _
  refine Rch.cast (ef_nbl m (1 : Int32)) ?_
  show Rch p e below s₁ (mkF m 0 #[vI (1 : Int32)] []) _
  refine R1 (XS.iloadN X0.here hx rfl (dq (dg dnf 0 rfl)) rfl) ?_
  show Rch p e below s₁ (mkF m 1 #[vI (1 : Int32)] [(.int (1 : Int32))]) _
  obtain ⟨_, _, ⟨T32, L32, k32, n32⟩, -, X32, ⟨Lc32, hQ32, l32, y32, z32⟩, st32⟩ := Jvm.LawKit.callS X0 hx (y := mN11) hown (mw hZ hw 239 rfl) (mw hZ hw 240 rfl) (mw hZ hw 152 rfl) (mw hZ hw 241 rfl) (by decide) (backOf (W := 0) (rm_nbl l Z a0 hw [] (1 : Int32) h0 n0 Z0 (by decide) (by decide)) hZ (wq hw 241 rfl) (wq hw 152 rfl) (by decide) (by decide)) (g := (mkF m 1 #[vI (1 : Int32)] [(.int (1 : Int32))])) rfl (by rw [hml]; rfl) (argsL := [(.int (1 : Int32))]) (rest := []) (lenOf pd_7 rfl) rfl (w0 rfl) (dq (dg dnf 1 rfl)) (fun _ _ => ⟨rfl, e0, (by decide : 0 + 0 ≤ _), (by decide : 0 + 0 ≤ _)⟩)
  dsimp only [Pt.U, Pt.locs, Pt.cells, Pt.slots] at X32 l32 y32 z32 st32 hQ32
  subst l32 y32 z32
  obtain ⟨rfl, Nq32, e32⟩ := hQ32
  have N32 := Fr.app N0 Nq32
  refine R0_ st32 ?_
  show Rch p e below T32 (mkF m 4 #[vI (1 : Int32)] [(.int (2 : Int32))]) _
  obtain ⟨T33, h33, k33, X33, e33, E33, A33, st33⟩ := newP X32 hx hZ (wq hw 20 rfl) e32 (g := (mkF m 4 #[vI (1 : Int32)] [(.int (2 : Int32))])) rfl (dq (dg dnf 2 rfl)) rfl (by decide : ¬ ((2 : Int32) < (0 : Int32))) (cap := 2) (by decide : ((2 : Int32)).toNatClampNeg ≤ 2) (by decide) (by decide) (by decide)
  obtain ⟨a33, g33⟩ : ∃ z, z = h0.size := ⟨_, rfl⟩
  rw [← g33] at A33 st33
  have Ex34 : Ext h0 h33 := E33
  have le35 : h0.size ≤ a33 := Nat.le_of_eq g33.symm
  refine R0_ st33 ?_
  show Rch p e below T33 (mkF m 6 #[vI (1 : Int32)] [(.ref a33)]) _
  have V33 : Arv Z h33 a33 k33 .byte (2 : Int32) [(.int (0 : Int32)), (.int (0 : Int32))] (.int (0 : Int32)) := (Arv.new A33 (by decide : ¬ ((2 : Int32) < (0 : Int32)))).pad (pad_rep [] (.int (0 : Int32)) 2)
  exact Rch.fin (Q := Q_nbf1 Z  h0 n0) X33 (v := some (.ref a33)) (fun h => by rw [Bd.returns] at h; cases h) (BodyLoose.notSynchronized Bd) (fun fs hr => retR X33 hx Bd.returns rfl rfl (dq (dg dnf 3 rfl)) hr) (by rw [e33]; exact ⟨a33, k33, rfl, N32, Ex34, le35, V33⟩) (by decide) (by decide)
theorem pn_toby1 : plainFor (⟨"java/lang/StringUTF16", "toBytes", "([CII)[B"⟩ : MethodName) = true := plainFor_of_name (by first | (simp [plainName, overriddenIn]; done) | decide +kernel)
theorem ef_toby1 (m : MethodId) (x0 : Addr) (x1 : Int32) (x2 : Int32) : entryFrame m #[(.ref x0), (.int x1), (.int x2)] 5 = mkF m 0 #[vR x0, vI x1, vI x2, .unset, .unset] [] := by first | (simp [entryFrame, mkF, argsToLocals, Value.category]; done) | rfl
def Q_toby1 (Z : State) (ta : Addr) (ka : ClassId) (c0 : Int32) (fm : Value) (h0 : Heap) (n0 : Nat) (v : Option Value) (h : Heap) (L : List Loc) : Prop := ∃ b k, v = some (.ref b) ∧ Fr n0 L ∧ Ext h0 h ∧ h0.size ≤ b ∧ Arv Z h b k .byte (2 : Int32) (StrChars.Road.wideBytes [c0]) (.int 0)
set_option maxRecDepth 65536 in
set_option maxHeartbeats 40000000 in
theorem rm_toby1 (l : Launch) (Z : State) (a0 : Array Value) (hw : ∀ d ∈ tables_1, d.before a0 Z = true) (ws : List Jvm.Cond) (ta : Addr) (ka : ClassId) (c0 : Int32) (fm : Value) (h0 : Heap) (n0 : Nat) (Z0 : n0 ≤ h0.size) (B : Bg Z h0 fm) (M : Arv Z h0 ta ka .char (1 : Int32) [(.int c0)] (.int 0)) :
    MetFree l mN13 (head1 (Jvm.Cond.code mN13 jdk_52_method_14_code 5 (some (.array .byte)) :: ws) rO8) (fun a U => a = #[(.ref ta), (.int (0 : Int32)), (.int (1 : Int32))] ∧ Z.Warmed39 U.vm ∧ U.heap = h0) (fun _ _ _ _ _ => True) (fun _ U o U' => ∃ v L, o = .returned v ∧ Q_toby1 Z ta ka c0 fm h0 n0 v U'.heap L ∧ FrameEnd U o U' L rO8.cells rO8.slots) := by
  refine MetFree.of_bodySF pn_toby1 hisR ?_
  intro p e s m args below meth c s₁ Bd hml0 hP hK
  obtain ⟨rfl, hZ, hh⟩ := hP
  have hx := Bd.exec
  have hby := Bd.bytes
  have dq := @hb _ _ hby
  have hml : c.maxLocals = 5 := hml0
  have hown : s.vm.findClass "java/lang/StringUTF16" = some m.cls := findClass_of_methodNamed Bd.named
  have X0 : Stand p l e rO8 s m #[(.ref ta), (.int (0 : Int32)), (.int (1 : Int32))] below meth c s₁ [] 0 0 := Stand.of_body Bd
  have e0 : s₁.heap = h0 := by rw [← hh, Bd.state]; rfl
  have N0 := Fr.nil n0
  show Rch p e below s₁ _ _
  refine Rch.cast (ef_toby1 m ta (0 : Int32) (1 : Int32)) ?_
  show Rch p e below s₁ (mkF m 0 #[vR ta, vI (0 : Int32), vI (1 : Int32), .unset, .unset] []) _
  refine R1 (XS.iloadN X0.here hx rfl (dq (dg dto 0 rfl)) rfl) ?_
  show Rch p e below s₁ (mkF m 1 #[vR ta, vI (0 : Int32), vI (1 : Int32), .unset, .unset] [(.int (1 : Int32))]) _
  obtain ⟨_, _, ⟨T36, L36, k36, n36⟩, -, X36, ⟨Lc36, hQ36, l36, y36, z36⟩, st36⟩ := Jvm.LawKit.callS X0 hx (y := mN12) hown (mw hZ hw 236 rfl) (mw hZ hw 237 rfl) (mw hZ hw 152 rfl) (mw hZ hw 238 rfl) (by decide) (backOf (W := 0) (rm_nbf1 l Z a0 hw [] h0 n0 Z0) hZ (wq hw 238 rfl) (wq hw 152 rfl) (by decide) (by decide)) (g := (mkF m 1 #[vR ta, vI (0 : Int32), vI (1 : Int32), .unset, .unset] [(.int (1 : Int32))])) rfl (by rw [hml]; rfl) (argsL := [(.int (1 : Int32))]) (rest := []) (lenOf pd_8 rfl) rfl (w0 rfl) (dq (dg dto 1 rfl)) (fun _ _ => ⟨rfl, e0, (by decide : 0 + 1 ≤ _), (by decide : 0 + 2 ≤ _)⟩)
  dsimp only [Pt.U, Pt.locs, Pt.cells, Pt.slots] at X36 l36 y36 z36 st36 hQ36
  subst l36 y36 z36
  obtain ⟨b36, kb36, rfl, Nq36, E36, le36_, V36⟩ := hQ36
  have N36 := Fr.app N0 Nq36
  have Ex37 : Ext h0 T36.heap := E36
  refine R0_ st36 ?_
  show Rch p e below T36 (mkF m 4 #[vR ta, vI (0 : Int32), vI (1 : Int32), .unset, .unset] [(.ref b36)]) _
  have leb : n0 ≤ b36 := Nat.le_trans Z0 le36_
  refine R1 (XS.astoreN X36.here hx rfl (dq (dg dto 2 rfl)) rfl rfl (l' := #[vR ta, vI (0 : Int32), vI (1 : Int32), vR b36, .unset]) rfl) ?_
  refine R1 (XS.iconst X36.here hx rfl (dq (dg dto 3 rfl)) ) ?_
  refine R1 (XS.istore X36.here hx rfl (dq (dg dto 4 rfl)) rfl (l' := #[vR ta, vI (0 : Int32), vI (1 : Int32), vR b36, vI (0 : Int32)]) rfl) ?_
  refine R1 (XS.iload X36.here hx rfl (dq (dg dto 5 rfl)) rfl) ?_
  refine R1 (XS.iloadN X36.here hx rfl (dq (dg dto 6 rfl)) rfl) ?_
  refine R1 (XS.icmpNo X36.here hx rfl (dq (dg dto 7 rfl)) rfl (by decide : if_icmp.holds .ge (0 : Int32) (1 : Int32) = false)) ?_
  refine R1 (XS.aloadN X36.here hx rfl (dq (dg dto 8 rfl)) rfl rfl) ?_
  refine R1 (XS.iload X36.here hx rfl (dq (dg dto 9 rfl)) rfl) ?_
  refine R1 (XS.aloadN X36.here hx rfl (dq (dg dto 10 rfl)) rfl rfl) ?_
  refine R1 (XS.iloadN X36.here hx rfl (dq (dg dto 11 rfl)) rfl) ?_
  show Rch p e below T36 (mkF m 19 #[vR ta, vI (0 : Int32), vI (1 : Int32), vR b36, vI (0 : Int32)] [(.int (0 : Int32)), (.ref ta), (.int (0 : Int32)), (.ref b36)]) _
  refine R0_ (calA X36 hx hZ rfl (M.ext Ex37) ⟨by decide, by decide⟩ (v := (.int c0)) rfl (g := (mkF m 19 #[vR ta, vI (0 : Int32), vI (1 : Int32), vR b36, vI (0 : Int32)] [(.int (0 : Int32)), (.ref ta), (.int (0 : Int32)), (.ref b36)])) rfl rfl (dq (dg dto 12 rfl))) ?_
  show Rch p e below T36 (mkF m 20 #[vR ta, vI (0 : Int32), vI (1 : Int32), vR b36, vI (0 : Int32)] [(.int c0), (.int (0 : Int32)), (.ref b36)]) _
  obtain ⟨_, _, ⟨T38, L38, k38, n38⟩, -, X38, ⟨Lc38, hQ38, l38, y38, z38⟩, st38⟩ := Jvm.LawKit.callS X36 hx (y := mN10) hown (mw hZ hw 243 rfl) (mw hZ hw 244 rfl) (mw hZ hw 152 rfl) (mw hZ hw 245 rfl) (by decide) (backOf (W := 0) (rm_put l Z a0 hw [] b36 kb36 [(.int (0 : Int32)), (.int (0 : Int32))] 0 c0 fm T36.heap n0 (Nat.le_trans Z0 Ex37.1) (B.ext Ex37) leb V36 (by first | decide | exact Nat.le_of_ble_eq_true rfl) (by first | decide | exact Nat.le_of_ble_eq_true rfl | rfl)) hZ (wq hw 245 rfl) (wq hw 152 rfl) (by decide) (by decide)) (g := (mkF m 20 #[vR ta, vI (0 : Int32), vI (1 : Int32), vR b36, vI (0 : Int32)] [(.int c0), (.int (0 : Int32)), (.ref b36)])) rfl (by rw [hml]; rfl) (argsL := [(.ref b36), (.int (0 : Int32)), (.int c0)]) (rest := []) (lenOf pd_9 rfl) rfl (w0 rfl) (dq (dg dto 13 rfl)) (fun _ _ => ⟨rfl, rfl, (by decide : 1 + 0 ≤ _), (by decide : 2 + 0 ≤ _)⟩)
  dsimp only [Pt.U, Pt.locs, Pt.cells, Pt.slots] at X38 l38 y38 z38 st38 hQ38
  subst l38 y38 z38
  obtain ⟨rfl, Nq38, K38, V38⟩ := hQ38
  have N38 := Fr.app N36 Nq38
  have Ex39 : Ext h0 T38.heap := extKeep1 Ex37 K38 le36_
  refine R0_ st38 ?_
  show Rch p e below T38 (mkF m 23 #[vR ta, vI (0 : Int32), vI (1 : Int32), vR b36, vI (0 : Int32)] []) _
  refine R1 (XS.iinc X38.here hx rfl (dq (dg dto 14 rfl)) rfl (l' := #[vR ta, vI (1 : Int32), vI (1 : Int32), vR b36, vI (0 : Int32)]) rfl) ?_
  refine R1 (XS.iinc X38.here hx rfl (dq (dg dto 15 rfl)) rfl (l' := #[vR ta, vI (1 : Int32), vI (1 : Int32), vR b36, vI (1 : Int32)]) rfl) ?_
  refine R1 (XS.goto X38.here hx rfl (pc0 := 29) (pc' := 8) rfl (dq (dg dto 16 rfl)) (by decide) (by decide)) ?_
  refine R1 (XS.iload X38.here hx rfl (dq (dg dto 5 rfl)) rfl) ?_
  refine R1 (XS.iloadN X38.here hx rfl (dq (dg dto 6 rfl)) rfl) ?_
  refine R1 (XS.icmpYes X38.here hx rfl (pc0 := 11) (pc' := 32) rfl (dq (dg dto 7 rfl)) rfl (by decide : if_icmp.holds .ge (1 : Int32) (1 : Int32) = true) (by decide) (by decide)) ?_
  refine R1 (XS.aloadN X38.here hx rfl (dq (dg dto 17 rfl)) rfl rfl) ?_
  show Rch p e below T38 (mkF m 33 #[vR ta, vI (1 : Int32), vI (1 : Int32), vR b36, vI (1 : Int32)] [(.ref b36)]) _
  exact Rch.fin (Q := Q_toby1 Z ta ka c0 fm h0 n0) X38 (v := some (.ref b36)) (fun h => by rw [Bd.returns] at h; cases h) (BodyLoose.notSynchronized Bd) (fun fs hr => retR X38 hx Bd.returns rfl rfl (dq (dg dto 18 rfl)) hr) ⟨b36, kb36, rfl, N38, Ex39, le36_, V38⟩ (by decide) (by decide)
theorem pn_cmp1 : plainFor (⟨"java/lang/StringUTF16", "compress", "([CI[BII)I"⟩ : MethodName) = true := plainFor_of_name (by first | (simp [plainName, overriddenIn]; done) | decide +kernel)
theorem ef_cmp1 (m : MethodId) (x0 : Addr) (x1 : Int32) (x2 : Addr) (x3 : Int32) (x4 : Int32) : entryFrame m #[(.ref x0), (.int x1), (.ref x2), (.int x3), (.int x4)] 7 = mkF m 0 #[vR x0, vI x1, vR x2, vI x3, vI x4, .unset, .unset] [] := by first | (simp [entryFrame, mkF, argsToLocals, Value.category]; done) | rfl
def Q_cmp1 (Z : State) (ta tb : Addr) (ka kb : ClassId) (c0 : Int32) (h0 : Heap) (n0 : Nat) (v : Option Value) (h : Heap) (L : List Loc) : Prop := ∃ r, v = some (.int r) ∧ Fr n0 L ∧ Keep h0 h [tb] ∧ ((r = (0 : Int32) ∧ (255 : Int32) < c0))
set_option maxRecDepth 65536 in
set_option maxHeartbeats 40000000 in
theorem rm_cmp1 (l : Launch) (Z : State) (a0 : Array Value) (hw : ∀ d ∈ tables_1, d.before a0 Z = true) (ws : List Jvm.Cond) (ta tb : Addr) (ka kb : ClassId) (c0 : Int32) (h0 : Heap) (n0 : Nat) (Z0 : n0 ≤ h0.size) (hthis : n0 ≤ tb) (ne : ta ≠ tb) (M : Arv Z h0 ta ka .char (1 : Int32) [(.int c0)] (.int 0)) (D : Arv Z h0 tb kb .byte (1 : Int32) [(.int (0 : Int32))] (.int 0)) (hbig : (255 : Int32) < c0) :
    MetFree l mN14 (head1 (Jvm.Cond.code mN14 jdk_52_method_21_code 7 (some .int) :: ws) rO0) (fun a U => a = #[(.ref ta), (.int (0 : Int32)), (.ref tb), (.int (0 : Int32)), (.int (1 : Int32))] ∧ Z.Warmed39 U.vm ∧ U.heap = h0) (fun _ _ _ _ _ => True) (fun _ U o U' => ∃ v L, o = .returned v ∧ Q_cmp1 Z ta tb ka kb c0 h0 n0 v U'.heap L ∧ FrameEnd U o U' L rO0.cells rO0.slots) := by
  refine MetFree.of_bodySF pn_cmp1 hisR ?_
  intro p e s m args below meth c s₁ Bd hml0 hP hK
  obtain ⟨rfl, hZ, hh⟩ := hP
  have hx := Bd.exec
  have hby := Bd.bytes
  have dq := @hb _ _ hby
  have hml : c.maxLocals = 7 := hml0
  have X0 : Stand p l e rO0 s m #[(.ref ta), (.int (0 : Int32)), (.ref tb), (.int (0 : Int32)), (.int (1 : Int32))] below meth c s₁ [] 0 0 := Stand.of_body Bd
  have e0 : s₁.heap = h0 := by rw [← hh, Bd.state]; rfl
  have N0 := Fr.nil n0
  show Rch p e below s₁ _ _
  refine Rch.cast (ef_cmp1 m ta (0 : Int32) tb (0 : Int32) (1 : Int32)) ?_
  show Rch p e below s₁ (mkF m 0 #[vR ta, vI (0 : Int32), vR tb, vI (0 : Int32), vI (1 : Int32), .unset, .unset] []) _
  refine R1 (XS.iconst X0.here hx rfl (dq (dg dc5 0 rfl)) ) ?_
  refine R1 (XS.istore X0.here hx rfl (dq (dg dc5 1 rfl)) rfl (l' := #[vR ta, vI (0 : Int32), vR tb, vI (0 : Int32), vI (1 : Int32), vI (0 : Int32), .unset]) rfl) ?_
  refine R1 (XS.iload X0.here hx rfl (dq (dg dc5 2 rfl)) rfl) ?_
  refine R1 (XS.iload X0.here hx rfl (dq (dg dc5 3 rfl)) rfl) ?_
  refine R1 (XS.icmpNo X0.here hx rfl (dq (dg dc5 4 rfl)) rfl (by decide : if_icmp.holds .ge (0 : Int32) (1 : Int32) = false)) ?_
  refine R1 (XS.aloadN X0.here hx rfl (dq (dg dc5 5 rfl)) rfl rfl) ?_
  refine R1 (XS.iloadN X0.here hx rfl (dq (dg dc5 6 rfl)) rfl) ?_
  show Rch p e below s₁ (mkF m 12 #[vR ta, vI (0 : Int32), vR tb, vI (0 : Int32), vI (1 : Int32), vI (0 : Int32), .unset] [(.int (0 : Int32)), (.ref ta)]) _
  refine R0_ (calA X0 hx hZ e0 M ⟨by decide, by decide⟩ (v := (.int c0)) rfl (g := (mkF m 12 #[vR ta, vI (0 : Int32), vR tb, vI (0 : Int32), vI (1 : Int32), vI (0 : Int32), .unset] [(.int (0 : Int32)), (.ref ta)])) rfl rfl (dq (dg dc5 7 rfl))) ?_
  show Rch p e below s₁ (mkF m 13 #[vR ta, vI (0 : Int32), vR tb, vI (0 : Int32), vI (1 : Int32), vI (0 : Int32), .unset] [(.int c0)]) _
  refine R1 (XS.istore X0.here hx rfl (dq (dg dc5 8 rfl)) rfl (l' := #[vR ta, vI (0 : Int32), vR tb, vI (0 : Int32), vI (1 : Int32), vI (0 : Int32), vI c0]) rfl) ?_
  refine R1 (XS.iload X0.here hx rfl (dq (dg dc5 9 rfl)) rfl) ?_
  refine R1 (XS.sipush X0.here hx rfl (dq (dg dc5 10 rfl)) ) ?_
  show Rch p e below s₁ (mkF m 20 #[vR ta, vI (0 : Int32), vR tb, vI (0 : Int32), vI (1 : Int32), vI (0 : Int32), vI c0] [(.int (255 : Int32)), (.int c0)]) _
  by_cases hbd0 : (255 : Int32) < c0
  · skip
    refine R1 (XS.icmpNo X0.here hx rfl (dq (dg dc5 11 rfl)) rfl (tlt hbd0).2.2.2) ?_
    refine R1 (XS.iload X0.here hx rfl (dq (dg dc5 12 rfl)) rfl) ?_
    show Rch p e below s₁ (mkF m 25 #[vR ta, vI (0 : Int32), vR tb, vI (0 : Int32), vI (1 : Int32), vI (0 : Int32), vI c0] [(.int (0 : Int32))]) _
    exact Rch.fin (Q := Q_cmp1 Z ta tb ka kb c0 h0 n0) X0 (v := some (.int (0 : Int32))) (fun h => by rw [Bd.returns] at h; cases h) (BodyLoose.notSynchronized Bd) (fun fs hr => retI X0 hx Bd.returns (dq (dg dc5 13 rfl)) hr) (by rw [e0]; exact ⟨(0 : Int32), rfl, N0, (Keep.refl _ _), ⟨rfl, hbd0⟩⟩) (by decide) (by decide)
  · skip
    refine R1 (XS.icmpYes X0.here hx rfl (pc0 := 20) (pc' := 26) rfl (dq (dg dc5 11 rfl)) rfl (flt hbd0).2.2.2 (by decide) (by decide)) ?_
    refine R1 (XS.aloadN X0.here hx rfl (dq (dg dc5 14 rfl)) rfl rfl) ?_
    refine R1 (XS.iloadN X0.here hx rfl (dq (dg dc5 15 rfl)) rfl) ?_
    refine R1 (XS.iload X0.here hx rfl (dq (dg dc5 16 rfl)) rfl) ?_
    refine R1 (XT.i2b X0.here hx rfl (dq (dg dc5 17 rfl)) rfl) ?_
    show Rch p e below s₁ (mkF m 31 #[vR ta, vI (0 : Int32), vR tb, vI (0 : Int32), vI (1 : Int32), vI (0 : Int32), vI c0] [(.int (c0.toInt8.toInt32)), (.int (0 : Int32)), (.ref tb)]) _
    obtain ⟨T40, h40, L40, sl40, X40, e40, W40, V40, N40, st40⟩ := stBv X0 hx hZ e0 D N0 hthis (j := (0 : Int32)) ⟨by decide, by decide⟩ 0 rfl (Nat.le_of_ble_eq_true rfl) (g := (mkF m 31 #[vR ta, vI (0 : Int32), vR tb, vI (0 : Int32), vI (1 : Int32), vI (0 : Int32), vI c0] [(.int (c0.toInt8.toInt32)), (.int (0 : Int32)), (.ref tb)])) rfl rfl (dq (dg dc5 18 rfl))
    have D40 : Arv Z h40 tb kb .byte (1 : Int32) [(.int (nar .byte c0.toInt8.toInt32))] (.int 0) := V40
    have M40 := (M).other W40 ne
    have K40 : Keep h0 h40 [tb] := (Keep.refl _ _).wr W40 (Or.inl (List.mem_singleton.mpr rfl))
    refine R0_ st40 ?_
    show Rch p e below T40 (mkF m 32 #[vR ta, vI (0 : Int32), vR tb, vI (0 : Int32), vI (1 : Int32), vI (0 : Int32), vI c0] []) _
    refine R1 (XS.iinc X40.here hx rfl (dq (dg dc5 19 rfl)) rfl (l' := #[vR ta, vI (1 : Int32), vR tb, vI (0 : Int32), vI (1 : Int32), vI (0 : Int32), vI c0]) rfl) ?_
    refine R1 (XS.iinc X40.here hx rfl (dq (dg dc5 20 rfl)) rfl (l' := #[vR ta, vI (1 : Int32), vR tb, vI (1 : Int32), vI (1 : Int32), vI (0 : Int32), vI c0]) rfl) ?_
    refine R1 (XS.iinc X40.here hx rfl (dq (dg dc5 21 rfl)) rfl (l' := #[vR ta, vI (1 : Int32), vR tb, vI (1 : Int32), vI (1 : Int32), vI (1 : Int32), vI c0]) rfl) ?_
    refine R1 (XS.goto X40.here hx rfl (pc0 := 41) (pc' := 3) rfl (dq (dg dc5 22 rfl)) (by decide) (by decide)) ?_
    refine R1 (XS.iload X40.here hx rfl (dq (dg dc5 2 rfl)) rfl) ?_
    refine R1 (XS.iload X40.here hx rfl (dq (dg dc5 3 rfl)) rfl) ?_
    show Rch p e below T40 (mkF m 7 #[vR ta, vI (1 : Int32), vR tb, vI (1 : Int32), vI (1 : Int32), vI (1 : Int32), vI c0] [(.int (1 : Int32)), (.int (1 : Int32))]) _
    exfalso
    have q := hbig
    exact hbd0 q
def Q_nbf2 (Z : State)  (h0 : Heap) (n0 : Nat) (v : Option Value) (h : Heap) (L : List Loc) : Prop := ∃ b k, v = some (.ref b) ∧ Fr n0 L ∧ Ext h0 h ∧ h0.size ≤ b ∧ Arv Z h b k .byte (4 : Int32) [(.int (0 : Int32)), (.int (0 : Int32)), (.int (0 : Int32)), (.int (0 : Int32))] (.int 0)
set_option maxRecDepth 65536 in
set_option maxHeartbeats 40000000 in
theorem rm_nbf2 (l : Launch) (Z : State) (a0 : Array Value) (hw : ∀ d ∈ tables_1, d.before a0 Z = true) (ws : List Jvm.Cond) (h0 : Heap) (n0 : Nat) (Z0 : n0 ≤ h0.size) :
    MetFree l mN12 (head1 (Jvm.Cond.code mN12 jdk_52_method_2_code 1 (some (.array .byte)) :: ws) rO9) (fun a U => a = #[(.int (2 : Int32))] ∧ Z.Warmed39 U.vm ∧ U.heap = h0) (fun _ _ _ _ _ => True) (fun _ U o U' => ∃ v L, o = .returned v ∧ Q_nbf2 Z  h0 n0 v U'.heap L ∧ FrameEnd U o U' L rO9.cells rO9.slots) := by
  refine MetFree.of_bodySF pn_nbf1 hisR ?_
  intro p e s m args below meth c s₁ Bd hml0 hP hK
  obtain ⟨rfl, hZ, hh⟩ := hP
  have hx := Bd.exec
  have hby := Bd.bytes
  have dq := @hb _ _ hby
  have hml : c.maxLocals = 1 := hml0
  have hown : s.vm.findClass "java/lang/StringUTF16" = some m.cls := findClass_of_methodNamed Bd.named
  have X0 : Stand p l e rO9 s m #[(.int (2 : Int32))] below meth c s₁ [] 0 0 := Stand.of_body Bd
  have e0 : s₁.heap = h0 := by rw [← hh, Bd.state]; rfl
  have N0 := Fr.nil n0
  show Rch p e below s₁ _ _
  refine Rch.cast (ef_nbl m (2 : Int32)) ?_
  show Rch p e below s₁ (mkF m 0 #[vI (2 : Int32)] []) _
  refine R1 (XS.iloadN X0.here hx rfl (dq (dg dnf 0 rfl)) rfl) ?_
  show Rch p e below s₁ (mkF m 1 #[vI (2 : Int32)] [(.int (2 : Int32))]) _
  obtain ⟨_, _, ⟨T50, L50, k50, n50⟩, -, X50, ⟨Lc50, hQ50, l50, y50, z50⟩, st50⟩ := Jvm.LawKit.callS X0 hx (y := mN11) hown (mw hZ hw 239 rfl) (mw hZ hw 240 rfl) (mw hZ hw 152 rfl) (mw hZ hw 241 rfl) (by decide) (backOf (W := 0) (rm_nbl l Z a0 hw [] (2 : Int32) h0 n0 Z0 (by decide) (by decide)) hZ (wq hw 241 rfl) (wq hw 152 rfl) (by decide) (by decide)) (g := (mkF m 1 #[vI (2 : Int32)] [(.int (2 : Int32))])) rfl (by rw [hml]; rfl) (argsL := [(.int (2 : Int32))]) (rest := []) (lenOf pd_7 rfl) rfl (w0 rfl) (dq (dg dnf 1 rfl)) (fun _ _ => ⟨rfl, e0, (by decide : 0 + 0 ≤ _), (by decide : 0 + 0 ≤ _)⟩)
  dsimp only [Pt.U, Pt.locs, Pt.cells, Pt.slots] at X50 l50 y50 z50 st50 hQ50
  subst l50 y50 z50
  obtain ⟨rfl, Nq50, e50⟩ := hQ50
  have N50 := Fr.app N0 Nq50
  refine R0_ st50 ?_
  show Rch p e below T50 (mkF m 4 #[vI (2 : Int32)] [(.int (4 : Int32))]) _
  obtain ⟨T51, h51, k51, X51, e51, E51, A51, st51⟩ := newP X50 hx hZ (wq hw 20 rfl) e50 (g := (mkF m 4 #[vI (2 : Int32)] [(.int (4 : Int32))])) rfl (dq (dg dnf 2 rfl)) rfl (by decide : ¬ ((4 : Int32) < (0 : Int32))) (cap := 4) (by decide : ((4 : Int32)).toNatClampNeg ≤ 4) (by decide) (by decide) (by decide)
  obtain ⟨a51, g51⟩ : ∃ z, z = h0.size := ⟨_, rfl⟩
  rw [← g51] at A51 st51
  have Ex52 : Ext h0 h51 := E51
  have le53 : h0.size ≤ a51 := Nat.le_of_eq g51.symm
  refine R0_ st51 ?_
  show Rch p e below T51 (mkF m 6 #[vI (2 : Int32)] [(.ref a51)]) _
  have V51 : Arv Z h51 a51 k51 .byte (4 : Int32) [(.int (0 : Int32)), (.int (0 : Int32)), (.int (0 : Int32)), (.int (0 : Int32))] (.int (0 : Int32)) := (Arv.new A51 (by decide : ¬ ((4 : Int32) < (0 : Int32)))).pad (pad_rep [] (.int (0 : Int32)) 4)
  exact Rch.fin (Q := Q_nbf2 Z  h0 n0) X51 (v := some (.ref a51)) (fun h => by rw [Bd.returns] at h; cases h) (BodyLoose.notSynchronized Bd) (fun fs hr => retR X51 hx Bd.returns rfl rfl (dq (dg dnf 3 rfl)) hr) (by rw [e51]; exact ⟨a51, k51, rfl, N50, Ex52, le53, V51⟩) (by decide) (by decide)
def Q_toby2 (Z : State) (ta : Addr) (ka : ClassId) (c0 c1 : Int32) (fm : Value) (h0 : Heap) (n0 : Nat) (v : Option Value) (h : Heap) (L : List Loc) : Prop := ∃ b k, v = some (.ref b) ∧ Fr n0 L ∧ Ext h0 h ∧ h0.size ≤ b ∧ Arv Z h b k .byte (4 : Int32) (StrChars.Road.wideBytes [c0, c1]) (.int 0)
set_option maxRecDepth 65536 in
set_option maxHeartbeats 40000000 in
theorem rm_toby2 (l : Launch) (Z : State) (a0 : Array Value) (hw : ∀ d ∈ tables_1, d.before a0 Z = true) (ws : List Jvm.Cond) (ta : Addr) (ka : ClassId) (c0 c1 : Int32) (fm : Value) (h0 : Heap) (n0 : Nat) (Z0 : n0 ≤ h0.size) (B : Bg Z h0 fm) (M : Arv Z h0 ta ka .char (2 : Int32) [(.int c0), (.int c1)] (.int 0)) :
    MetFree l mN13 (head1 (Jvm.Cond.code mN13 jdk_52_method_14_code 5 (some (.array .byte)) :: ws) rO10) (fun a U => a = #[(.ref ta), (.int (0 : Int32)), (.int (2 : Int32))] ∧ Z.Warmed39 U.vm ∧ U.heap = h0) (fun _ _ _ _ _ => True) (fun _ U o U' => ∃ v L, o = .returned v ∧ Q_toby2 Z ta ka c0 c1 fm h0 n0 v U'.heap L ∧ FrameEnd U o U' L rO10.cells rO10.slots) := by
  refine MetFree.of_bodySF pn_toby1 hisR ?_
  intro p e s m args below meth c s₁ Bd hml0 hP hK
  obtain ⟨rfl, hZ, hh⟩ := hP
  have hx := Bd.exec
  have hby := Bd.bytes
  have dq := @hb _ _ hby
  have hml : c.maxLocals = 5 := hml0
  have hown : s.vm.findClass "java/lang/StringUTF16" = some m.cls := findClass_of_methodNamed Bd.named
  have X0 : Stand p l e rO10 s m #[(.ref ta), (.int (0 : Int32)), (.int (2 : Int32))] below meth c s₁ [] 0 0 := Stand.of_body Bd
  have e0 : s₁.heap = h0 := by rw [← hh, Bd.state]; rfl
  have N0 := Fr.nil n0
  show Rch p e below s₁ _ _
  refine Rch.cast (ef_toby1 m ta (0 : Int32) (2 : Int32)) ?_
  show Rch p e below s₁ (mkF m 0 #[vR ta, vI (0 : Int32), vI (2 : Int32), .unset, .unset] []) _
  refine R1 (XS.iloadN X0.here hx rfl (dq (dg dto 0 rfl)) rfl) ?_
  show Rch p e below s₁ (mkF m 1 #[vR ta, vI (0 : Int32), vI (2 : Int32), .unset, .unset] [(.int (2 : Int32))]) _
  obtain ⟨_, _, ⟨T54, L54, k54, n54⟩, -, X54, ⟨Lc54, hQ54, l54, y54, z54⟩, st54⟩ := Jvm.LawKit.callS X0 hx (y := mN12) hown (mw hZ hw 236 rfl) (mw hZ hw 237 rfl) (mw hZ hw 152 rfl) (mw hZ hw 238 rfl) (by decide) (backOf (W := 0) (rm_nbf2 l Z a0 hw [] h0 n0 Z0) hZ (wq hw 238 rfl) (wq hw 152 rfl) (by decide) (by decide)) (g := (mkF m 1 #[vR ta, vI (0 : Int32), vI (2 : Int32), .unset, .unset] [(.int (2 : Int32))])) rfl (by rw [hml]; rfl) (argsL := [(.int (2 : Int32))]) (rest := []) (lenOf pd_8 rfl) rfl (w0 rfl) (dq (dg dto 1 rfl)) (fun _ _ => ⟨rfl, e0, (by decide : 0 + 1 ≤ _), (by decide : 0 + 4 ≤ _)⟩)
  dsimp only [Pt.U, Pt.locs, Pt.cells, Pt.slots] at X54 l54 y54 z54 st54 hQ54
  subst l54 y54 z54
  obtain ⟨b54, kb54, rfl, Nq54, E54, le54_, V54⟩ := hQ54
  have N54 := Fr.app N0 Nq54
  have Ex55 : Ext h0 T54.heap := E54
  refine R0_ st54 ?_
  show Rch p e below T54 (mkF m 4 #[vR ta, vI (0 : Int32), vI (2 : Int32), .unset, .unset] [(.ref b54)]) _
  have leb : n0 ≤ b54 := Nat.le_trans Z0 le54_
  refine R1 (XS.astoreN X54.here hx rfl (dq (dg dto 2 rfl)) rfl rfl (l' := #[vR ta, vI (0 : Int32), vI (2 : Int32), vR b54, .unset]) rfl) ?_
  refine R1 (XS.iconst X54.here hx rfl (dq (dg dto 3 rfl)) ) ?_
  refine R1 (XS.istore X54.here hx rfl (dq (dg dto 4 rfl)) rfl (l' := #[vR ta, vI (0 : Int32), vI (2 : Int32), vR b54, vI (0 : Int32)]) rfl) ?_
  refine R1 (XS.iload X54.here hx rfl (dq (dg dto 5 rfl)) rfl) ?_
  refine R1 (XS.iloadN X54.here hx rfl (dq (dg dto 6 rfl)) rfl) ?_
  refine R1 (XS.icmpNo X54.here hx rfl (dq (dg dto 7 rfl)) rfl (by decide : if_icmp.holds .ge (0 : Int32) (2 : Int32) = false)) ?_
  refine R1 (XS.aloadN X54.here hx rfl (dq (dg dto 8 rfl)) rfl rfl) ?_
  refine R1 (XS.iload X54.here hx rfl (dq (dg dto 9 rfl)) rfl) ?_
  refine R1 (XS.aloadN X54.here hx rfl (dq (dg dto 10 rfl)) rfl rfl) ?_
  refine R1 (XS.iloadN X54.here hx rfl (dq (dg dto 11 rfl)) rfl) ?_
  show Rch p e below T54 (mkF m 19 #[vR ta, vI (0 : Int32), vI (2 : Int32), vR b54, vI (0 : Int32)] [(.int (0 : Int32)), (.ref ta), (.int (0 : Int32)), (.ref b54)]) _
  refine R0_ (calA X54 hx hZ rfl (M.ext Ex55) ⟨by decide, by decide⟩ (v := (.int c0)) rfl (g := (mkF m 19 #[vR ta, vI (0 : Int32), vI (2 : Int32), vR b54, vI (0 : Int32)] [(.int (0 : Int32)), (.ref ta), (.int (0 : Int32)), (.ref b54)])) rfl rfl (dq (dg dto 12 rfl))) ?_
  show Rch p e below T54 (mkF m 20 #[vR ta, vI (0 : Int32), vI (2 : Int32), vR b54, vI (0 : Int32)] [(.int c0), (.int (0 : Int32)), (.ref b54)]) _
  obtain ⟨_, _, ⟨T56, L56, k56, n56⟩, -, X56, ⟨Lc56, hQ56, l56, y56, z56⟩, st56⟩ := Jvm.LawKit.callS X54 hx (y := mN10) hown (mw hZ hw 243 rfl) (mw hZ hw 244 rfl) (mw hZ hw 152 rfl) (mw hZ hw 245 rfl) (by decide) (backOf (W := 0) (rm_put l Z a0 hw [] b54 kb54 [(.int (0 : Int32)), (.int (0 : Int32)), (.int (0 : Int32)), (.int (0 : Int32))] 0 c0 fm T54.heap n0 (Nat.le_trans Z0 Ex55.1) (B.ext Ex55) leb V54 (by first | decide | exact Nat.le_of_ble_eq_true rfl) (by first | decide | exact Nat.le_of_ble_eq_true rfl | rfl)) hZ (wq hw 245 rfl) (wq hw 152 rfl) (by decide) (by decide)) (g := (mkF m 20 #[vR ta, vI (0 : Int32), vI (2 : Int32), vR b54, vI (0 : Int32)] [(.int c0), (.int (0 : Int32)), (.ref b54)])) rfl (by rw [hml]; rfl) (argsL := [(.ref b54), (.int (0 : Int32)), (.int c0)]) (rest := []) (lenOf pd_9 rfl) rfl (w0 rfl) (dq (dg dto 13 rfl)) (fun _ _ => ⟨rfl, rfl, (by decide : 1 + 0 ≤ _), (by decide : 4 + 0 ≤ _)⟩)
  dsimp only [Pt.U, Pt.locs, Pt.cells, Pt.slots] at X56 l56 y56 z56 st56 hQ56
  subst l56 y56 z56
  obtain ⟨rfl, Nq56, K56, V56⟩ := hQ56
  have N56 := Fr.app N54 Nq56
  have Ex57 : Ext h0 T56.heap := extKeep1 Ex55 K56 le54_
  refine R0_ st56 ?_
  show Rch p e below T56 (mkF m 23 #[vR ta, vI (0 : Int32), vI (2 : Int32), vR b54, vI (0 : Int32)] []) _
  refine R1 (XS.iinc X56.here hx rfl (dq (dg dto 14 rfl)) rfl (l' := #[vR ta, vI (1 : Int32), vI (2 : Int32), vR b54, vI (0 : Int32)]) rfl) ?_
  refine R1 (XS.iinc X56.here hx rfl (dq (dg dto 15 rfl)) rfl (l' := #[vR ta, vI (1 : Int32), vI (2 : Int32), vR b54, vI (1 : Int32)]) rfl) ?_
  refine R1 (XS.goto X56.here hx rfl (pc0 := 29) (pc' := 8) rfl (dq (dg dto 16 rfl)) (by decide) (by decide)) ?_
  refine R1 (XS.iload X56.here hx rfl (dq (dg dto 5 rfl)) rfl) ?_
  refine R1 (XS.iloadN X56.here hx rfl (dq (dg dto 6 rfl)) rfl) ?_
  refine R1 (XS.icmpNo X56.here hx rfl (dq (dg dto 7 rfl)) rfl (by decide : if_icmp.holds .ge (1 : Int32) (2 : Int32) = false)) ?_
  refine R1 (XS.aloadN X56.here hx rfl (dq (dg dto 8 rfl)) rfl rfl) ?_
  refine R1 (XS.iload X56.here hx rfl (dq (dg dto 9 rfl)) rfl) ?_
  refine R1 (XS.aloadN X56.here hx rfl (dq (dg dto 10 rfl)) rfl rfl) ?_
  refine R1 (XS.iloadN X56.here hx rfl (dq (dg dto 11 rfl)) rfl) ?_
  show Rch p e below T56 (mkF m 19 #[vR ta, vI (1 : Int32), vI (2 : Int32), vR b54, vI (1 : Int32)] [(.int (1 : Int32)), (.ref ta), (.int (1 : Int32)), (.ref b54)]) _
  refine R0_ (calA X56 hx hZ rfl (M.ext Ex57) ⟨by decide, by decide⟩ (v := (.int c1)) rfl (g := (mkF m 19 #[vR ta, vI (1 : Int32), vI (2 : Int32), vR b54, vI (1 : Int32)] [(.int (1 : Int32)), (.ref ta), (.int (1 : Int32)), (.ref b54)])) rfl rfl (dq (dg dto 12 rfl))) ?_
  show Rch p e below T56 (mkF m 20 #[vR ta, vI (1 : Int32), vI (2 : Int32), vR b54, vI (1 : Int32)] [(.int c1), (.int (1 : Int32)), (.ref b54)]) _
  obtain ⟨_, _, ⟨T58, L58, k58, n58⟩, -, X58, ⟨Lc58, hQ58, l58, y58, z58⟩, st58⟩ := Jvm.LawKit.callS X56 hx (y := mN10) hown (mw hZ hw 243 rfl) (mw hZ hw 244 rfl) (mw hZ hw 152 rfl) (mw hZ hw 245 rfl) (by decide) (backOf (W := 0) (rm_put l Z a0 hw [] b54 kb54 [(.int (StrChars.lo8 c0)), (.int (StrChars.hi8 c0)), (.int (0 : Int32)), (.int (0 : Int32))] 1 c1 fm T56.heap n0 (Nat.le_trans Z0 Ex57.1) (B.ext Ex57) leb V56 (by first | decide | exact Nat.le_of_ble_eq_true rfl) (by first | decide | exact Nat.le_of_ble_eq_true rfl | rfl)) hZ (wq hw 245 rfl) (wq hw 152 rfl) (by decide) (by decide)) (g := (mkF m 20 #[vR ta, vI (1 : Int32), vI (2 : Int32), vR b54, vI (1 : Int32)] [(.int c1), (.int (1 : Int32)), (.ref b54)])) rfl (by rw [hml]; rfl) (argsL := [(.ref b54), (.int (1 : Int32)), (.int c1)]) (rest := []) (lenOf pd_9 rfl) rfl (w0 rfl) (dq (dg dto 13 rfl)) (fun _ _ => ⟨rfl, rfl, (by decide : 1 + 0 ≤ _), (by decide : 4 + 0 ≤ _)⟩)
  dsimp only [Pt.U, Pt.locs, Pt.cells, Pt.slots] at X58 l58 y58 z58 st58 hQ58
  subst l58 y58 z58
  obtain ⟨rfl, Nq58, K58, V58⟩ := hQ58
  have N58 := Fr.app N56 Nq58
  have Ex59 : Ext h0 T58.heap := extKeep1 Ex57 K58 le54_
  refine R0_ st58 ?_
  show Rch p e below T58 (mkF m 23 #[vR ta, vI (1 : Int32), vI (2 : Int32), vR b54, vI (1 : Int32)] []) _
  refine R1 (XS.iinc X58.here hx rfl (dq (dg dto 14 rfl)) rfl (l' := #[vR ta, vI (2 : Int32), vI (2 : Int32), vR b54, vI (1 : Int32)]) rfl) ?_
  refine R1 (XS.iinc X58.here hx rfl (dq (dg dto 15 rfl)) rfl (l' := #[vR ta, vI (2 : Int32), vI (2 : Int32), vR b54, vI (2 : Int32)]) rfl) ?_
  refine R1 (XS.goto X58.here hx rfl (pc0 := 29) (pc' := 8) rfl (dq (dg dto 16 rfl)) (by decide) (by decide)) ?_
  refine R1 (XS.iload X58.here hx rfl (dq (dg dto 5 rfl)) rfl) ?_
  refine R1 (XS.iloadN X58.here hx rfl (dq (dg dto 6 rfl)) rfl) ?_
  refine R1 (XS.icmpYes X58.here hx rfl (pc0 := 11) (pc' := 32) rfl (dq (dg dto 7 rfl)) rfl (by decide : if_icmp.holds .ge (2 : Int32) (2 : Int32) = true) (by decide) (by decide)) ?_
  refine R1 (XS.aloadN X58.here hx rfl (dq (dg dto 17 rfl)) rfl rfl) ?_
  show Rch p e below T58 (mkF m 33 #[vR ta, vI (2 : Int32), vI (2 : Int32), vR b54, vI (2 : Int32)] [(.ref b54)]) _
  exact Rch.fin (Q := Q_toby2 Z ta ka c0 c1 fm h0 n0) X58 (v := some (.ref b54)) (fun h => by rw [Bd.returns] at h; cases h) (BodyLoose.notSynchronized Bd) (fun fs hr => retR X58 hx Bd.returns rfl rfl (dq (dg dto 18 rfl)) hr) ⟨b54, kb54, rfl, N58, Ex59, le54_, V58⟩ (by decide) (by decide)
def Q_cmp2 (Z : State) (ta tb : Addr) (ka kb : ClassId) (c0 c1 : Int32) (h0 : Heap) (n0 : Nat) (v : Option Value) (h : Heap) (L : List Loc) : Prop := ∃ r, v = some (.int r) ∧ Fr n0 L ∧ Keep h0 h [tb] ∧ ((r = (0 : Int32) ∧ (255 : Int32) < c0) ∨ (r = (1 : Int32) ∧ (255 : Int32) < c1))
set_option maxRecDepth 65536 in
set_option maxHeartbeats 40000000 in
theorem rm_cmp2 (l : Launch) (Z : State) (a0 : Array Value) (hw : ∀ d ∈ tables_1, d.before a0 Z = true) (ws : List Jvm.Cond) (ta tb : Addr) (ka kb : ClassId) (c0 c1 : Int32) (h0 : Heap) (n0 : Nat) (Z0 : n0 ≤ h0.size) (hthis : n0 ≤ tb) (ne : ta ≠ tb) (M : Arv Z h0 ta ka .char (2 : Int32) [(.int c0), (.int c1)] (.int 0)) (D : Arv Z h0 tb kb .byte (2 : Int32) [(.int (0 : Int32)), (.int (0 : Int32))] (.int 0)) (hbig : (255 : Int32) < c0 ∨ (255 : Int32) < c1) :
    MetFree l mN14 (head1 (Jvm.Cond.code mN14 jdk_52_method_21_code 7 (some .int) :: ws) rO0) (fun a U => a = #[(.ref ta), (.int (0 : Int32)), (.ref tb), (.int (0 : Int32)), (.int (2 : Int32))] ∧ Z.Warmed39 U.vm ∧ U.heap = h0) (fun _ _ _ _ _ => True) (fun _ U o U' => ∃ v L, o = .returned v ∧ Q_cmp2 Z ta tb ka kb c0 c1 h0 n0 v U'.heap L ∧ FrameEnd U o U' L rO0.cells rO0.slots) := by
  refine MetFree.of_bodySF pn_cmp1 hisR ?_
  intro p e s m args below meth c s₁ Bd hml0 hP hK
  obtain ⟨rfl, hZ, hh⟩ := hP
  have hx := Bd.exec
  have hby := Bd.bytes
  have dq := @hb _ _ hby
  have hml : c.maxLocals = 7 := hml0
  have X0 : Stand p l e rO0 s m #[(.ref ta), (.int (0 : Int32)), (.ref tb), (.int (0 : Int32)), (.int (2 : Int32))] below meth c s₁ [] 0 0 := Stand.of_body Bd
  have e0 : s₁.heap = h0 := by rw [← hh, Bd.state]; rfl
  have N0 := Fr.nil n0
  show Rch p e below s₁ _ _
  refine Rch.cast (ef_cmp1 m ta (0 : Int32) tb (0 : Int32) (2 : Int32)) ?_
  show Rch p e below s₁ (mkF m 0 #[vR ta, vI (0 : Int32), vR tb, vI (0 : Int32), vI (2 : Int32), .unset, .unset] []) _
  refine R1 (XS.iconst X0.here hx rfl (dq (dg dc5 0 rfl)) ) ?_
  refine R1 (XS.istore X0.here hx rfl (dq (dg dc5 1 rfl)) rfl (l' := #[vR ta, vI (0 : Int32), vR tb, vI (0 : Int32), vI (2 : Int32), vI (0 : Int32), .unset]) rfl) ?_
  refine R1 (XS.iload X0.here hx rfl (dq (dg dc5 2 rfl)) rfl) ?_
  refine R1 (XS.iload X0.here hx rfl (dq (dg dc5 3 rfl)) rfl) ?_
  refine R1 (XS.icmpNo X0.here hx rfl (dq (dg dc5 4 rfl)) rfl (by decide : if_icmp.holds .ge (0 : Int32) (2 : Int32) = false)) ?_
  refine R1 (XS.aloadN X0.here hx rfl (dq (dg dc5 5 rfl)) rfl rfl) ?_
  refine R1 (XS.iloadN X0.here hx rfl (dq (dg dc5 6 rfl)) rfl) ?_
  show Rch p e below s₁ (mkF m 12 #[vR ta, vI (0 : Int32), vR tb, vI (0 : Int32), vI (2 : Int32), vI (0 : Int32), .unset] [(.int (0 : Int32)), (.ref ta)]) _
  refine R0_ (calA X0 hx hZ e0 M ⟨by decide, by decide⟩ (v := (.int c0)) rfl (g := (mkF m 12 #[vR ta, vI (0 : Int32), vR tb, vI (0 : Int32), vI (2 : Int32), vI (0 : Int32), .unset] [(.int (0 : Int32)), (.ref ta)])) rfl rfl (dq (dg dc5 7 rfl))) ?_
  show Rch p e below s₁ (mkF m 13 #[vR ta, vI (0 : Int32), vR tb, vI (0 : Int32), vI (2 : Int32), vI (0 : Int32), .unset] [(.int c0)]) _
  refine R1 (XS.istore X0.here hx rfl (dq (dg dc5 8 rfl)) rfl (l' := #[vR ta, vI (0 : Int32), vR tb, vI (0 : Int32), vI (2 : Int32), vI (0 : Int32), vI c0]) rfl) ?_
  refine R1 (XS.iload X0.here hx rfl (dq (dg dc5 9 rfl)) rfl) ?_
  refine R1 (XS.sipush X0.here hx rfl (dq (dg dc5 10 rfl)) ) ?_
  show Rch p e below s₁ (mkF m 20 #[vR ta, vI (0 : Int32), vR tb, vI (0 : Int32), vI (2 : Int32), vI (0 : Int32), vI c0] [(.int (255 : Int32)), (.int c0)]) _
  by_cases hbd0 : (255 : Int32) < c0
  · skip
    refine R1 (XS.icmpNo X0.here hx rfl (dq (dg dc5 11 rfl)) rfl (tlt hbd0).2.2.2) ?_
    refine R1 (XS.iload X0.here hx rfl (dq (dg dc5 12 rfl)) rfl) ?_
    show Rch p e below s₁ (mkF m 25 #[vR ta, vI (0 : Int32), vR tb, vI (0 : Int32), vI (2 : Int32), vI (0 : Int32), vI c0] [(.int (0 : Int32))]) _
    exact Rch.fin (Q := Q_cmp2 Z ta tb ka kb c0 c1 h0 n0) X0 (v := some (.int (0 : Int32))) (fun h => by rw [Bd.returns] at h; cases h) (BodyLoose.notSynchronized Bd) (fun fs hr => retI X0 hx Bd.returns (dq (dg dc5 13 rfl)) hr) (by rw [e0]; exact ⟨(0 : Int32), rfl, N0, (Keep.refl _ _), Or.inl ⟨rfl, hbd0⟩⟩) (by decide) (by decide)
  · skip
    refine R1 (XS.icmpYes X0.here hx rfl (pc0 := 20) (pc' := 26) rfl (dq (dg dc5 11 rfl)) rfl (flt hbd0).2.2.2 (by decide) (by decide)) ?_
    refine R1 (XS.aloadN X0.here hx rfl (dq (dg dc5 14 rfl)) rfl rfl) ?_
    refine R1 (XS.iloadN X0.here hx rfl (dq (dg dc5 15 rfl)) rfl) ?_
    refine R1 (XS.iload X0.here hx rfl (dq (dg dc5 16 rfl)) rfl) ?_
    refine R1 (XT.i2b X0.here hx rfl (dq (dg dc5 17 rfl)) rfl) ?_
    show Rch p e below s₁ (mkF m 31 #[vR ta, vI (0 : Int32), vR tb, vI (0 : Int32), vI (2 : Int32), vI (0 : Int32), vI c0] [(.int (c0.toInt8.toInt32)), (.int (0 : Int32)), (.ref tb)]) _
    obtain ⟨T60, h60, L60, sl60, X60, e60, W60, V60, N60, st60⟩ := stBv X0 hx hZ e0 D N0 hthis (j := (0 : Int32)) ⟨by decide, by decide⟩ 0 rfl (Nat.le_of_ble_eq_true rfl) (g := (mkF m 31 #[vR ta, vI (0 : Int32), vR tb, vI (0 : Int32), vI (2 : Int32), vI (0 : Int32), vI c0] [(.int (c0.toInt8.toInt32)), (.int (0 : Int32)), (.ref tb)])) rfl rfl (dq (dg dc5 18 rfl))
    have D60 : Arv Z h60 tb kb .byte (2 : Int32) [(.int (nar .byte c0.toInt8.toInt32)), (.int (0 : Int32))] (.int 0) := V60
    have M60 := (M).other W60 ne
    have K60 : Keep h0 h60 [tb] := (Keep.refl _ _).wr W60 (Or.inl (List.mem_singleton.mpr rfl))
    refine R0_ st60 ?_
    show Rch p e below T60 (mkF m 32 #[vR ta, vI (0 : Int32), vR tb, vI (0 : Int32), vI (2 : Int32), vI (0 : Int32), vI c0] []) _
    refine R1 (XS.iinc X60.here hx rfl (dq (dg dc5 19 rfl)) rfl (l' := #[vR ta, vI (1 : Int32), vR tb, vI (0 : Int32), vI (2 : Int32), vI (0 : Int32), vI c0]) rfl) ?_
    refine R1 (XS.iinc X60.here hx rfl (dq (dg dc5 20 rfl)) rfl (l' := #[vR ta, vI (1 : Int32), vR tb, vI (1 : Int32), vI (2 : Int32), vI (0 : Int32), vI c0]) rfl) ?_
    refine R1 (XS.iinc X60.here hx rfl (dq (dg dc5 21 rfl)) rfl (l' := #[vR ta, vI (1 : Int32), vR tb, vI (1 : Int32), vI (2 : Int32), vI (1 : Int32), vI c0]) rfl) ?_
    refine R1 (XS.goto X60.here hx rfl (pc0 := 41) (pc' := 3) rfl (dq (dg dc5 22 rfl)) (by decide) (by decide)) ?_
    refine R1 (XS.iload X60.here hx rfl (dq (dg dc5 2 rfl)) rfl) ?_
    refine R1 (XS.iload X60.here hx rfl (dq (dg dc5 3 rfl)) rfl) ?_
    refine R1 (XS.icmpNo X60.here hx rfl (dq (dg dc5 4 rfl)) rfl (by decide : if_icmp.holds .ge (1 : Int32) (2 : Int32) = false)) ?_
    refine R1 (XS.aloadN X60.here hx rfl (dq (dg dc5 5 rfl)) rfl rfl) ?_
    refine R1 (XS.iloadN X60.here hx rfl (dq (dg dc5 6 rfl)) rfl) ?_
    show Rch p e below T60 (mkF m 12 #[vR ta, vI (1 : Int32), vR tb, vI (1 : Int32), vI (2 : Int32), vI (1 : Int32), vI c0] [(.int (1 : Int32)), (.ref ta)]) _
    refine R0_ (calA X60 hx hZ e60 M60 ⟨by decide, by decide⟩ (v := (.int c1)) rfl (g := (mkF m 12 #[vR ta, vI (1 : Int32), vR tb, vI (1 : Int32), vI (2 : Int32), vI (1 : Int32), vI c0] [(.int (1 : Int32)), (.ref ta)])) rfl rfl (dq (dg dc5 7 rfl))) ?_
    show Rch p e below T60 (mkF m 13 #[vR ta, vI (1 : Int32), vR tb, vI (1 : Int32), vI (2 : Int32), vI (1 : Int32), vI c0] [(.int c1)]) _
    refine R1 (XS.istore X60.here hx rfl (dq (dg dc5 8 rfl)) rfl (l' := #[vR ta, vI (1 : Int32), vR tb, vI (1 : Int32), vI (2 : Int32), vI (1 : Int32), vI c1]) rfl) ?_
    refine R1 (XS.iload X60.here hx rfl (dq (dg dc5 9 rfl)) rfl) ?_
    refine R1 (XS.sipush X60.here hx rfl (dq (dg dc5 10 rfl)) ) ?_
    show Rch p e below T60 (mkF m 20 #[vR ta, vI (1 : Int32), vR tb, vI (1 : Int32), vI (2 : Int32), vI (1 : Int32), vI c1] [(.int (255 : Int32)), (.int c1)]) _
    by_cases hbd1 : (255 : Int32) < c1
    · skip
      refine R1 (XS.icmpNo X60.here hx rfl (dq (dg dc5 11 rfl)) rfl (tlt hbd1).2.2.2) ?_
      refine R1 (XS.iload X60.here hx rfl (dq (dg dc5 12 rfl)) rfl) ?_
      show Rch p e below T60 (mkF m 25 #[vR ta, vI (1 : Int32), vR tb, vI (1 : Int32), vI (2 : Int32), vI (1 : Int32), vI c1] [(.int (1 : Int32))]) _
      exact Rch.fin (Q := Q_cmp2 Z ta tb ka kb c0 c1 h0 n0) X60 (v := some (.int (1 : Int32))) (fun h => by rw [Bd.returns] at h; cases h) (BodyLoose.notSynchronized Bd) (fun fs hr => retI X60 hx Bd.returns (dq (dg dc5 13 rfl)) hr) (by rw [e60]; exact ⟨(1 : Int32), rfl, N60, K60, Or.inr (⟨rfl, hbd1⟩)⟩) (by decide) (by decide)
    · skip
      refine R1 (XS.icmpYes X60.here hx rfl (pc0 := 20) (pc' := 26) rfl (dq (dg dc5 11 rfl)) rfl (flt hbd1).2.2.2 (by decide) (by decide)) ?_
      refine R1 (XS.aloadN X60.here hx rfl (dq (dg dc5 14 rfl)) rfl rfl) ?_
      refine R1 (XS.iloadN X60.here hx rfl (dq (dg dc5 15 rfl)) rfl) ?_
      refine R1 (XS.iload X60.here hx rfl (dq (dg dc5 16 rfl)) rfl) ?_
      refine R1 (XT.i2b X60.here hx rfl (dq (dg dc5 17 rfl)) rfl) ?_
      show Rch p e below T60 (mkF m 31 #[vR ta, vI (1 : Int32), vR tb, vI (1 : Int32), vI (2 : Int32), vI (1 : Int32), vI c1] [(.int (c1.toInt8.toInt32)), (.int (1 : Int32)), (.ref tb)]) _
      obtain ⟨T61, h61, L61, sl61, X61, e61, W61, V61, N61, st61⟩ := stBv X60 hx hZ e60 D60 N60 hthis (j := (1 : Int32)) ⟨by decide, by decide⟩ 1 rfl (Nat.le_of_ble_eq_true rfl) (g := (mkF m 31 #[vR ta, vI (1 : Int32), vR tb, vI (1 : Int32), vI (2 : Int32), vI (1 : Int32), vI c1] [(.int (c1.toInt8.toInt32)), (.int (1 : Int32)), (.ref tb)])) rfl rfl (dq (dg dc5 18 rfl))
      have D61 : Arv Z h61 tb kb .byte (2 : Int32) [(.int (nar .byte c0.toInt8.toInt32)), (.int (nar .byte c1.toInt8.toInt32))] (.int 0) := V61
      have M61 := (M60).other W61 ne
      have K61 : Keep h0 h61 [tb] := K60.wr W61 (Or.inl (List.mem_singleton.mpr rfl))
      refine R0_ st61 ?_
      show Rch p e below T61 (mkF m 32 #[vR ta, vI (1 : Int32), vR tb, vI (1 : Int32), vI (2 : Int32), vI (1 : Int32), vI c1] []) _
      refine R1 (XS.iinc X61.here hx rfl (dq (dg dc5 19 rfl)) rfl (l' := #[vR ta, vI (2 : Int32), vR tb, vI (1 : Int32), vI (2 : Int32), vI (1 : Int32), vI c1]) rfl) ?_
      refine R1 (XS.iinc X61.here hx rfl (dq (dg dc5 20 rfl)) rfl (l' := #[vR ta, vI (2 : Int32), vR tb, vI (2 : Int32), vI (2 : Int32), vI (1 : Int32), vI c1]) rfl) ?_
      refine R1 (XS.iinc X61.here hx rfl (dq (dg dc5 21 rfl)) rfl (l' := #[vR ta, vI (2 : Int32), vR tb, vI (2 : Int32), vI (2 : Int32), vI (2 : Int32), vI c1]) rfl) ?_
      refine R1 (XS.goto X61.here hx rfl (pc0 := 41) (pc' := 3) rfl (dq (dg dc5 22 rfl)) (by decide) (by decide)) ?_
      refine R1 (XS.iload X61.here hx rfl (dq (dg dc5 2 rfl)) rfl) ?_
      refine R1 (XS.iload X61.here hx rfl (dq (dg dc5 3 rfl)) rfl) ?_
      show Rch p e below T61 (mkF m 7 #[vR ta, vI (2 : Int32), vR tb, vI (2 : Int32), vI (2 : Int32), vI (2 : Int32), vI c1] [(.int (2 : Int32)), (.int (2 : Int32))]) _
      exfalso
      rcases hbig with q | q
      · exact hbd0 q
      · exact hbd1 q
def Q_nbf3 (Z : State)  (h0 : Heap) (n0 : Nat) (v : Option Value) (h : Heap) (L : List Loc) : Prop := ∃ b k, v = some (.ref b) ∧ Fr n0 L ∧ Ext h0 h ∧ h0.size ≤ b ∧ Arv Z h b k .byte (6 : Int32) [(.int (0 : Int32)), (.int (0 : Int32)), (.int (0 : Int32)), (.int (0 : Int32)), (.int (0 : Int32)), (.int (0 : Int32))] (.int 0)
set_option maxRecDepth 65536 in
set_option maxHeartbeats 40000000 in
theorem rm_nbf3 (l : Launch) (Z : State) (a0 : Array Value) (hw : ∀ d ∈ tables_1, d.before a0 Z = true) (ws : List Jvm.Cond) (h0 : Heap) (n0 : Nat) (Z0 : n0 ≤ h0.size) :
    MetFree l mN12 (head1 (Jvm.Cond.code mN12 jdk_52_method_2_code 1 (some (.array .byte)) :: ws) rO11) (fun a U => a = #[(.int (3 : Int32))] ∧ Z.Warmed39 U.vm ∧ U.heap = h0) (fun _ _ _ _ _ => True) (fun _ U o U' => ∃ v L, o = .returned v ∧ Q_nbf3 Z  h0 n0 v U'.heap L ∧ FrameEnd U o U' L rO11.cells rO11.slots) := by
  refine MetFree.of_bodySF pn_nbf1 hisR ?_
  intro p e s m args below meth c s₁ Bd hml0 hP hK
  obtain ⟨rfl, hZ, hh⟩ := hP
  have hx := Bd.exec
  have hby := Bd.bytes
  have dq := @hb _ _ hby
  have hml : c.maxLocals = 1 := hml0
  have hown : s.vm.findClass "java/lang/StringUTF16" = some m.cls := findClass_of_methodNamed Bd.named
  have X0 : Stand p l e rO11 s m #[(.int (3 : Int32))] below meth c s₁ [] 0 0 := Stand.of_body Bd
  have e0 : s₁.heap = h0 := by rw [← hh, Bd.state]; rfl
  have N0 := Fr.nil n0
  show Rch p e below s₁ _ _
  refine Rch.cast (ef_nbl m (3 : Int32)) ?_
  show Rch p e below s₁ (mkF m 0 #[vI (3 : Int32)] []) _
  refine R1 (XS.iloadN X0.here hx rfl (dq (dg dnf 0 rfl)) rfl) ?_
  show Rch p e below s₁ (mkF m 1 #[vI (3 : Int32)] [(.int (3 : Int32))]) _
  obtain ⟨_, _, ⟨T75, L75, k75, n75⟩, -, X75, ⟨Lc75, hQ75, l75, y75, z75⟩, st75⟩ := Jvm.LawKit.callS X0 hx (y := mN11) hown (mw hZ hw 239 rfl) (mw hZ hw 240 rfl) (mw hZ hw 152 rfl) (mw hZ hw 241 rfl) (by decide) (backOf (W := 0) (rm_nbl l Z a0 hw [] (3 : Int32) h0 n0 Z0 (by decide) (by decide)) hZ (wq hw 241 rfl) (wq hw 152 rfl) (by decide) (by decide)) (g := (mkF m 1 #[vI (3 : Int32)] [(.int (3 : Int32))])) rfl (by rw [hml]; rfl) (argsL := [(.int (3 : Int32))]) (rest := []) (lenOf pd_7 rfl) rfl (w0 rfl) (dq (dg dnf 1 rfl)) (fun _ _ => ⟨rfl, e0, (by decide : 0 + 0 ≤ _), (by decide : 0 + 0 ≤ _)⟩)
  dsimp only [Pt.U, Pt.locs, Pt.cells, Pt.slots] at X75 l75 y75 z75 st75 hQ75
  subst l75 y75 z75
  obtain ⟨rfl, Nq75, e75⟩ := hQ75
  have N75 := Fr.app N0 Nq75
  refine R0_ st75 ?_
  show Rch p e below T75 (mkF m 4 #[vI (3 : Int32)] [(.int (6 : Int32))]) _
  obtain ⟨T76, h76, k76, X76, e76, E76, A76, st76⟩ := newP X75 hx hZ (wq hw 20 rfl) e75 (g := (mkF m 4 #[vI (3 : Int32)] [(.int (6 : Int32))])) rfl (dq (dg dnf 2 rfl)) rfl (by decide : ¬ ((6 : Int32) < (0 : Int32))) (cap := 6) (by decide : ((6 : Int32)).toNatClampNeg ≤ 6) (by decide) (by decide) (by decide)
  obtain ⟨a76, g76⟩ : ∃ z, z = h0.size := ⟨_, rfl⟩
  rw [← g76] at A76 st76
  have Ex77 : Ext h0 h76 := E76
  have le78 : h0.size ≤ a76 := Nat.le_of_eq g76.symm
  refine R0_ st76 ?_
  show Rch p e below T76 (mkF m 6 #[vI (3 : Int32)] [(.ref a76)]) _
  have V76 : Arv Z h76 a76 k76 .byte (6 : Int32) [(.int (0 : Int32)), (.int (0 : Int32)), (.int (0 : Int32)), (.int (0 : Int32)), (.int (0 : Int32)), (.int (0 : Int32))] (.int (0 : Int32)) := (Arv.new A76 (by decide : ¬ ((6 : Int32) < (0 : Int32)))).pad (pad_rep [] (.int (0 : Int32)) 6)
  exact Rch.fin (Q := Q_nbf3 Z  h0 n0) X76 (v := some (.ref a76)) (fun h => by rw [Bd.returns] at h; cases h) (BodyLoose.notSynchronized Bd) (fun fs hr => retR X76 hx Bd.returns rfl rfl (dq (dg dnf 3 rfl)) hr) (by rw [e76]; exact ⟨a76, k76, rfl, N75, Ex77, le78, V76⟩) (by decide) (by decide)
def Q_toby3 (Z : State) (ta : Addr) (ka : ClassId) (c0 c1 c2 : Int32) (fm : Value) (h0 : Heap) (n0 : Nat) (v : Option Value) (h : Heap) (L : List Loc) : Prop := ∃ b k, v = some (.ref b) ∧ Fr n0 L ∧ Ext h0 h ∧ h0.size ≤ b ∧ Arv Z h b k .byte (6 : Int32) (StrChars.Road.wideBytes [c0, c1, c2]) (.int 0)
set_option maxRecDepth 65536 in
set_option maxHeartbeats 40000000 in
theorem rm_toby3 (l : Launch) (Z : State) (a0 : Array Value) (hw : ∀ d ∈ tables_1, d.before a0 Z = true) (ws : List Jvm.Cond) (ta : Addr) (ka : ClassId) (c0 c1 c2 : Int32) (fm : Value) (h0 : Heap) (n0 : Nat) (Z0 : n0 ≤ h0.size) (B : Bg Z h0 fm) (M : Arv Z h0 ta ka .char (3 : Int32) [(.int c0), (.int c1), (.int c2)] (.int 0)) :
    MetFree l mN13 (head1 (Jvm.Cond.code mN13 jdk_52_method_14_code 5 (some (.array .byte)) :: ws) rO12) (fun a U => a = #[(.ref ta), (.int (0 : Int32)), (.int (3 : Int32))] ∧ Z.Warmed39 U.vm ∧ U.heap = h0) (fun _ _ _ _ _ => True) (fun _ U o U' => ∃ v L, o = .returned v ∧ Q_toby3 Z ta ka c0 c1 c2 fm h0 n0 v U'.heap L ∧ FrameEnd U o U' L rO12.cells rO12.slots) := by
  refine MetFree.of_bodySF pn_toby1 hisR ?_
  intro p e s m args below meth c s₁ Bd hml0 hP hK
  obtain ⟨rfl, hZ, hh⟩ := hP
  have hx := Bd.exec
  have hby := Bd.bytes
  have dq := @hb _ _ hby
  have hml : c.maxLocals = 5 := hml0
  have hown : s.vm.findClass "java/lang/StringUTF16" = some m.cls := findClass_of_methodNamed Bd.named
  have X0 : Stand p l e rO12 s m #[(.ref ta), (.int (0 : Int32)), (.int (3 : Int32))] below meth c s₁ [] 0 0 := Stand.of_body Bd
  have e0 : s₁.heap = h0 := by rw [← hh, Bd.state]; rfl
  have N0 := Fr.nil n0
  show Rch p e below s₁ _ _
  refine Rch.cast (ef_toby1 m ta (0 : Int32) (3 : Int32)) ?_
  show Rch p e below s₁ (mkF m 0 #[vR ta, vI (0 : Int32), vI (3 : Int32), .unset, .unset] []) _
  refine R1 (XS.iloadN X0.here hx rfl (dq (dg dto 0 rfl)) rfl) ?_
  show Rch p e below s₁ (mkF m 1 #[vR ta, vI (0 : Int32), vI (3 : Int32), .unset, .unset] [(.int (3 : Int32))]) _
  obtain ⟨_, _, ⟨T79, L79, k79, n79⟩, -, X79, ⟨Lc79, hQ79, l79, y79, z79⟩, st79⟩ := Jvm.LawKit.callS X0 hx (y := mN12) hown (mw hZ hw 236 rfl) (mw hZ hw 237 rfl) (mw hZ hw 152 rfl) (mw hZ hw 238 rfl) (by decide) (backOf (W := 0) (rm_nbf3 l Z a0 hw [] h0 n0 Z0) hZ (wq hw 238 rfl) (wq hw 152 rfl) (by decide) (by decide)) (g := (mkF m 1 #[vR ta, vI (0 : Int32), vI (3 : Int32), .unset, .unset] [(.int (3 : Int32))])) rfl (by rw [hml]; rfl) (argsL := [(.int (3 : Int32))]) (rest := []) (lenOf pd_8 rfl) rfl (w0 rfl) (dq (dg dto 1 rfl)) (fun _ _ => ⟨rfl, e0, (by decide : 0 + 1 ≤ _), (by decide : 0 + 6 ≤ _)⟩)
  dsimp only [Pt.U, Pt.locs, Pt.cells, Pt.slots] at X79 l79 y79 z79 st79 hQ79
  subst l79 y79 z79
  obtain ⟨b79, kb79, rfl, Nq79, E79, le79_, V79⟩ := hQ79
  have N79 := Fr.app N0 Nq79
  have Ex80 : Ext h0 T79.heap := E79
  refine R0_ st79 ?_
  show Rch p e below T79 (mkF m 4 #[vR ta, vI (0 : Int32), vI (3 : Int32), .unset, .unset] [(.ref b79)]) _
  have leb : n0 ≤ b79 := Nat.le_trans Z0 le79_
  refine R1 (XS.astoreN X79.here hx rfl (dq (dg dto 2 rfl)) rfl rfl (l' := #[vR ta, vI (0 : Int32), vI (3 : Int32), vR b79, .unset]) rfl) ?_
  refine R1 (XS.iconst X79.here hx rfl (dq (dg dto 3 rfl)) ) ?_
  refine R1 (XS.istore X79.here hx rfl (dq (dg dto 4 rfl)) rfl (l' := #[vR ta, vI (0 : Int32), vI (3 : Int32), vR b79, vI (0 : Int32)]) rfl) ?_
  refine R1 (XS.iload X79.here hx rfl (dq (dg dto 5 rfl)) rfl) ?_
  refine R1 (XS.iloadN X79.here hx rfl (dq (dg dto 6 rfl)) rfl) ?_
  refine R1 (XS.icmpNo X79.here hx rfl (dq (dg dto 7 rfl)) rfl (by decide : if_icmp.holds .ge (0 : Int32) (3 : Int32) = false)) ?_
  refine R1 (XS.aloadN X79.here hx rfl (dq (dg dto 8 rfl)) rfl rfl) ?_
  refine R1 (XS.iload X79.here hx rfl (dq (dg dto 9 rfl)) rfl) ?_
  refine R1 (XS.aloadN X79.here hx rfl (dq (dg dto 10 rfl)) rfl rfl) ?_
  refine R1 (XS.iloadN X79.here hx rfl (dq (dg dto 11 rfl)) rfl) ?_
  show Rch p e below T79 (mkF m 19 #[vR ta, vI (0 : Int32), vI (3 : Int32), vR b79, vI (0 : Int32)] [(.int (0 : Int32)), (.ref ta), (.int (0 : Int32)), (.ref b79)]) _
  refine R0_ (calA X79 hx hZ rfl (M.ext Ex80) ⟨by decide, by decide⟩ (v := (.int c0)) rfl (g := (mkF m 19 #[vR ta, vI (0 : Int32), vI (3 : Int32), vR b79, vI (0 : Int32)] [(.int (0 : Int32)), (.ref ta), (.int (0 : Int32)), (.ref b79)])) rfl rfl (dq (dg dto 12 rfl))) ?_
  show Rch p e below T79 (mkF m 20 #[vR ta, vI (0 : Int32), vI (3 : Int32), vR b79, vI (0 : Int32)] [(.int c0), (.int (0 : Int32)), (.ref b79)]) _
  obtain ⟨_, _, ⟨T81, L81, k81, n81⟩, -, X81, ⟨Lc81, hQ81, l81, y81, z81⟩, st81⟩ := Jvm.LawKit.callS X79 hx (y := mN10) hown (mw hZ hw 243 rfl) (mw hZ hw 244 rfl) (mw hZ hw 152 rfl) (mw hZ hw 245 rfl) (by decide) (backOf (W := 0) (rm_put l Z a0 hw [] b79 kb79 [(.int (0 : Int32)), (.int (0 : Int32)), (.int (0 : Int32)), (.int (0 : Int32)), (.int (0 : Int32)), (.int (0 : Int32))] 0 c0 fm T79.heap n0 (Nat.le_trans Z0 Ex80.1) (B.ext Ex80) leb V79 (by first | decide | exact Nat.le_of_ble_eq_true rfl) (by first | decide | exact Nat.le_of_ble_eq_true rfl | rfl)) hZ (wq hw 245 rfl) (wq hw 152 rfl) (by decide) (by decide)) (g := (mkF m 20 #[vR ta, vI (0 : Int32), vI (3 : Int32), vR b79, vI (0 : Int32)] [(.int c0), (.int (0 : Int32)), (.ref b79)])) rfl (by rw [hml]; rfl) (argsL := [(.ref b79), (.int (0 : Int32)), (.int c0)]) (rest := []) (lenOf pd_9 rfl) rfl (w0 rfl) (dq (dg dto 13 rfl)) (fun _ _ => ⟨rfl, rfl, (by decide : 1 + 0 ≤ _), (by decide : 6 + 0 ≤ _)⟩)
  dsimp only [Pt.U, Pt.locs, Pt.cells, Pt.slots] at X81 l81 y81 z81 st81 hQ81
  subst l81 y81 z81
  obtain ⟨rfl, Nq81, K81, V81⟩ := hQ81
  have N81 := Fr.app N79 Nq81
  have Ex82 : Ext h0 T81.heap := extKeep1 Ex80 K81 le79_
  refine R0_ st81 ?_
  show Rch p e below T81 (mkF m 23 #[vR ta, vI (0 : Int32), vI (3 : Int32), vR b79, vI (0 : Int32)] []) _
  refine R1 (XS.iinc X81.here hx rfl (dq (dg dto 14 rfl)) rfl (l' := #[vR ta, vI (1 : Int32), vI (3 : Int32), vR b79, vI (0 : Int32)]) rfl) ?_
  refine R1 (XS.iinc X81.here hx rfl (dq (dg dto 15 rfl)) rfl (l' := #[vR ta, vI (1 : Int32), vI (3 : Int32), vR b79, vI (1 : Int32)]) rfl) ?_
  refine R1 (XS.goto X81.here hx rfl (pc0 := 29) (pc' := 8) rfl (dq (dg dto 16 rfl)) (by decide) (by decide)) ?_
  refine R1 (XS.iload X81.here hx rfl (dq (dg dto 5 rfl)) rfl) ?_
  refine R1 (XS.iloadN X81.here hx rfl (dq (dg dto 6 rfl)) rfl) ?_
  refine R1 (XS.icmpNo X81.here hx rfl (dq (dg dto 7 rfl)) rfl (by decide : if_icmp.holds .ge (1 : Int32) (3 : Int32) = false)) ?_
  refine R1 (XS.aloadN X81.here hx rfl (dq (dg dto 8 rfl)) rfl rfl) ?_
  refine R1 (XS.iload X81.here hx rfl (dq (dg dto 9 rfl)) rfl) ?_
  refine R1 (XS.aloadN X81.here hx rfl (dq (dg dto 10 rfl)) rfl rfl) ?_
  refine R1 (XS.iloadN X81.here hx rfl (dq (dg dto 11 rfl)) rfl) ?_
  show Rch p e below T81 (mkF m 19 #[vR ta, vI (1 : Int32), vI (3 : Int32), vR b79, vI (1 : Int32)] [(.int (1 : Int32)), (.ref ta), (.int (1 : Int32)), (.ref b79)]) _
  refine R0_ (calA X81 hx hZ rfl (M.ext Ex82) ⟨by decide, by decide⟩ (v := (.int c1)) rfl (g := (mkF m 19 #[vR ta, vI (1 : Int32), vI (3 : Int32), vR b79, vI (1 : Int32)] [(.int (1 : Int32)), (.ref ta), (.int (1 : Int32)), (.ref b79)])) rfl rfl (dq (dg dto 12 rfl))) ?_
  show Rch p e below T81 (mkF m 20 #[vR ta, vI (1 : Int32), vI (3 : Int32), vR b79, vI (1 : Int32)] [(.int c1), (.int (1 : Int32)), (.ref b79)]) _
  obtain ⟨_, _, ⟨T83, L83, k83, n83⟩, -, X83, ⟨Lc83, hQ83, l83, y83, z83⟩, st83⟩ := Jvm.LawKit.callS X81 hx (y := mN10) hown (mw hZ hw 243 rfl) (mw hZ hw 244 rfl) (mw hZ hw 152 rfl) (mw hZ hw 245 rfl) (by decide) (backOf (W := 0) (rm_put l Z a0 hw [] b79 kb79 [(.int (StrChars.lo8 c0)), (.int (StrChars.hi8 c0)), (.int (0 : Int32)), (.int (0 : Int32)), (.int (0 : Int32)), (.int (0 : Int32))] 1 c1 fm T81.heap n0 (Nat.le_trans Z0 Ex82.1) (B.ext Ex82) leb V81 (by first | decide | exact Nat.le_of_ble_eq_true rfl) (by first | decide | exact Nat.le_of_ble_eq_true rfl | rfl)) hZ (wq hw 245 rfl) (wq hw 152 rfl) (by decide) (by decide)) (g := (mkF m 20 #[vR ta, vI (1 : Int32), vI (3 : Int32), vR b79, vI (1 : Int32)] [(.int c1), (.int (1 : Int32)), (.ref b79)])) rfl (by rw [hml]; rfl) (argsL := [(.ref b79), (.int (1 : Int32)), (.int c1)]) (rest := []) (lenOf pd_9 rfl) rfl (w0 rfl) (dq (dg dto 13 rfl)) (fun _ _ => ⟨rfl, rfl, (by decide : 1 + 0 ≤ _), (by decide : 6 + 0 ≤ _)⟩)
  dsimp only [Pt.U, Pt.locs, Pt.cells, Pt.slots] at X83 l83 y83 z83 st83 hQ83
  subst l83 y83 z83
  obtain ⟨rfl, Nq83, K83, V83⟩ := hQ83
  have N83 := Fr.app N81 Nq83
  have Ex84 : Ext h0 T83.heap := extKeep1 Ex82 K83 le79_
  refine R0_ st83 ?_
  show Rch p e below T83 (mkF m 23 #[vR ta, vI (1 : Int32), vI (3 : Int32), vR b79, vI (1 : Int32)] []) _
  refine R1 (XS.iinc X83.here hx rfl (dq (dg dto 14 rfl)) rfl (l' := #[vR ta, vI (2 : Int32), vI (3 : Int32), vR b79, vI (1 : Int32)]) rfl) ?_
  refine R1 (XS.iinc X83.here hx rfl (dq (dg dto 15 rfl)) rfl (l' := #[vR ta, vI (2 : Int32), vI (3 : Int32), vR b79, vI (2 : Int32)]) rfl) ?_
  refine R1 (XS.goto X83.here hx rfl (pc0 := 29) (pc' := 8) rfl (dq (dg dto 16 rfl)) (by decide) (by decide)) ?_
  refine R1 (XS.iload X83.here hx rfl (dq (dg dto 5 rfl)) rfl) ?_
  refine R1 (XS.iloadN X83.here hx rfl (dq (dg dto 6 rfl)) rfl) ?_
  refine R1 (XS.icmpNo X83.here hx rfl (dq (dg dto 7 rfl)) rfl (by decide : if_icmp.holds .ge (2 : Int32) (3 : Int32) = false)) ?_
  refine R1 (XS.aloadN X83.here hx rfl (dq (dg dto 8 rfl)) rfl rfl) ?_
  refine R1 (XS.iload X83.here hx rfl (dq (dg dto 9 rfl)) rfl) ?_
  refine R1 (XS.aloadN X83.here hx rfl (dq (dg dto 10 rfl)) rfl rfl) ?_
  refine R1 (XS.iloadN X83.here hx rfl (dq (dg dto 11 rfl)) rfl) ?_
  show Rch p e below T83 (mkF m 19 #[vR ta, vI (2 : Int32), vI (3 : Int32), vR b79, vI (2 : Int32)] [(.int (2 : Int32)), (.ref ta), (.int (2 : Int32)), (.ref b79)]) _
  refine R0_ (calA X83 hx hZ rfl (M.ext Ex84) ⟨by decide, by decide⟩ (v := (.int c2)) rfl (g := (mkF m 19 #[vR ta, vI (2 : Int32), vI (3 : Int32), vR b79, vI (2 : Int32)] [(.int (2 : Int32)), (.ref ta), (.int (2 : Int32)), (.ref b79)])) rfl rfl (dq (dg dto 12 rfl))) ?_
  show Rch p e below T83 (mkF m 20 #[vR ta, vI (2 : Int32), vI (3 : Int32), vR b79, vI (2 : Int32)] [(.int c2), (.int (2 : Int32)), (.ref b79)]) _
  obtain ⟨_, _, ⟨T85, L85, k85, n85⟩, -, X85, ⟨Lc85, hQ85, l85, y85, z85⟩, st85⟩ := Jvm.LawKit.callS X83 hx (y := mN10) hown (mw hZ hw 243 rfl) (mw hZ hw 244 rfl) (mw hZ hw 152 rfl) (mw hZ hw 245 rfl) (by decide) (backOf (W := 0) (rm_put l Z a0 hw [] b79 kb79 [(.int (StrChars.lo8 c0)), (.int (StrChars.hi8 c0)), (.int (StrChars.lo8 c1)), (.int (StrChars.hi8 c1)), (.int (0 : Int32)), (.int (0 : Int32))] 2 c2 fm T83.heap n0 (Nat.le_trans Z0 Ex84.1) (B.ext Ex84) leb V83 (by first | decide | exact Nat.le_of_ble_eq_true rfl) (by first | decide | exact Nat.le_of_ble_eq_true rfl | rfl)) hZ (wq hw 245 rfl) (wq hw 152 rfl) (by decide) (by decide)) (g := (mkF m 20 #[vR ta, vI (2 : Int32), vI (3 : Int32), vR b79, vI (2 : Int32)] [(.int c2), (.int (2 : Int32)), (.ref b79)])) rfl (by rw [hml]; rfl) (argsL := [(.ref b79), (.int (2 : Int32)), (.int c2)]) (rest := []) (lenOf pd_9 rfl) rfl (w0 rfl) (dq (dg dto 13 rfl)) (fun _ _ => ⟨rfl, rfl, (by decide : 1 + 0 ≤ _), (by decide : 6 + 0 ≤ _)⟩)
  dsimp only [Pt.U, Pt.locs, Pt.cells, Pt.slots] at X85 l85 y85 z85 st85 hQ85
  subst l85 y85 z85
  obtain ⟨rfl, Nq85, K85, V85⟩ := hQ85
  have N85 := Fr.app N83 Nq85
  have Ex86 : Ext h0 T85.heap := extKeep1 Ex84 K85 le79_
  refine R0_ st85 ?_
  show Rch p e below T85 (mkF m 23 #[vR ta, vI (2 : Int32), vI (3 : Int32), vR b79, vI (2 : Int32)] []) _
  refine R1 (XS.iinc X85.here hx rfl (dq (dg dto 14 rfl)) rfl (l' := #[vR ta, vI (3 : Int32), vI (3 : Int32), vR b79, vI (2 : Int32)]) rfl) ?_
  refine R1 (XS.iinc X85.here hx rfl (dq (dg dto 15 rfl)) rfl (l' := #[vR ta, vI (3 : Int32), vI (3 : Int32), vR b79, vI (3 : Int32)]) rfl) ?_
  refine R1 (XS.goto X85.here hx rfl (pc0 := 29) (pc' := 8) rfl (dq (dg dto 16 rfl)) (by decide) (by decide)) ?_
  refine R1 (XS.iload X85.here hx rfl (dq (dg dto 5 rfl)) rfl) ?_
  refine R1 (XS.iloadN X85.here hx rfl (dq (dg dto 6 rfl)) rfl) ?_
  refine R1 (XS.icmpYes X85.here hx rfl (pc0 := 11) (pc' := 32) rfl (dq (dg dto 7 rfl)) rfl (by decide : if_icmp.holds .ge (3 : Int32) (3 : Int32) = true) (by decide) (by decide)) ?_
  refine R1 (XS.aloadN X85.here hx rfl (dq (dg dto 17 rfl)) rfl rfl) ?_
  show Rch p e below T85 (mkF m 33 #[vR ta, vI (3 : Int32), vI (3 : Int32), vR b79, vI (3 : Int32)] [(.ref b79)]) _
  exact Rch.fin (Q := Q_toby3 Z ta ka c0 c1 c2 fm h0 n0) X85 (v := some (.ref b79)) (fun h => by rw [Bd.returns] at h; cases h) (BodyLoose.notSynchronized Bd) (fun fs hr => retR X85 hx Bd.returns rfl rfl (dq (dg dto 18 rfl)) hr) ⟨b79, kb79, rfl, N85, Ex86, le79_, V85⟩ (by decide) (by decide)
def Q_cmp3 (Z : State) (ta tb : Addr) (ka kb : ClassId) (c0 c1 c2 : Int32) (h0 : Heap) (n0 : Nat) (v : Option Value) (h : Heap) (L : List Loc) : Prop := ∃ r, v = some (.int r) ∧ Fr n0 L ∧ Keep h0 h [tb] ∧ ((r = (0 : Int32) ∧ (255 : Int32) < c0) ∨ (r = (1 : Int32) ∧ (255 : Int32) < c1) ∨ (r = (2 : Int32) ∧ (255 : Int32) < c2))
set_option maxRecDepth 65536 in
set_option maxHeartbeats 40000000 in
theorem rm_cmp3 (l : Launch) (Z : State) (a0 : Array Value) (hw : ∀ d ∈ tables_1, d.before a0 Z = true) (ws : List Jvm.Cond) (ta tb : Addr) (ka kb : ClassId) (c0 c1 c2 : Int32) (h0 : Heap) (n0 : Nat) (Z0 : n0 ≤ h0.size) (hthis : n0 ≤ tb) (ne : ta ≠ tb) (M : Arv Z h0 ta ka .char (3 : Int32) [(.int c0), (.int c1), (.int c2)] (.int 0)) (D : Arv Z h0 tb kb .byte (3 : Int32) [(.int (0 : Int32)), (.int (0 : Int32)), (.int (0 : Int32))] (.int 0)) (hbig : (255 : Int32) < c0 ∨ (255 : Int32) < c1 ∨ (255 : Int32) < c2) :
    MetFree l mN14 (head1 (Jvm.Cond.code mN14 jdk_52_method_21_code 7 (some .int) :: ws) rO0) (fun a U => a = #[(.ref ta), (.int (0 : Int32)), (.ref tb), (.int (0 : Int32)), (.int (3 : Int32))] ∧ Z.Warmed39 U.vm ∧ U.heap = h0) (fun _ _ _ _ _ => True) (fun _ U o U' => ∃ v L, o = .returned v ∧ Q_cmp3 Z ta tb ka kb c0 c1 c2 h0 n0 v U'.heap L ∧ FrameEnd U o U' L rO0.cells rO0.slots) := by
  refine MetFree.of_bodySF pn_cmp1 hisR ?_
  intro p e s m args below meth c s₁ Bd hml0 hP hK
  obtain ⟨rfl, hZ, hh⟩ := hP
  have hx := Bd.exec
  have hby := Bd.bytes
  have dq := @hb _ _ hby
  have hml : c.maxLocals = 7 := hml0
  have X0 : Stand p l e rO0 s m #[(.ref ta), (.int (0 : Int32)), (.ref tb), (.int (0 : Int32)), (.int (3 : Int32))] below meth c s₁ [] 0 0 := Stand.of_body Bd
  have e0 : s₁.heap = h0 := by rw [← hh, Bd.state]; rfl
  have N0 := Fr.nil n0
  show Rch p e below s₁ _ _
  refine Rch.cast (ef_cmp1 m ta (0 : Int32) tb (0 : Int32) (3 : Int32)) ?_
  show Rch p e below s₁ (mkF m 0 #[vR ta, vI (0 : Int32), vR tb, vI (0 : Int32), vI (3 : Int32), .unset, .unset] []) _
  refine R1 (XS.iconst X0.here hx rfl (dq (dg dc5 0 rfl)) ) ?_
  refine R1 (XS.istore X0.here hx rfl (dq (dg dc5 1 rfl)) rfl (l' := #[vR ta, vI (0 : Int32), vR tb, vI (0 : Int32), vI (3 : Int32), vI (0 : Int32), .unset]) rfl) ?_
  refine R1 (XS.iload X0.here hx rfl (dq (dg dc5 2 rfl)) rfl) ?_
  refine R1 (XS.iload X0.here hx rfl (dq (dg dc5 3 rfl)) rfl) ?_
  refine R1 (XS.icmpNo X0.here hx rfl (dq (dg dc5 4 rfl)) rfl (by decide : if_icmp.holds .ge (0 : Int32) (3 : Int32) = false)) ?_
  refine R1 (XS.aloadN X0.here hx rfl (dq (dg dc5 5 rfl)) rfl rfl) ?_
  refine R1 (XS.iloadN X0.here hx rfl (dq (dg dc5 6 rfl)) rfl) ?_
  show Rch p e below s₁ (mkF m 12 #[vR ta, vI (0 : Int32), vR tb, vI (0 : Int32), vI (3 : Int32), vI (0 : Int32), .unset] [(.int (0 : Int32)), (.ref ta)]) _
  refine R0_ (calA X0 hx hZ e0 M ⟨by decide, by decide⟩ (v := (.int c0)) rfl (g := (mkF m 12 #[vR ta, vI (0 : Int32), vR tb, vI (0 : Int32), vI (3 : Int32), vI (0 : Int32), .unset] [(.int (0 : Int32)), (.ref ta)])) rfl rfl (dq (dg dc5 7 rfl))) ?_
  show Rch p e below s₁ (mkF m 13 #[vR ta, vI (0 : Int32), vR tb, vI (0 : Int32), vI (3 : Int32), vI (0 : Int32), .unset] [(.int c0)]) _
  refine R1 (XS.istore X0.here hx rfl (dq (dg dc5 8 rfl)) rfl (l' := #[vR ta, vI (0 : Int32), vR tb, vI (0 : Int32), vI (3 : Int32), vI (0 : Int32), vI c0]) rfl) ?_
  refine R1 (XS.iload X0.here hx rfl (dq (dg dc5 9 rfl)) rfl) ?_
  refine R1 (XS.sipush X0.here hx rfl (dq (dg dc5 10 rfl)) ) ?_
  show Rch p e below s₁ (mkF m 20 #[vR ta, vI (0 : Int32), vR tb, vI (0 : Int32), vI (3 : Int32), vI (0 : Int32), vI c0] [(.int (255 : Int32)), (.int c0)]) _
  by_cases hbd0 : (255 : Int32) < c0
  · skip
    refine R1 (XS.icmpNo X0.here hx rfl (dq (dg dc5 11 rfl)) rfl (tlt hbd0).2.2.2) ?_
    refine R1 (XS.iload X0.here hx rfl (dq (dg dc5 12 rfl)) rfl) ?_
    show Rch p e below s₁ (mkF m 25 #[vR ta, vI (0 : Int32), vR tb, vI (0 : Int32), vI (3 : Int32), vI (0 : Int32), vI c0] [(.int (0 : Int32))]) _
    exact Rch.fin (Q := Q_cmp3 Z ta tb ka kb c0 c1 c2 h0 n0) X0 (v := some (.int (0 : Int32))) (fun h => by rw [Bd.returns] at h; cases h) (BodyLoose.notSynchronized Bd) (fun fs hr => retI X0 hx Bd.returns (dq (dg dc5 13 rfl)) hr) (by rw [e0]; exact ⟨(0 : Int32), rfl, N0, (Keep.refl _ _), Or.inl ⟨rfl, hbd0⟩⟩) (by decide) (by decide)
  · skip
    refine R1 (XS.icmpYes X0.here hx rfl (pc0 := 20) (pc' := 26) rfl (dq (dg dc5 11 rfl)) rfl (flt hbd0).2.2.2 (by decide) (by decide)) ?_
    refine R1 (XS.aloadN X0.here hx rfl (dq (dg dc5 14 rfl)) rfl rfl) ?_
    refine R1 (XS.iloadN X0.here hx rfl (dq (dg dc5 15 rfl)) rfl) ?_
    refine R1 (XS.iload X0.here hx rfl (dq (dg dc5 16 rfl)) rfl) ?_
    refine R1 (XT.i2b X0.here hx rfl (dq (dg dc5 17 rfl)) rfl) ?_
    show Rch p e below s₁ (mkF m 31 #[vR ta, vI (0 : Int32), vR tb, vI (0 : Int32), vI (3 : Int32), vI (0 : Int32), vI c0] [(.int (c0.toInt8.toInt32)), (.int (0 : Int32)), (.ref tb)]) _
    obtain ⟨T87, h87, L87, sl87, X87, e87, W87, V87, N87, st87⟩ := stBv X0 hx hZ e0 D N0 hthis (j := (0 : Int32)) ⟨by decide, by decide⟩ 0 rfl (Nat.le_of_ble_eq_true rfl) (g := (mkF m 31 #[vR ta, vI (0 : Int32), vR tb, vI (0 : Int32), vI (3 : Int32), vI (0 : Int32), vI c0] [(.int (c0.toInt8.toInt32)), (.int (0 : Int32)), (.ref tb)])) rfl rfl (dq (dg dc5 18 rfl))
    have D87 : Arv Z h87 tb kb .byte (3 : Int32) [(.int (nar .byte c0.toInt8.toInt32)), (.int (0 : Int32)), (.int (0 : Int32))] (.int 0) := V87
    have M87 := (M).other W87 ne
    have K87 : Keep h0 h87 [tb] := (Keep.refl _ _).wr W87 (Or.inl (List.mem_singleton.mpr rfl))
    refine R0_ st87 ?_
    show Rch p e below T87 (mkF m 32 #[vR ta, vI (0 : Int32), vR tb, vI (0 : Int32), vI (3 : Int32), vI (0 : Int32), vI c0] []) _
    refine R1 (XS.iinc X87.here hx rfl (dq (dg dc5 19 rfl)) rfl (l' := #[vR ta, vI (1 : Int32), vR tb, vI (0 : Int32), vI (3 : Int32), vI (0 : Int32), vI c0]) rfl) ?_
    refine R1 (XS.iinc X87.here hx rfl (dq (dg dc5 20 rfl)) rfl (l' := #[vR ta, vI (1 : Int32), vR tb, vI (1 : Int32), vI (3 : Int32), vI (0 : Int32), vI c0]) rfl) ?_
    refine R1 (XS.iinc X87.here hx rfl (dq (dg dc5 21 rfl)) rfl (l' := #[vR ta, vI (1 : Int32), vR tb, vI (1 : Int32), vI (3 : Int32), vI (1 : Int32), vI c0]) rfl) ?_
    refine R1 (XS.goto X87.here hx rfl (pc0 := 41) (pc' := 3) rfl (dq (dg dc5 22 rfl)) (by decide) (by decide)) ?_
    refine R1 (XS.iload X87.here hx rfl (dq (dg dc5 2 rfl)) rfl) ?_
    refine R1 (XS.iload X87.here hx rfl (dq (dg dc5 3 rfl)) rfl) ?_
    refine R1 (XS.icmpNo X87.here hx rfl (dq (dg dc5 4 rfl)) rfl (by decide : if_icmp.holds .ge (1 : Int32) (3 : Int32) = false)) ?_
    refine R1 (XS.aloadN X87.here hx rfl (dq (dg dc5 5 rfl)) rfl rfl) ?_
    refine R1 (XS.iloadN X87.here hx rfl (dq (dg dc5 6 rfl)) rfl) ?_
    show Rch p e below T87 (mkF m 12 #[vR ta, vI (1 : Int32), vR tb, vI (1 : Int32), vI (3 : Int32), vI (1 : Int32), vI c0] [(.int (1 : Int32)), (.ref ta)]) _
    refine R0_ (calA X87 hx hZ e87 M87 ⟨by decide, by decide⟩ (v := (.int c1)) rfl (g := (mkF m 12 #[vR ta, vI (1 : Int32), vR tb, vI (1 : Int32), vI (3 : Int32), vI (1 : Int32), vI c0] [(.int (1 : Int32)), (.ref ta)])) rfl rfl (dq (dg dc5 7 rfl))) ?_
    show Rch p e below T87 (mkF m 13 #[vR ta, vI (1 : Int32), vR tb, vI (1 : Int32), vI (3 : Int32), vI (1 : Int32), vI c0] [(.int c1)]) _
    refine R1 (XS.istore X87.here hx rfl (dq (dg dc5 8 rfl)) rfl (l' := #[vR ta, vI (1 : Int32), vR tb, vI (1 : Int32), vI (3 : Int32), vI (1 : Int32), vI c1]) rfl) ?_
    refine R1 (XS.iload X87.here hx rfl (dq (dg dc5 9 rfl)) rfl) ?_
    refine R1 (XS.sipush X87.here hx rfl (dq (dg dc5 10 rfl)) ) ?_
    show Rch p e below T87 (mkF m 20 #[vR ta, vI (1 : Int32), vR tb, vI (1 : Int32), vI (3 : Int32), vI (1 : Int32), vI c1] [(.int (255 : Int32)), (.int c1)]) _
    by_cases hbd1 : (255 : Int32) < c1
    · skip
      refine R1 (XS.icmpNo X87.here hx rfl (dq (dg dc5 11 rfl)) rfl (tlt hbd1).2.2.2) ?_
      refine R1 (XS.iload X87.here hx rfl (dq (dg dc5 12 rfl)) rfl) ?_
      show Rch p e below T87 (mkF m 25 #[vR ta, vI (1 : Int32), vR tb, vI (1 : Int32), vI (3 : Int32), vI (1 : Int32), vI c1] [(.int (1 : Int32))]) _
      exact Rch.fin (Q := Q_cmp3 Z ta tb ka kb c0 c1 c2 h0 n0) X87 (v := some (.int (1 : Int32))) (fun h => by rw [Bd.returns] at h; cases h) (BodyLoose.notSynchronized Bd) (fun fs hr => retI X87 hx Bd.returns (dq (dg dc5 13 rfl)) hr) (by rw [e87]; exact ⟨(1 : Int32), rfl, N87, K87, Or.inr (Or.inl ⟨rfl, hbd1⟩)⟩) (by decide) (by decide)
    · skip
      refine R1 (XS.icmpYes X87.here hx rfl (pc0 := 20) (pc' := 26) rfl (dq (dg dc5 11 rfl)) rfl (flt hbd1).2.2.2 (by decide) (by decide)) ?_
      refine R1 (XS.aloadN X87.here hx rfl (dq (dg dc5 14 rfl)) rfl rfl) ?_
      refine R1 (XS.iloadN X87.here hx rfl (dq (dg dc5 15 rfl)) rfl) ?_
      refine R1 (XS.iload X87.here hx rfl (dq (dg dc5 16 rfl)) rfl) ?_
      refine R1 (XT.i2b X87.here hx rfl (dq (dg dc5 17 rfl)) rfl) ?_
      show Rch p e below T87 (mkF m 31 #[vR ta, vI (1 : Int32), vR tb, vI (1 : Int32), vI (3 : Int32), vI (1 : Int32), vI c1] [(.int (c1.toInt8.toInt32)), (.int (1 : Int32)), (.ref tb)]) _
      obtain ⟨T88, h88, L88, sl88, X88, e88, W88, V88, N88, st88⟩ := stBv X87 hx hZ e87 D87 N87 hthis (j := (1 : Int32)) ⟨by decide, by decide⟩ 1 rfl (Nat.le_of_ble_eq_true rfl) (g := (mkF m 31 #[vR ta, vI (1 : Int32), vR tb, vI (1 : Int32), vI (3 : Int32), vI (1 : Int32), vI c1] [(.int (c1.toInt8.toInt32)), (.int (1 : Int32)), (.ref tb)])) rfl rfl (dq (dg dc5 18 rfl))
      have D88 : Arv Z h88 tb kb .byte (3 : Int32) [(.int (nar .byte c0.toInt8.toInt32)), (.int (nar .byte c1.toInt8.toInt32)), (.int (0 : Int32))] (.int 0) := V88
      have M88 := (M87).other W88 ne
      have K88 : Keep h0 h88 [tb] := K87.wr W88 (Or.inl (List.mem_singleton.mpr rfl))
      refine R0_ st88 ?_
      show Rch p e below T88 (mkF m 32 #[vR ta, vI (1 : Int32), vR tb, vI (1 : Int32), vI (3 : Int32), vI (1 : Int32), vI c1] []) _
      refine R1 (XS.iinc X88.here hx rfl (dq (dg dc5 19 rfl)) rfl (l' := #[vR ta, vI (2 : Int32), vR tb, vI (1 : Int32), vI (3 : Int32), vI (1 : Int32), vI c1]) rfl) ?_
      refine R1 (XS.iinc X88.here hx rfl (dq (dg dc5 20 rfl)) rfl (l' := #[vR ta, vI (2 : Int32), vR tb, vI (2 : Int32), vI (3 : Int32), vI (1 : Int32), vI c1]) rfl) ?_
      refine R1 (XS.iinc X88.here hx rfl (dq (dg dc5 21 rfl)) rfl (l' := #[vR ta, vI (2 : Int32), vR tb, vI (2 : Int32), vI (3 : Int32), vI (2 : Int32), vI c1]) rfl) ?_
      refine R1 (XS.goto X88.here hx rfl (pc0 := 41) (pc' := 3) rfl (dq (dg dc5 22 rfl)) (by decide) (by decide)) ?_
      refine R1 (XS.iload X88.here hx rfl (dq (dg dc5 2 rfl)) rfl) ?_
      refine R1 (XS.iload X88.here hx rfl (dq (dg dc5 3 rfl)) rfl) ?_
      refine R1 (XS.icmpNo X88.here hx rfl (dq (dg dc5 4 rfl)) rfl (by decide : if_icmp.holds .ge (2 : Int32) (3 : Int32) = false)) ?_
      refine R1 (XS.aloadN X88.here hx rfl (dq (dg dc5 5 rfl)) rfl rfl) ?_
      refine R1 (XS.iloadN X88.here hx rfl (dq (dg dc5 6 rfl)) rfl) ?_
      show Rch p e below T88 (mkF m 12 #[vR ta, vI (2 : Int32), vR tb, vI (2 : Int32), vI (3 : Int32), vI (2 : Int32), vI c1] [(.int (2 : Int32)), (.ref ta)]) _
      refine R0_ (calA X88 hx hZ e88 M88 ⟨by decide, by decide⟩ (v := (.int c2)) rfl (g := (mkF m 12 #[vR ta, vI (2 : Int32), vR tb, vI (2 : Int32), vI (3 : Int32), vI (2 : Int32), vI c1] [(.int (2 : Int32)), (.ref ta)])) rfl rfl (dq (dg dc5 7 rfl))) ?_
      show Rch p e below T88 (mkF m 13 #[vR ta, vI (2 : Int32), vR tb, vI (2 : Int32), vI (3 : Int32), vI (2 : Int32), vI c1] [(.int c2)]) _
      refine R1 (XS.istore X88.here hx rfl (dq (dg dc5 8 rfl)) rfl (l' := #[vR ta, vI (2 : Int32), vR tb, vI (2 : Int32), vI (3 : Int32), vI (2 : Int32), vI c2]) rfl) ?_
      refine R1 (XS.iload X88.here hx rfl (dq (dg dc5 9 rfl)) rfl) ?_
      refine R1 (XS.sipush X88.here hx rfl (dq (dg dc5 10 rfl)) ) ?_
      show Rch p e below T88 (mkF m 20 #[vR ta, vI (2 : Int32), vR tb, vI (2 : Int32), vI (3 : Int32), vI (2 : Int32), vI c2] [(.int (255 : Int32)), (.int c2)]) _
      by_cases hbd2 : (255 : Int32) < c2
      · skip
        refine R1 (XS.icmpNo X88.here hx rfl (dq (dg dc5 11 rfl)) rfl (tlt hbd2).2.2.2) ?_
        refine R1 (XS.iload X88.here hx rfl (dq (dg dc5 12 rfl)) rfl) ?_
        show Rch p e below T88 (mkF m 25 #[vR ta, vI (2 : Int32), vR tb, vI (2 : Int32), vI (3 : Int32), vI (2 : Int32), vI c2] [(.int (2 : Int32))]) _
        exact Rch.fin (Q := Q_cmp3 Z ta tb ka kb c0 c1 c2 h0 n0) X88 (v := some (.int (2 : Int32))) (fun h => by rw [Bd.returns] at h; cases h) (BodyLoose.notSynchronized Bd) (fun fs hr => retI X88 hx Bd.returns (dq (dg dc5 13 rfl)) hr) (by rw [e88]; exact ⟨(2 : Int32), rfl, N88, K88, Or.inr (Or.inr (⟨rfl, hbd2⟩))⟩) (by decide) (by decide)
      · skip
        refine R1 (XS.icmpYes X88.here hx rfl (pc0 := 20) (pc' := 26) rfl (dq (dg dc5 11 rfl)) rfl (flt hbd2).2.2.2 (by decide) (by decide)) ?_
        refine R1 (XS.aloadN X88.here hx rfl (dq (dg dc5 14 rfl)) rfl rfl) ?_
        refine R1 (XS.iloadN X88.here hx rfl (dq (dg dc5 15 rfl)) rfl) ?_
        refine R1 (XS.iload X88.here hx rfl (dq (dg dc5 16 rfl)) rfl) ?_
        refine R1 (XT.i2b X88.here hx rfl (dq (dg dc5 17 rfl)) rfl) ?_
        show Rch p e below T88 (mkF m 31 #[vR ta, vI (2 : Int32), vR tb, vI (2 : Int32), vI (3 : Int32), vI (2 : Int32), vI c2] [(.int (c2.toInt8.toInt32)), (.int (2 : Int32)), (.ref tb)]) _
        obtain ⟨T89, h89, L89, sl89, X89, e89, W89, V89, N89, st89⟩ := stBv X88 hx hZ e88 D88 N88 hthis (j := (2 : Int32)) ⟨by decide, by decide⟩ 2 rfl (Nat.le_of_ble_eq_true rfl) (g := (mkF m 31 #[vR ta, vI (2 : Int32), vR tb, vI (2 : Int32), vI (3 : Int32), vI (2 : Int32), vI c2] [(.int (c2.toInt8.toInt32)), (.int (2 : Int32)), (.ref tb)])) rfl rfl (dq (dg dc5 18 rfl))
        have D89 : Arv Z h89 tb kb .byte (3 : Int32) [(.int (nar .byte c0.toInt8.toInt32)), (.int (nar .byte c1.toInt8.toInt32)), (.int (nar .byte c2.toInt8.toInt32))] (.int 0) := V89
        have M89 := (M88).other W89 ne
        have K89 : Keep h0 h89 [tb] := K88.wr W89 (Or.inl (List.mem_singleton.mpr rfl))
        refine R0_ st89 ?_
        show Rch p e below T89 (mkF m 32 #[vR ta, vI (2 : Int32), vR tb, vI (2 : Int32), vI (3 : Int32), vI (2 : Int32), vI c2] []) _
        refine R1 (XS.iinc X89.here hx rfl (dq (dg dc5 19 rfl)) rfl (l' := #[vR ta, vI (3 : Int32), vR tb, vI (2 : Int32), vI (3 : Int32), vI (2 : Int32), vI c2]) rfl) ?_
        refine R1 (XS.iinc X89.here hx rfl (dq (dg dc5 20 rfl)) rfl (l' := #[vR ta, vI (3 : Int32), vR tb, vI (3 : Int32), vI (3 : Int32), vI (2 : Int32), vI c2]) rfl) ?_
        refine R1 (XS.iinc X89.here hx rfl (dq (dg dc5 21 rfl)) rfl (l' := #[vR ta, vI (3 : Int32), vR tb, vI (3 : Int32), vI (3 : Int32), vI (3 : Int32), vI c2]) rfl) ?_
        refine R1 (XS.goto X89.here hx rfl (pc0 := 41) (pc' := 3) rfl (dq (dg dc5 22 rfl)) (by decide) (by decide)) ?_
        refine R1 (XS.iload X89.here hx rfl (dq (dg dc5 2 rfl)) rfl) ?_
        refine R1 (XS.iload X89.here hx rfl (dq (dg dc5 3 rfl)) rfl) ?_
        show Rch p e below T89 (mkF m 7 #[vR ta, vI (3 : Int32), vR tb, vI (3 : Int32), vI (3 : Int32), vI (3 : Int32), vI c2] [(.int (3 : Int32)), (.int (3 : Int32))]) _
        exfalso
        rcases hbig with q | q | q
        · exact hbd0 q
        · exact hbd1 q
        · exact hbd2 q
theorem pn_cthr1 : plainFor (⟨"java/lang/StringUTF16", "compress", "([CII)[B"⟩ : MethodName) = true := plainFor_of_name (by first | (simp [plainName, overriddenIn]; done) | decide +kernel)
theorem ef_cthr1 (m : MethodId) (x0 : Addr) (x1 : Int32) (x2 : Int32) : entryFrame m #[(.ref x0), (.int x1), (.int x2)] 6 = mkF m 0 #[vR x0, vI x1, vI x2, .unset, .unset, .unset] [] := by first | (simp [entryFrame, mkF, argsToLocals, Value.category]; done) | rfl
def Q_cthr1 (Z : State) (ta : Addr) (ka : ClassId) (c0 : Int32) (fm : Value) (h0 : Heap) (n0 : Nat) (v : Option Value) (h : Heap) (L : List Loc) : Prop := ∃ b k, v = some (.ref b) ∧ Fr n0 L ∧ Ext h0 h ∧ h0.size ≤ b ∧ Arv Z h b k .byte (2 : Int32) (StrChars.Road.wideBytes [c0]) (.int 0)
set_option maxRecDepth 65536 in
set_option maxHeartbeats 40000000 in
theorem rm_cthr1 (l : Launch) (Z : State) (a0 : Array Value) (hw : ∀ d ∈ tables_1, d.before a0 Z = true) (ws : List Jvm.Cond) (ta : Addr) (ka : ClassId) (c0 : Int32) (fm : Value) (h0 : Heap) (n0 : Nat) (Z0 : n0 ≤ h0.size) (B : Bg Z h0 fm) (M : Arv Z h0 ta ka .char (1 : Int32) [(.int c0)] (.int 0)) (hbd : ∀ c ∈ ([c0] : List Int32), ¬ c < 0 ∧ ¬ (65535 : Int32) < c) (hbig : (255 : Int32) < c0) :
    MetFree l mN15 (head1 (Jvm.Cond.code mN15 jdk_52_method_16_code 6 (some (.array .byte)) :: ws) rO13) (fun a U => a = #[(.ref ta), (.int (0 : Int32)), (.int (1 : Int32))] ∧ Z.Warmed39 U.vm ∧ U.heap = h0) (fun _ _ _ _ _ => True) (fun _ U o U' => ∃ v L, o = .returned v ∧ Q_cthr1 Z ta ka c0 fm h0 n0 v U'.heap L ∧ FrameEnd U o U' L rO13.cells rO13.slots) := by
  refine MetFree.of_bodySF pn_cthr1 hisR ?_
  intro p e s m args below meth c s₁ Bd hml0 hP hK
  obtain ⟨rfl, hZ, hh⟩ := hP
  have hx := Bd.exec
  have hby := Bd.bytes
  have dq := @hb _ _ hby
  have hml : c.maxLocals = 6 := hml0
  have hown : s.vm.findClass "java/lang/StringUTF16" = some m.cls := findClass_of_methodNamed Bd.named
  have X0 : Stand p l e rO13 s m #[(.ref ta), (.int (0 : Int32)), (.int (1 : Int32))] below meth c s₁ [] 0 0 := Stand.of_body Bd
  have e0 : s₁.heap = h0 := by rw [← hh, Bd.state]; rfl
  have N0 := Fr.nil n0
  show Rch p e below s₁ _ _
  refine Rch.cast (ef_cthr1 m ta (0 : Int32) (1 : Int32)) ?_
  show Rch p e below s₁ (mkF m 0 #[vR ta, vI (0 : Int32), vI (1 : Int32), .unset, .unset, .unset] []) _
  refine R1 (XS.iloadN X0.here hx rfl (dq (dg dc3 0 rfl)) rfl) ?_
  show Rch p e below s₁ (mkF m 1 #[vR ta, vI (0 : Int32), vI (1 : Int32), .unset, .unset, .unset] [(.int (1 : Int32))]) _
  obtain ⟨T41, h41, k41, X41, e41, E41, A41, st41⟩ := newP X0 hx hZ (wq hw 20 rfl) e0 (g := (mkF m 1 #[vR ta, vI (0 : Int32), vI (1 : Int32), .unset, .unset, .unset] [(.int (1 : Int32))])) rfl (dq (dg dc3 1 rfl)) rfl (by decide : ¬ ((1 : Int32) < (0 : Int32))) (cap := 1) (by decide : ((1 : Int32)).toNatClampNeg ≤ 1) (by decide) (by decide) (by decide)
  obtain ⟨a41, g41⟩ : ∃ z, z = h0.size := ⟨_, rfl⟩
  rw [← g41] at A41 st41
  have Ex42 : Ext h0 h41 := E41
  have le43 : h0.size ≤ a41 := Nat.le_of_eq g41.symm
  refine R0_ st41 ?_
  show Rch p e below T41 (mkF m 3 #[vR ta, vI (0 : Int32), vI (1 : Int32), .unset, .unset, .unset] [(.ref a41)]) _
  have V41 : Arv Z h41 a41 k41 .byte (1 : Int32) [(.int (0 : Int32))] (.int (0 : Int32)) := (Arv.new A41 (by decide : ¬ ((1 : Int32) < (0 : Int32)))).pad (pad_rep [] (.int (0 : Int32)) 1)
  refine R1 (XS.astoreN X41.here hx rfl (dq (dg dc3 2 rfl)) rfl rfl (l' := #[vR ta, vI (0 : Int32), vI (1 : Int32), vR a41, .unset, .unset]) rfl) ?_
  refine R1 (XS.aloadN X41.here hx rfl (dq (dg dc3 3 rfl)) rfl rfl) ?_
  refine R1 (XS.iloadN X41.here hx rfl (dq (dg dc3 4 rfl)) rfl) ?_
  refine R1 (XS.aloadN X41.here hx rfl (dq (dg dc3 5 rfl)) rfl rfl) ?_
  refine R1 (XS.iconst X41.here hx rfl (dq (dg dc3 6 rfl)) ) ?_
  refine R1 (XS.iloadN X41.here hx rfl (dq (dg dc3 7 rfl)) rfl) ?_
  show Rch p e below T41 (mkF m 9 #[vR ta, vI (0 : Int32), vI (1 : Int32), vR a41, .unset, .unset] [(.int (1 : Int32)), (.int (0 : Int32)), (.ref a41), (.int (0 : Int32)), (.ref ta)]) _
  have ned : ta ≠ a41 := Nat.ne_of_lt (Nat.lt_of_lt_of_le M.lt le43)
  obtain ⟨_, _, ⟨T44, L44, k44, n44⟩, -, X44, ⟨Lc44, hQ44, l44, y44, z44⟩, st44⟩ := Jvm.LawKit.callS X41 hx (y := mN14) hown (mw hZ hw 154 rfl) (mw hZ hw 155 rfl) (mw hZ hw 152 rfl) (mw hZ hw 156 rfl) (by decide) (backOf (W := 0) (rm_cmp1 l Z a0 hw [] ta a41 ka k41 c0 h41 n0 (Nat.le_trans Z0 Ex42.1) (Nat.le_trans Z0 le43) ned (M.ext Ex42) V41 hbig) hZ (wq hw 156 rfl) (wq hw 152 rfl) (by decide) (by decide)) (g := (mkF m 9 #[vR ta, vI (0 : Int32), vI (1 : Int32), vR a41, .unset, .unset] [(.int (1 : Int32)), (.int (0 : Int32)), (.ref a41), (.int (0 : Int32)), (.ref ta)])) rfl (by rw [hml]; rfl) (argsL := [(.ref ta), (.int (0 : Int32)), (.ref a41), (.int (0 : Int32)), (.int (1 : Int32))]) (rest := []) (lenOf pd_10 rfl) rfl (w0 rfl) (dq (dg dc3 8 rfl)) (fun _ _ => ⟨rfl, e41, (by decide : 1 + 0 ≤ _), (by decide : 1 + 0 ≤ _)⟩)
  dsimp only [Pt.U, Pt.locs, Pt.cells, Pt.slots] at X44 l44 y44 z44 st44 hQ44
  subst l44 y44 z44
  obtain ⟨r44, rfl, Nq44, K44, hr44⟩ := hQ44
  have N44 := Fr.app N0 Nq44
  have Ex45 : Ext h0 T44.heap := extKeep1 Ex42 K44 le43
  refine R0_ st44 ?_
  show Rch p e below T44 (mkF m 12 #[vR ta, vI (0 : Int32), vI (1 : Int32), vR a41, .unset, .unset] [(.int r44)]) _
  obtain ⟨rfl, hc⟩ := hr44
  show Rch p e below T44 (mkF m 12 #[vR ta, vI (0 : Int32), vI (1 : Int32), vR a41, .unset, .unset] [(.int (0 : Int32))]) _
  refine R1 (XS.istore X44.here hx rfl (dq (dg dc3 9 rfl)) rfl (l' := #[vR ta, vI (0 : Int32), vI (1 : Int32), vR a41, vI (0 : Int32), .unset]) rfl) ?_
  refine R1 (XS.iload X44.here hx rfl (dq (dg dc3 10 rfl)) rfl) ?_
  refine R1 (XS.iloadN X44.here hx rfl (dq (dg dc3 11 rfl)) rfl) ?_
  refine R1 (XS.icmpNo X44.here hx rfl (dq (dg dc3 12 rfl)) rfl (by decide : if_icmp.holds .eq (0 : Int32) (1 : Int32) = false)) ?_
  refine R1 (XS.aloadN X44.here hx rfl (dq (dg dc3 13 rfl)) rfl rfl) ?_
  refine R1 (XS.iloadN X44.here hx rfl (dq (dg dc3 14 rfl)) rfl) ?_
  refine R1 (XS.iloadN X44.here hx rfl (dq (dg dc3 15 rfl)) rfl) ?_
  show Rch p e below T44 (mkF m 23 #[vR ta, vI (0 : Int32), vI (1 : Int32), vR a41, vI (0 : Int32), .unset] [(.int (1 : Int32)), (.int (0 : Int32)), (.ref ta)]) _
  obtain ⟨_, _, ⟨T46, L46, k46, n46⟩, -, X46, ⟨Lc46, hQ46, l46, y46, z46⟩, st46⟩ := Jvm.LawKit.callS X44 hx (y := mN13) hown (mw hZ hw 233 rfl) (mw hZ hw 234 rfl) (mw hZ hw 152 rfl) (mw hZ hw 235 rfl) (by decide) (backOf (W := 0) (rm_toby1 l Z a0 hw [] ta ka c0 fm T44.heap n0 (Nat.le_trans Z0 Ex45.1) (B.ext Ex45) (M.ext Ex45)) hZ (wq hw 235 rfl) (wq hw 152 rfl) (by decide) (by decide)) (g := (mkF m 23 #[vR ta, vI (0 : Int32), vI (1 : Int32), vR a41, vI (0 : Int32), .unset] [(.int (1 : Int32)), (.int (0 : Int32)), (.ref ta)])) rfl (by rw [hml]; rfl) (argsL := [(.ref ta), (.int (0 : Int32)), (.int (1 : Int32))]) (rest := []) (lenOf pd_11 rfl) rfl (w0 rfl) (dq (dg dc3 16 rfl)) (fun _ _ => ⟨rfl, rfl, (by decide : 1 + 1 ≤ _), (by decide : 1 + 2 ≤ _)⟩)
  dsimp only [Pt.U, Pt.locs, Pt.cells, Pt.slots] at X46 l46 y46 z46 st46 hQ46
  subst l46 y46 z46
  obtain ⟨b46, kb46, rfl, Nq46, E46, le46_, V46⟩ := hQ46
  have N46 := Fr.app N44 Nq46
  have Ex47 : Ext h0 T46.heap := Ex45.tr E46
  refine R0_ st46 ?_
  show Rch p e below T46 (mkF m 26 #[vR ta, vI (0 : Int32), vI (1 : Int32), vR a41, vI (0 : Int32), .unset] [(.ref b46)]) _
  refine R1 (XS.astore X46.here hx rfl (dq (dg dc3 17 rfl)) rfl rfl (l' := #[vR ta, vI (0 : Int32), vI (1 : Int32), vR a41, vI (0 : Int32), vR b46]) rfl) ?_
  refine R1 (XS.aload X46.here hx rfl (dq (dg dc3 18 rfl)) rfl rfl) ?_
  refine R1 (XS.iload X46.here hx rfl (dq (dg dc3 19 rfl)) rfl) ?_
  show Rch p e below T46 (mkF m 32 #[vR ta, vI (0 : Int32), vI (1 : Int32), vR a41, vI (0 : Int32), vR b46] [(.int (0 : Int32)), (.ref b46)]) _
  obtain ⟨_, _, ⟨T49, L49, k49, n49⟩, -, X49, ⟨Lc49, hQ49, l49, y49, z49⟩, st49⟩ := Jvm.LawKit.callS X46 hx (y := mN4) hown (mw hZ hw 249 rfl) (mw hZ hw 250 rfl) (mw hZ hw 152 rfl) (mw hZ hw 251 rfl) (by decide) (backOf (W := 0) (rm_getc l Z a0 hw [] b46 kb46 [c0] 0 fm T46.heap n0 (Nat.le_trans Z0 Ex47.1) (B.ext Ex47) hbd V46 (Nat.le_of_ble_eq_true rfl) (Nat.le_of_ble_eq_true rfl)) hZ (wq hw 251 rfl) (wq hw 152 rfl) (by decide) (by decide)) (g := (mkF m 32 #[vR ta, vI (0 : Int32), vI (1 : Int32), vR a41, vI (0 : Int32), vR b46] [(.int (0 : Int32)), (.ref b46)])) rfl (by rw [hml]; rfl) (argsL := [(.ref b46), (.int (0 : Int32))]) (rest := []) (lenOf pd_4 rfl) rfl (w0 rfl) (dq (dg dc3 20 rfl)) (fun _ _ => ⟨rfl, rfl, (by decide : 2 + 0 ≤ _), (by decide : 3 + 0 ≤ _)⟩)
  dsimp only [Pt.U, Pt.locs, Pt.cells, Pt.slots] at X49 l49 y49 z49 st49 hQ49
  subst l49 y49 z49
  obtain ⟨rfl, Nq49, e49⟩ := hQ49
  have N49 := Fr.app N46 Nq49
  refine R0_ st49 ?_
  show Rch p e below T49 (mkF m 35 #[vR ta, vI (0 : Int32), vI (1 : Int32), vR a41, vI (0 : Int32), vR b46] [(.int c0)]) _
  refine R1 (XS.sipush X49.here hx rfl (dq (dg dc3 21 rfl)) ) ?_
  refine R1 (XS.icmpYes X49.here hx rfl (pc0 := 38) (pc' := 54) rfl (dq (dg dc3 22 rfl)) rfl (tlt hc).2.2.1 (by decide) (by decide)) ?_
  refine R1 (XS.aload X49.here hx rfl (dq (dg dc3 23 rfl)) rfl rfl) ?_
  show Rch p e below T49 (mkF m 56 #[vR ta, vI (0 : Int32), vI (1 : Int32), vR a41, vI (0 : Int32), vR b46] [(.ref b46)]) _
  exact Rch.fin (Q := Q_cthr1 Z ta ka c0 fm h0 n0) X49 (v := some (.ref b46)) (fun h => by rw [Bd.returns] at h; cases h) (BodyLoose.notSynchronized Bd) (fun fs hr => retR X49 hx Bd.returns rfl rfl (dq (dg dc3 24 rfl)) hr) (by rw [e49]; exact ⟨b46, kb46, rfl, N49, Ex47, Nat.le_trans Ex45.1 le46_, V46⟩) (by decide) (by decide)
def Q_cthr2 (Z : State) (ta : Addr) (ka : ClassId) (c0 c1 : Int32) (fm : Value) (h0 : Heap) (n0 : Nat) (v : Option Value) (h : Heap) (L : List Loc) : Prop := ∃ b k, v = some (.ref b) ∧ Fr n0 L ∧ Ext h0 h ∧ h0.size ≤ b ∧ Arv Z h b k .byte (4 : Int32) (StrChars.Road.wideBytes [c0, c1]) (.int 0)
set_option maxRecDepth 65536 in
set_option maxHeartbeats 40000000 in
theorem rm_cthr2 (l : Launch) (Z : State) (a0 : Array Value) (hw : ∀ d ∈ tables_1, d.before a0 Z = true) (ws : List Jvm.Cond) (ta : Addr) (ka : ClassId) (c0 c1 : Int32) (fm : Value) (h0 : Heap) (n0 : Nat) (Z0 : n0 ≤ h0.size) (B : Bg Z h0 fm) (M : Arv Z h0 ta ka .char (2 : Int32) [(.int c0), (.int c1)] (.int 0)) (hbd : ∀ c ∈ ([c0, c1] : List Int32), ¬ c < 0 ∧ ¬ (65535 : Int32) < c) (hbig : (255 : Int32) < c0 ∨ (255 : Int32) < c1) :
    MetFree l mN15 (head1 (Jvm.Cond.code mN15 jdk_52_method_16_code 6 (some (.array .byte)) :: ws) rO13) (fun a U => a = #[(.ref ta), (.int (0 : Int32)), (.int (2 : Int32))] ∧ Z.Warmed39 U.vm ∧ U.heap = h0) (fun _ _ _ _ _ => True) (fun _ U o U' => ∃ v L, o = .returned v ∧ Q_cthr2 Z ta ka c0 c1 fm h0 n0 v U'.heap L ∧ FrameEnd U o U' L rO13.cells rO13.slots) := by
  refine MetFree.of_bodySF pn_cthr1 hisR ?_
  intro p e s m args below meth c s₁ Bd hml0 hP hK
  obtain ⟨rfl, hZ, hh⟩ := hP
  have hx := Bd.exec
  have hby := Bd.bytes
  have dq := @hb _ _ hby
  have hml : c.maxLocals = 6 := hml0
  have hown : s.vm.findClass "java/lang/StringUTF16" = some m.cls := findClass_of_methodNamed Bd.named
  have X0 : Stand p l e rO13 s m #[(.ref ta), (.int (0 : Int32)), (.int (2 : Int32))] below meth c s₁ [] 0 0 := Stand.of_body Bd
  have e0 : s₁.heap = h0 := by rw [← hh, Bd.state]; rfl
  have N0 := Fr.nil n0
  show Rch p e below s₁ _ _
  refine Rch.cast (ef_cthr1 m ta (0 : Int32) (2 : Int32)) ?_
  show Rch p e below s₁ (mkF m 0 #[vR ta, vI (0 : Int32), vI (2 : Int32), .unset, .unset, .unset] []) _
  refine R1 (XS.iloadN X0.here hx rfl (dq (dg dc3 0 rfl)) rfl) ?_
  show Rch p e below s₁ (mkF m 1 #[vR ta, vI (0 : Int32), vI (2 : Int32), .unset, .unset, .unset] [(.int (2 : Int32))]) _
  obtain ⟨T62, h62, k62, X62, e62, E62, A62, st62⟩ := newP X0 hx hZ (wq hw 20 rfl) e0 (g := (mkF m 1 #[vR ta, vI (0 : Int32), vI (2 : Int32), .unset, .unset, .unset] [(.int (2 : Int32))])) rfl (dq (dg dc3 1 rfl)) rfl (by decide : ¬ ((2 : Int32) < (0 : Int32))) (cap := 2) (by decide : ((2 : Int32)).toNatClampNeg ≤ 2) (by decide) (by decide) (by decide)
  obtain ⟨a62, g62⟩ : ∃ z, z = h0.size := ⟨_, rfl⟩
  rw [← g62] at A62 st62
  have Ex63 : Ext h0 h62 := E62
  have le64 : h0.size ≤ a62 := Nat.le_of_eq g62.symm
  refine R0_ st62 ?_
  show Rch p e below T62 (mkF m 3 #[vR ta, vI (0 : Int32), vI (2 : Int32), .unset, .unset, .unset] [(.ref a62)]) _
  have V62 : Arv Z h62 a62 k62 .byte (2 : Int32) [(.int (0 : Int32)), (.int (0 : Int32))] (.int (0 : Int32)) := (Arv.new A62 (by decide : ¬ ((2 : Int32) < (0 : Int32)))).pad (pad_rep [] (.int (0 : Int32)) 2)
  refine R1 (XS.astoreN X62.here hx rfl (dq (dg dc3 2 rfl)) rfl rfl (l' := #[vR ta, vI (0 : Int32), vI (2 : Int32), vR a62, .unset, .unset]) rfl) ?_
  refine R1 (XS.aloadN X62.here hx rfl (dq (dg dc3 3 rfl)) rfl rfl) ?_
  refine R1 (XS.iloadN X62.here hx rfl (dq (dg dc3 4 rfl)) rfl) ?_
  refine R1 (XS.aloadN X62.here hx rfl (dq (dg dc3 5 rfl)) rfl rfl) ?_
  refine R1 (XS.iconst X62.here hx rfl (dq (dg dc3 6 rfl)) ) ?_
  refine R1 (XS.iloadN X62.here hx rfl (dq (dg dc3 7 rfl)) rfl) ?_
  show Rch p e below T62 (mkF m 9 #[vR ta, vI (0 : Int32), vI (2 : Int32), vR a62, .unset, .unset] [(.int (2 : Int32)), (.int (0 : Int32)), (.ref a62), (.int (0 : Int32)), (.ref ta)]) _
  have ned : ta ≠ a62 := Nat.ne_of_lt (Nat.lt_of_lt_of_le M.lt le64)
  obtain ⟨_, _, ⟨T65, L65, k65, n65⟩, -, X65, ⟨Lc65, hQ65, l65, y65, z65⟩, st65⟩ := Jvm.LawKit.callS X62 hx (y := mN14) hown (mw hZ hw 154 rfl) (mw hZ hw 155 rfl) (mw hZ hw 152 rfl) (mw hZ hw 156 rfl) (by decide) (backOf (W := 0) (rm_cmp2 l Z a0 hw [] ta a62 ka k62 c0 c1 h62 n0 (Nat.le_trans Z0 Ex63.1) (Nat.le_trans Z0 le64) ned (M.ext Ex63) V62 hbig) hZ (wq hw 156 rfl) (wq hw 152 rfl) (by decide) (by decide)) (g := (mkF m 9 #[vR ta, vI (0 : Int32), vI (2 : Int32), vR a62, .unset, .unset] [(.int (2 : Int32)), (.int (0 : Int32)), (.ref a62), (.int (0 : Int32)), (.ref ta)])) rfl (by rw [hml]; rfl) (argsL := [(.ref ta), (.int (0 : Int32)), (.ref a62), (.int (0 : Int32)), (.int (2 : Int32))]) (rest := []) (lenOf pd_10 rfl) rfl (w0 rfl) (dq (dg dc3 8 rfl)) (fun _ _ => ⟨rfl, e62, (by decide : 1 + 0 ≤ _), (by decide : 2 + 0 ≤ _)⟩)
  dsimp only [Pt.U, Pt.locs, Pt.cells, Pt.slots] at X65 l65 y65 z65 st65 hQ65
  subst l65 y65 z65
  obtain ⟨r65, rfl, Nq65, K65, hr65⟩ := hQ65
  have N65 := Fr.app N0 Nq65
  have Ex66 : Ext h0 T65.heap := extKeep1 Ex63 K65 le64
  refine R0_ st65 ?_
  show Rch p e below T65 (mkF m 12 #[vR ta, vI (0 : Int32), vI (2 : Int32), vR a62, .unset, .unset] [(.int r65)]) _
  rcases hr65 with ⟨rfl, hc⟩ | ⟨rfl, hc⟩
  · skip
    show Rch p e below T65 (mkF m 12 #[vR ta, vI (0 : Int32), vI (2 : Int32), vR a62, .unset, .unset] [(.int (0 : Int32))]) _
    refine R1 (XS.istore X65.here hx rfl (dq (dg dc3 9 rfl)) rfl (l' := #[vR ta, vI (0 : Int32), vI (2 : Int32), vR a62, vI (0 : Int32), .unset]) rfl) ?_
    refine R1 (XS.iload X65.here hx rfl (dq (dg dc3 10 rfl)) rfl) ?_
    refine R1 (XS.iloadN X65.here hx rfl (dq (dg dc3 11 rfl)) rfl) ?_
    refine R1 (XS.icmpNo X65.here hx rfl (dq (dg dc3 12 rfl)) rfl (by decide : if_icmp.holds .eq (0 : Int32) (2 : Int32) = false)) ?_
    refine R1 (XS.aloadN X65.here hx rfl (dq (dg dc3 13 rfl)) rfl rfl) ?_
    refine R1 (XS.iloadN X65.here hx rfl (dq (dg dc3 14 rfl)) rfl) ?_
    refine R1 (XS.iloadN X65.here hx rfl (dq (dg dc3 15 rfl)) rfl) ?_
    show Rch p e below T65 (mkF m 23 #[vR ta, vI (0 : Int32), vI (2 : Int32), vR a62, vI (0 : Int32), .unset] [(.int (2 : Int32)), (.int (0 : Int32)), (.ref ta)]) _
    obtain ⟨_, _, ⟨T67, L67, k67, n67⟩, -, X67, ⟨Lc67, hQ67, l67, y67, z67⟩, st67⟩ := Jvm.LawKit.callS X65 hx (y := mN13) hown (mw hZ hw 233 rfl) (mw hZ hw 234 rfl) (mw hZ hw 152 rfl) (mw hZ hw 235 rfl) (by decide) (backOf (W := 0) (rm_toby2 l Z a0 hw [] ta ka c0 c1 fm T65.heap n0 (Nat.le_trans Z0 Ex66.1) (B.ext Ex66) (M.ext Ex66)) hZ (wq hw 235 rfl) (wq hw 152 rfl) (by decide) (by decide)) (g := (mkF m 23 #[vR ta, vI (0 : Int32), vI (2 : Int32), vR a62, vI (0 : Int32), .unset] [(.int (2 : Int32)), (.int (0 : Int32)), (.ref ta)])) rfl (by rw [hml]; rfl) (argsL := [(.ref ta), (.int (0 : Int32)), (.int (2 : Int32))]) (rest := []) (lenOf pd_11 rfl) rfl (w0 rfl) (dq (dg dc3 16 rfl)) (fun _ _ => ⟨rfl, rfl, (by decide : 1 + 1 ≤ _), (by decide : 2 + 4 ≤ _)⟩)
    dsimp only [Pt.U, Pt.locs, Pt.cells, Pt.slots] at X67 l67 y67 z67 st67 hQ67
    subst l67 y67 z67
    obtain ⟨b67, kb67, rfl, Nq67, E67, le67_, V67⟩ := hQ67
    have N67 := Fr.app N65 Nq67
    have Ex68 : Ext h0 T67.heap := Ex66.tr E67
    refine R0_ st67 ?_
    show Rch p e below T67 (mkF m 26 #[vR ta, vI (0 : Int32), vI (2 : Int32), vR a62, vI (0 : Int32), .unset] [(.ref b67)]) _
    refine R1 (XS.astore X67.here hx rfl (dq (dg dc3 17 rfl)) rfl rfl (l' := #[vR ta, vI (0 : Int32), vI (2 : Int32), vR a62, vI (0 : Int32), vR b67]) rfl) ?_
    refine R1 (XS.aload X67.here hx rfl (dq (dg dc3 18 rfl)) rfl rfl) ?_
    refine R1 (XS.iload X67.here hx rfl (dq (dg dc3 19 rfl)) rfl) ?_
    show Rch p e below T67 (mkF m 32 #[vR ta, vI (0 : Int32), vI (2 : Int32), vR a62, vI (0 : Int32), vR b67] [(.int (0 : Int32)), (.ref b67)]) _
    obtain ⟨_, _, ⟨T70, L70, k70, n70⟩, -, X70, ⟨Lc70, hQ70, l70, y70, z70⟩, st70⟩ := Jvm.LawKit.callS X67 hx (y := mN4) hown (mw hZ hw 249 rfl) (mw hZ hw 250 rfl) (mw hZ hw 152 rfl) (mw hZ hw 251 rfl) (by decide) (backOf (W := 0) (rm_getc l Z a0 hw [] b67 kb67 [c0, c1] 0 fm T67.heap n0 (Nat.le_trans Z0 Ex68.1) (B.ext Ex68) hbd V67 (Nat.le_of_ble_eq_true rfl) (Nat.le_of_ble_eq_true rfl)) hZ (wq hw 251 rfl) (wq hw 152 rfl) (by decide) (by decide)) (g := (mkF m 32 #[vR ta, vI (0 : Int32), vI (2 : Int32), vR a62, vI (0 : Int32), vR b67] [(.int (0 : Int32)), (.ref b67)])) rfl (by rw [hml]; rfl) (argsL := [(.ref b67), (.int (0 : Int32))]) (rest := []) (lenOf pd_4 rfl) rfl (w0 rfl) (dq (dg dc3 20 rfl)) (fun _ _ => ⟨rfl, rfl, (by decide : 2 + 0 ≤ _), (by decide : 6 + 0 ≤ _)⟩)
    dsimp only [Pt.U, Pt.locs, Pt.cells, Pt.slots] at X70 l70 y70 z70 st70 hQ70
    subst l70 y70 z70
    obtain ⟨rfl, Nq70, e70⟩ := hQ70
    have N70 := Fr.app N67 Nq70
    refine R0_ st70 ?_
    show Rch p e below T70 (mkF m 35 #[vR ta, vI (0 : Int32), vI (2 : Int32), vR a62, vI (0 : Int32), vR b67] [(.int c0)]) _
    refine R1 (XS.sipush X70.here hx rfl (dq (dg dc3 21 rfl)) ) ?_
    refine R1 (XS.icmpYes X70.here hx rfl (pc0 := 38) (pc' := 54) rfl (dq (dg dc3 22 rfl)) rfl (tlt hc).2.2.1 (by decide) (by decide)) ?_
    refine R1 (XS.aload X70.here hx rfl (dq (dg dc3 23 rfl)) rfl rfl) ?_
    show Rch p e below T70 (mkF m 56 #[vR ta, vI (0 : Int32), vI (2 : Int32), vR a62, vI (0 : Int32), vR b67] [(.ref b67)]) _
    exact Rch.fin (Q := Q_cthr2 Z ta ka c0 c1 fm h0 n0) X70 (v := some (.ref b67)) (fun h => by rw [Bd.returns] at h; cases h) (BodyLoose.notSynchronized Bd) (fun fs hr => retR X70 hx Bd.returns rfl rfl (dq (dg dc3 24 rfl)) hr) (by rw [e70]; exact ⟨b67, kb67, rfl, N70, Ex68, Nat.le_trans Ex66.1 le67_, V67⟩) (by decide) (by decide)
  · skip
    show Rch p e below T65 (mkF m 12 #[vR ta, vI (0 : Int32), vI (2 : Int32), vR a62, .unset, .unset] [(.int (1 : Int32))]) _
    refine R1 (XS.istore X65.here hx rfl (dq (dg dc3 9 rfl)) rfl (l' := #[vR ta, vI (0 : Int32), vI (2 : Int32), vR a62, vI (1 : Int32), .unset]) rfl) ?_
    refine R1 (XS.iload X65.here hx rfl (dq (dg dc3 10 rfl)) rfl) ?_
    refine R1 (XS.iloadN X65.here hx rfl (dq (dg dc3 11 rfl)) rfl) ?_
    refine R1 (XS.icmpNo X65.here hx rfl (dq (dg dc3 12 rfl)) rfl (by decide : if_icmp.holds .eq (1 : Int32) (2 : Int32) = false)) ?_
    refine R1 (XS.aloadN X65.here hx rfl (dq (dg dc3 13 rfl)) rfl rfl) ?_
    refine R1 (XS.iloadN X65.here hx rfl (dq (dg dc3 14 rfl)) rfl) ?_
    refine R1 (XS.iloadN X65.here hx rfl (dq (dg dc3 15 rfl)) rfl) ?_
    show Rch p e below T65 (mkF m 23 #[vR ta, vI (0 : Int32), vI (2 : Int32), vR a62, vI (1 : Int32), .unset] [(.int (2 : Int32)), (.int (0 : Int32)), (.ref ta)]) _
    obtain ⟨_, _, ⟨T71, L71, k71, n71⟩, -, X71, ⟨Lc71, hQ71, l71, y71, z71⟩, st71⟩ := Jvm.LawKit.callS X65 hx (y := mN13) hown (mw hZ hw 233 rfl) (mw hZ hw 234 rfl) (mw hZ hw 152 rfl) (mw hZ hw 235 rfl) (by decide) (backOf (W := 0) (rm_toby2 l Z a0 hw [] ta ka c0 c1 fm T65.heap n0 (Nat.le_trans Z0 Ex66.1) (B.ext Ex66) (M.ext Ex66)) hZ (wq hw 235 rfl) (wq hw 152 rfl) (by decide) (by decide)) (g := (mkF m 23 #[vR ta, vI (0 : Int32), vI (2 : Int32), vR a62, vI (1 : Int32), .unset] [(.int (2 : Int32)), (.int (0 : Int32)), (.ref ta)])) rfl (by rw [hml]; rfl) (argsL := [(.ref ta), (.int (0 : Int32)), (.int (2 : Int32))]) (rest := []) (lenOf pd_11 rfl) rfl (w0 rfl) (dq (dg dc3 16 rfl)) (fun _ _ => ⟨rfl, rfl, (by decide : 1 + 1 ≤ _), (by decide : 2 + 4 ≤ _)⟩)
    dsimp only [Pt.U, Pt.locs, Pt.cells, Pt.slots] at X71 l71 y71 z71 st71 hQ71
    subst l71 y71 z71
    obtain ⟨b71, kb71, rfl, Nq71, E71, le71_, V71⟩ := hQ71
    have N71 := Fr.app N65 Nq71
    have Ex72 : Ext h0 T71.heap := Ex66.tr E71
    refine R0_ st71 ?_
    show Rch p e below T71 (mkF m 26 #[vR ta, vI (0 : Int32), vI (2 : Int32), vR a62, vI (1 : Int32), .unset] [(.ref b71)]) _
    refine R1 (XS.astore X71.here hx rfl (dq (dg dc3 17 rfl)) rfl rfl (l' := #[vR ta, vI (0 : Int32), vI (2 : Int32), vR a62, vI (1 : Int32), vR b71]) rfl) ?_
    refine R1 (XS.aload X71.here hx rfl (dq (dg dc3 18 rfl)) rfl rfl) ?_
    refine R1 (XS.iload X71.here hx rfl (dq (dg dc3 19 rfl)) rfl) ?_
    show Rch p e below T71 (mkF m 32 #[vR ta, vI (0 : Int32), vI (2 : Int32), vR a62, vI (1 : Int32), vR b71] [(.int (1 : Int32)), (.ref b71)]) _
    obtain ⟨_, _, ⟨T74, L74, k74, n74⟩, -, X74, ⟨Lc74, hQ74, l74, y74, z74⟩, st74⟩ := Jvm.LawKit.callS X71 hx (y := mN4) hown (mw hZ hw 249 rfl) (mw hZ hw 250 rfl) (mw hZ hw 152 rfl) (mw hZ hw 251 rfl) (by decide) (backOf (W := 0) (rm_getc l Z a0 hw [] b71 kb71 [c0, c1] 1 fm T71.heap n0 (Nat.le_trans Z0 Ex72.1) (B.ext Ex72) hbd V71 (Nat.le_of_ble_eq_true rfl) (Nat.le_of_ble_eq_true rfl)) hZ (wq hw 251 rfl) (wq hw 152 rfl) (by decide) (by decide)) (g := (mkF m 32 #[vR ta, vI (0 : Int32), vI (2 : Int32), vR a62, vI (1 : Int32), vR b71] [(.int (1 : Int32)), (.ref b71)])) rfl (by rw [hml]; rfl) (argsL := [(.ref b71), (.int (1 : Int32))]) (rest := []) (lenOf pd_4 rfl) rfl (w0 rfl) (dq (dg dc3 20 rfl)) (fun _ _ => ⟨rfl, rfl, (by decide : 2 + 0 ≤ _), (by decide : 6 + 0 ≤ _)⟩)
    dsimp only [Pt.U, Pt.locs, Pt.cells, Pt.slots] at X74 l74 y74 z74 st74 hQ74
    subst l74 y74 z74
    obtain ⟨rfl, Nq74, e74⟩ := hQ74
    have N74 := Fr.app N71 Nq74
    refine R0_ st74 ?_
    show Rch p e below T74 (mkF m 35 #[vR ta, vI (0 : Int32), vI (2 : Int32), vR a62, vI (1 : Int32), vR b71] [(.int c1)]) _
    refine R1 (XS.sipush X74.here hx rfl (dq (dg dc3 21 rfl)) ) ?_
    refine R1 (XS.icmpYes X74.here hx rfl (pc0 := 38) (pc' := 54) rfl (dq (dg dc3 22 rfl)) rfl (tlt hc).2.2.1 (by decide) (by decide)) ?_
    refine R1 (XS.aload X74.here hx rfl (dq (dg dc3 23 rfl)) rfl rfl) ?_
    show Rch p e below T74 (mkF m 56 #[vR ta, vI (0 : Int32), vI (2 : Int32), vR a62, vI (1 : Int32), vR b71] [(.ref b71)]) _
    exact Rch.fin (Q := Q_cthr2 Z ta ka c0 c1 fm h0 n0) X74 (v := some (.ref b71)) (fun h => by rw [Bd.returns] at h; cases h) (BodyLoose.notSynchronized Bd) (fun fs hr => retR X74 hx Bd.returns rfl rfl (dq (dg dc3 24 rfl)) hr) (by rw [e74]; exact ⟨b71, kb71, rfl, N74, Ex72, Nat.le_trans Ex66.1 le71_, V71⟩) (by decide) (by decide)
def Q_cthr3 (Z : State) (ta : Addr) (ka : ClassId) (c0 c1 c2 : Int32) (fm : Value) (h0 : Heap) (n0 : Nat) (v : Option Value) (h : Heap) (L : List Loc) : Prop := ∃ b k, v = some (.ref b) ∧ Fr n0 L ∧ Ext h0 h ∧ h0.size ≤ b ∧ Arv Z h b k .byte (6 : Int32) (StrChars.Road.wideBytes [c0, c1, c2]) (.int 0)
set_option maxRecDepth 65536 in
set_option maxHeartbeats 40000000 in
theorem rm_cthr3 (l : Launch) (Z : State) (a0 : Array Value) (hw : ∀ d ∈ tables_1, d.before a0 Z = true) (ws : List Jvm.Cond) (ta : Addr) (ka : ClassId) (c0 c1 c2 : Int32) (fm : Value) (h0 : Heap) (n0 : Nat) (Z0 : n0 ≤ h0.size) (B : Bg Z h0 fm) (M : Arv Z h0 ta ka .char (3 : Int32) [(.int c0), (.int c1), (.int c2)] (.int 0)) (hbd : ∀ c ∈ ([c0, c1, c2] : List Int32), ¬ c < 0 ∧ ¬ (65535 : Int32) < c) (hbig : (255 : Int32) < c0 ∨ (255 : Int32) < c1 ∨ (255 : Int32) < c2) :
    MetFree l mN15 (head1 (Jvm.Cond.code mN15 jdk_52_method_16_code 6 (some (.array .byte)) :: ws) rO13) (fun a U => a = #[(.ref ta), (.int (0 : Int32)), (.int (3 : Int32))] ∧ Z.Warmed39 U.vm ∧ U.heap = h0) (fun _ _ _ _ _ => True) (fun _ U o U' => ∃ v L, o = .returned v ∧ Q_cthr3 Z ta ka c0 c1 c2 fm h0 n0 v U'.heap L ∧ FrameEnd U o U' L rO13.cells rO13.slots) := by
  refine MetFree.of_bodySF pn_cthr1 hisR ?_
  intro p e s m args below meth c s₁ Bd hml0 hP hK
  obtain ⟨rfl, hZ, hh⟩ := hP
  have hx := Bd.exec
  have hby := Bd.bytes
  have dq := @hb _ _ hby
  have hml : c.maxLocals = 6 := hml0
  have hown : s.vm.findClass "java/lang/StringUTF16" = some m.cls := findClass_of_methodNamed Bd.named
  have X0 : Stand p l e rO13 s m #[(.ref ta), (.int (0 : Int32)), (.int (3 : Int32))] below meth c s₁ [] 0 0 := Stand.of_body Bd
  have e0 : s₁.heap = h0 := by rw [← hh, Bd.state]; rfl
  have N0 := Fr.nil n0
  show Rch p e below s₁ _ _
  refine Rch.cast (ef_cthr1 m ta (0 : Int32) (3 : Int32)) ?_
  show Rch p e below s₁ (mkF m 0 #[vR ta, vI (0 : Int32), vI (3 : Int32), .unset, .unset, .unset] []) _
  refine R1 (XS.iloadN X0.here hx rfl (dq (dg dc3 0 rfl)) rfl) ?_
  show Rch p e below s₁ (mkF m 1 #[vR ta, vI (0 : Int32), vI (3 : Int32), .unset, .unset, .unset] [(.int (3 : Int32))]) _
  obtain ⟨T90, h90, k90, X90, e90, E90, A90, st90⟩ := newP X0 hx hZ (wq hw 20 rfl) e0 (g := (mkF m 1 #[vR ta, vI (0 : Int32), vI (3 : Int32), .unset, .unset, .unset] [(.int (3 : Int32))])) rfl (dq (dg dc3 1 rfl)) rfl (by decide : ¬ ((3 : Int32) < (0 : Int32))) (cap := 3) (by decide : ((3 : Int32)).toNatClampNeg ≤ 3) (by decide) (by decide) (by decide)
  obtain ⟨a90, g90⟩ : ∃ z, z = h0.size := ⟨_, rfl⟩
  rw [← g90] at A90 st90
  have Ex91 : Ext h0 h90 := E90
  have le92 : h0.size ≤ a90 := Nat.le_of_eq g90.symm
  refine R0_ st90 ?_
  show Rch p e below T90 (mkF m 3 #[vR ta, vI (0 : Int32), vI (3 : Int32), .unset, .unset, .unset] [(.ref a90)]) _
  have V90 : Arv Z h90 a90 k90 .byte (3 : Int32) [(.int (0 : Int32)), (.int (0 : Int32)), (.int (0 : Int32))] (.int (0 : Int32)) := (Arv.new A90 (by decide : ¬ ((3 : Int32) < (0 : Int32)))).pad (pad_rep [] (.int (0 : Int32)) 3)
  refine R1 (XS.astoreN X90.here hx rfl (dq (dg dc3 2 rfl)) rfl rfl (l' := #[vR ta, vI (0 : Int32), vI (3 : Int32), vR a90, .unset, .unset]) rfl) ?_
  refine R1 (XS.aloadN X90.here hx rfl (dq (dg dc3 3 rfl)) rfl rfl) ?_
  refine R1 (XS.iloadN X90.here hx rfl (dq (dg dc3 4 rfl)) rfl) ?_
  refine R1 (XS.aloadN X90.here hx rfl (dq (dg dc3 5 rfl)) rfl rfl) ?_
  refine R1 (XS.iconst X90.here hx rfl (dq (dg dc3 6 rfl)) ) ?_
  refine R1 (XS.iloadN X90.here hx rfl (dq (dg dc3 7 rfl)) rfl) ?_
  show Rch p e below T90 (mkF m 9 #[vR ta, vI (0 : Int32), vI (3 : Int32), vR a90, .unset, .unset] [(.int (3 : Int32)), (.int (0 : Int32)), (.ref a90), (.int (0 : Int32)), (.ref ta)]) _
  have ned : ta ≠ a90 := Nat.ne_of_lt (Nat.lt_of_lt_of_le M.lt le92)
  obtain ⟨_, _, ⟨T93, L93, k93, n93⟩, -, X93, ⟨Lc93, hQ93, l93, y93, z93⟩, st93⟩ := Jvm.LawKit.callS X90 hx (y := mN14) hown (mw hZ hw 154 rfl) (mw hZ hw 155 rfl) (mw hZ hw 152 rfl) (mw hZ hw 156 rfl) (by decide) (backOf (W := 0) (rm_cmp3 l Z a0 hw [] ta a90 ka k90 c0 c1 c2 h90 n0 (Nat.le_trans Z0 Ex91.1) (Nat.le_trans Z0 le92) ned (M.ext Ex91) V90 hbig) hZ (wq hw 156 rfl) (wq hw 152 rfl) (by decide) (by decide)) (g := (mkF m 9 #[vR ta, vI (0 : Int32), vI (3 : Int32), vR a90, .unset, .unset] [(.int (3 : Int32)), (.int (0 : Int32)), (.ref a90), (.int (0 : Int32)), (.ref ta)])) rfl (by rw [hml]; rfl) (argsL := [(.ref ta), (.int (0 : Int32)), (.ref a90), (.int (0 : Int32)), (.int (3 : Int32))]) (rest := []) (lenOf pd_10 rfl) rfl (w0 rfl) (dq (dg dc3 8 rfl)) (fun _ _ => ⟨rfl, e90, (by decide : 1 + 0 ≤ _), (by decide : 3 + 0 ≤ _)⟩)
  dsimp only [Pt.U, Pt.locs, Pt.cells, Pt.slots] at X93 l93 y93 z93 st93 hQ93
  subst l93 y93 z93
  obtain ⟨r93, rfl, Nq93, K93, hr93⟩ := hQ93
  have N93 := Fr.app N0 Nq93
  have Ex94 : Ext h0 T93.heap := extKeep1 Ex91 K93 le92
  refine R0_ st93 ?_
  show Rch p e below T93 (mkF m 12 #[vR ta, vI (0 : Int32), vI (3 : Int32), vR a90, .unset, .unset] [(.int r93)]) _
  rcases hr93 with ⟨rfl, hc⟩ | ⟨rfl, hc⟩ | ⟨rfl, hc⟩
  · skip
    show Rch p e below T93 (mkF m 12 #[vR ta, vI (0 : Int32), vI (3 : Int32), vR a90, .unset, .unset] [(.int (0 : Int32))]) _
    refine R1 (XS.istore X93.here hx rfl (dq (dg dc3 9 rfl)) rfl (l' := #[vR ta, vI (0 : Int32), vI (3 : Int32), vR a90, vI (0 : Int32), .unset]) rfl) ?_
    refine R1 (XS.iload X93.here hx rfl (dq (dg dc3 10 rfl)) rfl) ?_
    refine R1 (XS.iloadN X93.here hx rfl (dq (dg dc3 11 rfl)) rfl) ?_
    refine R1 (XS.icmpNo X93.here hx rfl (dq (dg dc3 12 rfl)) rfl (by decide : if_icmp.holds .eq (0 : Int32) (3 : Int32) = false)) ?_
    refine R1 (XS.aloadN X93.here hx rfl (dq (dg dc3 13 rfl)) rfl rfl) ?_
    refine R1 (XS.iloadN X93.here hx rfl (dq (dg dc3 14 rfl)) rfl) ?_
    refine R1 (XS.iloadN X93.here hx rfl (dq (dg dc3 15 rfl)) rfl) ?_
    show Rch p e below T93 (mkF m 23 #[vR ta, vI (0 : Int32), vI (3 : Int32), vR a90, vI (0 : Int32), .unset] [(.int (3 : Int32)), (.int (0 : Int32)), (.ref ta)]) _
    obtain ⟨_, _, ⟨T95, L95, k95, n95⟩, -, X95, ⟨Lc95, hQ95, l95, y95, z95⟩, st95⟩ := Jvm.LawKit.callS X93 hx (y := mN13) hown (mw hZ hw 233 rfl) (mw hZ hw 234 rfl) (mw hZ hw 152 rfl) (mw hZ hw 235 rfl) (by decide) (backOf (W := 0) (rm_toby3 l Z a0 hw [] ta ka c0 c1 c2 fm T93.heap n0 (Nat.le_trans Z0 Ex94.1) (B.ext Ex94) (M.ext Ex94)) hZ (wq hw 235 rfl) (wq hw 152 rfl) (by decide) (by decide)) (g := (mkF m 23 #[vR ta, vI (0 : Int32), vI (3 : Int32), vR a90, vI (0 : Int32), .unset] [(.int (3 : Int32)), (.int (0 : Int32)), (.ref ta)])) rfl (by rw [hml]; rfl) (argsL := [(.ref ta), (.int (0 : Int32)), (.int (3 : Int32))]) (rest := []) (lenOf pd_11 rfl) rfl (w0 rfl) (dq (dg dc3 16 rfl)) (fun _ _ => ⟨rfl, rfl, (by decide : 1 + 1 ≤ _), (by decide : 3 + 6 ≤ _)⟩)
    dsimp only [Pt.U, Pt.locs, Pt.cells, Pt.slots] at X95 l95 y95 z95 st95 hQ95
    subst l95 y95 z95
    obtain ⟨b95, kb95, rfl, Nq95, E95, le95_, V95⟩ := hQ95
    have N95 := Fr.app N93 Nq95
    have Ex96 : Ext h0 T95.heap := Ex94.tr E95
    refine R0_ st95 ?_
    show Rch p e below T95 (mkF m 26 #[vR ta, vI (0 : Int32), vI (3 : Int32), vR a90, vI (0 : Int32), .unset] [(.ref b95)]) _
    refine R1 (XS.astore X95.here hx rfl (dq (dg dc3 17 rfl)) rfl rfl (l' := #[vR ta, vI (0 : Int32), vI (3 : Int32), vR a90, vI (0 : Int32), vR b95]) rfl) ?_
    refine R1 (XS.aload X95.here hx rfl (dq (dg dc3 18 rfl)) rfl rfl) ?_
    refine R1 (XS.iload X95.here hx rfl (dq (dg dc3 19 rfl)) rfl) ?_
    show Rch p e below T95 (mkF m 32 #[vR ta, vI (0 : Int32), vI (3 : Int32), vR a90, vI (0 : Int32), vR b95] [(.int (0 : Int32)), (.ref b95)]) _
    obtain ⟨_, _, ⟨T98, L98, k98, n98⟩, -, X98, ⟨Lc98, hQ98, l98, y98, z98⟩, st98⟩ := Jvm.LawKit.callS X95 hx (y := mN4) hown (mw hZ hw 249 rfl) (mw hZ hw 250 rfl) (mw hZ hw 152 rfl) (mw hZ hw 251 rfl) (by decide) (backOf (W := 0) (rm_getc l Z a0 hw [] b95 kb95 [c0, c1, c2] 0 fm T95.heap n0 (Nat.le_trans Z0 Ex96.1) (B.ext Ex96) hbd V95 (Nat.le_of_ble_eq_true rfl) (Nat.le_of_ble_eq_true rfl)) hZ (wq hw 251 rfl) (wq hw 152 rfl) (by decide) (by decide)) (g := (mkF m 32 #[vR ta, vI (0 : Int32), vI (3 : Int32), vR a90, vI (0 : Int32), vR b95] [(.int (0 : Int32)), (.ref b95)])) rfl (by rw [hml]; rfl) (argsL := [(.ref b95), (.int (0 : Int32))]) (rest := []) (lenOf pd_4 rfl) rfl (w0 rfl) (dq (dg dc3 20 rfl)) (fun _ _ => ⟨rfl, rfl, (by decide : 2 + 0 ≤ _), (by decide : 9 + 0 ≤ _)⟩)
    dsimp only [Pt.U, Pt.locs, Pt.cells, Pt.slots] at X98 l98 y98 z98 st98 hQ98
    subst l98 y98 z98
    obtain ⟨rfl, Nq98, e98⟩ := hQ98
    have N98 := Fr.app N95 Nq98
    refine R0_ st98 ?_
    show Rch p e below T98 (mkF m 35 #[vR ta, vI (0 : Int32), vI (3 : Int32), vR a90, vI (0 : Int32), vR b95] [(.int c0)]) _
    refine R1 (XS.sipush X98.here hx rfl (dq (dg dc3 21 rfl)) ) ?_
    refine R1 (XS.icmpYes X98.here hx rfl (pc0 := 38) (pc' := 54) rfl (dq (dg dc3 22 rfl)) rfl (tlt hc).2.2.1 (by decide) (by decide)) ?_
    refine R1 (XS.aload X98.here hx rfl (dq (dg dc3 23 rfl)) rfl rfl) ?_
    show Rch p e below T98 (mkF m 56 #[vR ta, vI (0 : Int32), vI (3 : Int32), vR a90, vI (0 : Int32), vR b95] [(.ref b95)]) _
    exact Rch.fin (Q := Q_cthr3 Z ta ka c0 c1 c2 fm h0 n0) X98 (v := some (.ref b95)) (fun h => by rw [Bd.returns] at h; cases h) (BodyLoose.notSynchronized Bd) (fun fs hr => retR X98 hx Bd.returns rfl rfl (dq (dg dc3 24 rfl)) hr) (by rw [e98]; exact ⟨b95, kb95, rfl, N98, Ex96, Nat.le_trans Ex94.1 le95_, V95⟩) (by decide) (by decide)
  · skip
    show Rch p e below T93 (mkF m 12 #[vR ta, vI (0 : Int32), vI (3 : Int32), vR a90, .unset, .unset] [(.int (1 : Int32))]) _
    refine R1 (XS.istore X93.here hx rfl (dq (dg dc3 9 rfl)) rfl (l' := #[vR ta, vI (0 : Int32), vI (3 : Int32), vR a90, vI (1 : Int32), .unset]) rfl) ?_
    refine R1 (XS.iload X93.here hx rfl (dq (dg dc3 10 rfl)) rfl) ?_
    refine R1 (XS.iloadN X93.here hx rfl (dq (dg dc3 11 rfl)) rfl) ?_
    refine R1 (XS.icmpNo X93.here hx rfl (dq (dg dc3 12 rfl)) rfl (by decide : if_icmp.holds .eq (1 : Int32) (3 : Int32) = false)) ?_
    refine R1 (XS.aloadN X93.here hx rfl (dq (dg dc3 13 rfl)) rfl rfl) ?_
    refine R1 (XS.iloadN X93.here hx rfl (dq (dg dc3 14 rfl)) rfl) ?_
    refine R1 (XS.iloadN X93.here hx rfl (dq (dg dc3 15 rfl)) rfl) ?_
    show Rch p e below T93 (mkF m 23 #[vR ta, vI (0 : Int32), vI (3 : Int32), vR a90, vI (1 : Int32), .unset] [(.int (3 : Int32)), (.int (0 : Int32)), (.ref ta)]) _
    obtain ⟨_, _, ⟨T99, L99, k99, n99⟩, -, X99, ⟨Lc99, hQ99, l99, y99, z99⟩, st99⟩ := Jvm.LawKit.callS X93 hx (y := mN13) hown (mw hZ hw 233 rfl) (mw hZ hw 234 rfl) (mw hZ hw 152 rfl) (mw hZ hw 235 rfl) (by decide) (backOf (W := 0) (rm_toby3 l Z a0 hw [] ta ka c0 c1 c2 fm T93.heap n0 (Nat.le_trans Z0 Ex94.1) (B.ext Ex94) (M.ext Ex94)) hZ (wq hw 235 rfl) (wq hw 152 rfl) (by decide) (by decide)) (g := (mkF m 23 #[vR ta, vI (0 : Int32), vI (3 : Int32), vR a90, vI (1 : Int32), .unset] [(.int (3 : Int32)), (.int (0 : Int32)), (.ref ta)])) rfl (by rw [hml]; rfl) (argsL := [(.ref ta), (.int (0 : Int32)), (.int (3 : Int32))]) (rest := []) (lenOf pd_11 rfl) rfl (w0 rfl) (dq (dg dc3 16 rfl)) (fun _ _ => ⟨rfl, rfl, (by decide : 1 + 1 ≤ _), (by decide : 3 + 6 ≤ _)⟩)
    dsimp only [Pt.U, Pt.locs, Pt.cells, Pt.slots] at X99 l99 y99 z99 st99 hQ99
    subst l99 y99 z99
    obtain ⟨b99, kb99, rfl, Nq99, E99, le99_, V99⟩ := hQ99
    have N99 := Fr.app N93 Nq99
    have Ex100 : Ext h0 T99.heap := Ex94.tr E99
    refine R0_ st99 ?_
    show Rch p e below T99 (mkF m 26 #[vR ta, vI (0 : Int32), vI (3 : Int32), vR a90, vI (1 : Int32), .unset] [(.ref b99)]) _
    refine R1 (XS.astore X99.here hx rfl (dq (dg dc3 17 rfl)) rfl rfl (l' := #[vR ta, vI (0 : Int32), vI (3 : Int32), vR a90, vI (1 : Int32), vR b99]) rfl) ?_
    refine R1 (XS.aload X99.here hx rfl (dq (dg dc3 18 rfl)) rfl rfl) ?_
    refine R1 (XS.iload X99.here hx rfl (dq (dg dc3 19 rfl)) rfl) ?_
    show Rch p e below T99 (mkF m 32 #[vR ta, vI (0 : Int32), vI (3 : Int32), vR a90, vI (1 : Int32), vR b99] [(.int (1 : Int32)), (.ref b99)]) _
    obtain ⟨_, _, ⟨T102, L102, k102, n102⟩, -, X102, ⟨Lc102, hQ102, l102, y102, z102⟩, st102⟩ := Jvm.LawKit.callS X99 hx (y := mN4) hown (mw hZ hw 249 rfl) (mw hZ hw 250 rfl) (mw hZ hw 152 rfl) (mw hZ hw 251 rfl) (by decide) (backOf (W := 0) (rm_getc l Z a0 hw [] b99 kb99 [c0, c1, c2] 1 fm T99.heap n0 (Nat.le_trans Z0 Ex100.1) (B.ext Ex100) hbd V99 (Nat.le_of_ble_eq_true rfl) (Nat.le_of_ble_eq_true rfl)) hZ (wq hw 251 rfl) (wq hw 152 rfl) (by decide) (by decide)) (g := (mkF m 32 #[vR ta, vI (0 : Int32), vI (3 : Int32), vR a90, vI (1 : Int32), vR b99] [(.int (1 : Int32)), (.ref b99)])) rfl (by rw [hml]; rfl) (argsL := [(.ref b99), (.int (1 : Int32))]) (rest := []) (lenOf pd_4 rfl) rfl (w0 rfl) (dq (dg dc3 20 rfl)) (fun _ _ => ⟨rfl, rfl, (by decide : 2 + 0 ≤ _), (by decide : 9 + 0 ≤ _)⟩)
    dsimp only [Pt.U, Pt.locs, Pt.cells, Pt.slots] at X102 l102 y102 z102 st102 hQ102
    subst l102 y102 z102
    obtain ⟨rfl, Nq102, e102⟩ := hQ102
    have N102 := Fr.app N99 Nq102
    refine R0_ st102 ?_
    show Rch p e below T102 (mkF m 35 #[vR ta, vI (0 : Int32), vI (3 : Int32), vR a90, vI (1 : Int32), vR b99] [(.int c1)]) _
    refine R1 (XS.sipush X102.here hx rfl (dq (dg dc3 21 rfl)) ) ?_
    refine R1 (XS.icmpYes X102.here hx rfl (pc0 := 38) (pc' := 54) rfl (dq (dg dc3 22 rfl)) rfl (tlt hc).2.2.1 (by decide) (by decide)) ?_
    refine R1 (XS.aload X102.here hx rfl (dq (dg dc3 23 rfl)) rfl rfl) ?_
    show Rch p e below T102 (mkF m 56 #[vR ta, vI (0 : Int32), vI (3 : Int32), vR a90, vI (1 : Int32), vR b99] [(.ref b99)]) _
    exact Rch.fin (Q := Q_cthr3 Z ta ka c0 c1 c2 fm h0 n0) X102 (v := some (.ref b99)) (fun h => by rw [Bd.returns] at h; cases h) (BodyLoose.notSynchronized Bd) (fun fs hr => retR X102 hx Bd.returns rfl rfl (dq (dg dc3 24 rfl)) hr) (by rw [e102]; exact ⟨b99, kb99, rfl, N102, Ex100, Nat.le_trans Ex94.1 le99_, V99⟩) (by decide) (by decide)
  · skip
    show Rch p e below T93 (mkF m 12 #[vR ta, vI (0 : Int32), vI (3 : Int32), vR a90, .unset, .unset] [(.int (2 : Int32))]) _
    refine R1 (XS.istore X93.here hx rfl (dq (dg dc3 9 rfl)) rfl (l' := #[vR ta, vI (0 : Int32), vI (3 : Int32), vR a90, vI (2 : Int32), .unset]) rfl) ?_
    refine R1 (XS.iload X93.here hx rfl (dq (dg dc3 10 rfl)) rfl) ?_
    refine R1 (XS.iloadN X93.here hx rfl (dq (dg dc3 11 rfl)) rfl) ?_
    refine R1 (XS.icmpNo X93.here hx rfl (dq (dg dc3 12 rfl)) rfl (by decide : if_icmp.holds .eq (2 : Int32) (3 : Int32) = false)) ?_
    refine R1 (XS.aloadN X93.here hx rfl (dq (dg dc3 13 rfl)) rfl rfl) ?_
    refine R1 (XS.iloadN X93.here hx rfl (dq (dg dc3 14 rfl)) rfl) ?_
    refine R1 (XS.iloadN X93.here hx rfl (dq (dg dc3 15 rfl)) rfl) ?_
    show Rch p e below T93 (mkF m 23 #[vR ta, vI (0 : Int32), vI (3 : Int32), vR a90, vI (2 : Int32), .unset] [(.int (3 : Int32)), (.int (0 : Int32)), (.ref ta)]) _
    obtain ⟨_, _, ⟨T103, L103, k103, n103⟩, -, X103, ⟨Lc103, hQ103, l103, y103, z103⟩, st103⟩ := Jvm.LawKit.callS X93 hx (y := mN13) hown (mw hZ hw 233 rfl) (mw hZ hw 234 rfl) (mw hZ hw 152 rfl) (mw hZ hw 235 rfl) (by decide) (backOf (W := 0) (rm_toby3 l Z a0 hw [] ta ka c0 c1 c2 fm T93.heap n0 (Nat.le_trans Z0 Ex94.1) (B.ext Ex94) (M.ext Ex94)) hZ (wq hw 235 rfl) (wq hw 152 rfl) (by decide) (by decide)) (g := (mkF m 23 #[vR ta, vI (0 : Int32), vI (3 : Int32), vR a90, vI (2 : Int32), .unset] [(.int (3 : Int32)), (.int (0 : Int32)), (.ref ta)])) rfl (by rw [hml]; rfl) (argsL := [(.ref ta), (.int (0 : Int32)), (.int (3 : Int32))]) (rest := []) (lenOf pd_11 rfl) rfl (w0 rfl) (dq (dg dc3 16 rfl)) (fun _ _ => ⟨rfl, rfl, (by decide : 1 + 1 ≤ _), (by decide : 3 + 6 ≤ _)⟩)
    dsimp only [Pt.U, Pt.locs, Pt.cells, Pt.slots] at X103 l103 y103 z103 st103 hQ103
    subst l103 y103 z103
    obtain ⟨b103, kb103, rfl, Nq103, E103, le103_, V103⟩ := hQ103
    have N103 := Fr.app N93 Nq103
    have Ex104 : Ext h0 T103.heap := Ex94.tr E103
    refine R0_ st103 ?_
    show Rch p e below T103 (mkF m 26 #[vR ta, vI (0 : Int32), vI (3 : Int32), vR a90, vI (2 : Int32), .unset] [(.ref b103)]) _
    refine R1 (XS.astore X103.here hx rfl (dq (dg dc3 17 rfl)) rfl rfl (l' := #[vR ta, vI (0 : Int32), vI (3 : Int32), vR a90, vI (2 : Int32), vR b103]) rfl) ?_
    refine R1 (XS.aload X103.here hx rfl (dq (dg dc3 18 rfl)) rfl rfl) ?_
    refine R1 (XS.iload X103.here hx rfl (dq (dg dc3 19 rfl)) rfl) ?_
    show Rch p e below T103 (mkF m 32 #[vR ta, vI (0 : Int32), vI (3 : Int32), vR a90, vI (2 : Int32), vR b103] [(.int (2 : Int32)), (.ref b103)]) _
    obtain ⟨_, _, ⟨T106, L106, k106, n106⟩, -, X106, ⟨Lc106, hQ106, l106, y106, z106⟩, st106⟩ := Jvm.LawKit.callS X103 hx (y := mN4) hown (mw hZ hw 249 rfl) (mw hZ hw 250 rfl) (mw hZ hw 152 rfl) (mw hZ hw 251 rfl) (by decide) (backOf (W := 0) (rm_getc l Z a0 hw [] b103 kb103 [c0, c1, c2] 2 fm T103.heap n0 (Nat.le_trans Z0 Ex104.1) (B.ext Ex104) hbd V103 (Nat.le_of_ble_eq_true rfl) (Nat.le_of_ble_eq_true rfl)) hZ (wq hw 251 rfl) (wq hw 152 rfl) (by decide) (by decide)) (g := (mkF m 32 #[vR ta, vI (0 : Int32), vI (3 : Int32), vR a90, vI (2 : Int32), vR b103] [(.int (2 : Int32)), (.ref b103)])) rfl (by rw [hml]; rfl) (argsL := [(.ref b103), (.int (2 : Int32))]) (rest := []) (lenOf pd_4 rfl) rfl (w0 rfl) (dq (dg dc3 20 rfl)) (fun _ _ => ⟨rfl, rfl, (by decide : 2 + 0 ≤ _), (by decide : 9 + 0 ≤ _)⟩)
    dsimp only [Pt.U, Pt.locs, Pt.cells, Pt.slots] at X106 l106 y106 z106 st106 hQ106
    subst l106 y106 z106
    obtain ⟨rfl, Nq106, e106⟩ := hQ106
    have N106 := Fr.app N103 Nq106
    refine R0_ st106 ?_
    show Rch p e below T106 (mkF m 35 #[vR ta, vI (0 : Int32), vI (3 : Int32), vR a90, vI (2 : Int32), vR b103] [(.int c2)]) _
    refine R1 (XS.sipush X106.here hx rfl (dq (dg dc3 21 rfl)) ) ?_
    refine R1 (XS.icmpYes X106.here hx rfl (pc0 := 38) (pc' := 54) rfl (dq (dg dc3 22 rfl)) rfl (tlt hc).2.2.1 (by decide) (by decide)) ?_
    refine R1 (XS.aload X106.here hx rfl (dq (dg dc3 23 rfl)) rfl rfl) ?_
    show Rch p e below T106 (mkF m 56 #[vR ta, vI (0 : Int32), vI (3 : Int32), vR a90, vI (2 : Int32), vR b103] [(.ref b103)]) _
    exact Rch.fin (Q := Q_cthr3 Z ta ka c0 c1 c2 fm h0 n0) X106 (v := some (.ref b103)) (fun h => by rw [Bd.returns] at h; cases h) (BodyLoose.notSynchronized Bd) (fun fs hr => retR X106 hx Bd.returns rfl rfl (dq (dg dc3 24 rfl)) hr) (by rw [e106]; exact ⟨b103, kb103, rfl, N106, Ex104, Nat.le_trans Ex94.1 le103_, V103⟩) (by decide) (by decide)
def Q_cthr (Z : State) (cs : List Int32) (h0 : Heap) (n0 : Nat) (v : Option Value) (h : Heap) (L : List Loc) : Prop := ∃ b k, v = some (.ref b) ∧ Fr n0 L ∧ Ext h0 h ∧ h0.size ≤ b ∧ Arv Z h b k .byte (Int32.ofNat (2 * cs.length)) (StrChars.Road.wideBytes cs) (.int 0)
theorem rm_cthr (l : Launch) (Z : State) (a0 : Array Value) (hw : ∀ d ∈ tables_1, d.before a0 Z = true) (ws : List Jvm.Cond) (ta : Addr) (ka : ClassId) (cs : List Int32) (fm : Value) (h0 : Heap) (n0 : Nat) (Z0 : n0 ≤ h0.size) (B : Bg Z h0 fm) (M : Arv Z h0 ta ka .char (Int32.ofNat cs.length) (cs.map Value.int) (.int 0)) (hbd : ∀ c ∈ cs, ¬ c < 0 ∧ ¬ (65535 : Int32) < c) (hbig : ∃ c ∈ cs, (255 : Int32) < c) (hn : cs.length ≤ 3) :
    MetFree l mN15 (head1 (Jvm.Cond.code mN15 jdk_52_method_16_code 6 (some (.array .byte)) :: ws) rO13) (fun a U => a = #[(.ref ta), (.int (0 : Int32)), (.int (Int32.ofNat cs.length))] ∧ Z.Warmed39 U.vm ∧ U.heap = h0) (fun _ _ _ _ _ => True) (fun _ U o U' => ∃ v L, o = .returned v ∧ Q_cthr Z cs h0 n0 v U'.heap L ∧ FrameEnd U o U' L rO13.cells rO13.slots) := by
  match cs, M, hbd, hbig, hn with
  | [], _, _, hbig, _ => obtain ⟨c, hc, -⟩ := hbig; cases hc
  | [c0], M, hbd, hbig, _ =>
    exact rm_cthr1 l Z a0 hw ws ta ka c0 fm h0 n0 Z0 B M hbd (by simpa using hbig)
  | [c0, c1], M, hbd, hbig, _ =>
    exact rm_cthr2 l Z a0 hw ws ta ka c0 c1 fm h0 n0 Z0 B M hbd (by simpa using hbig)
  | [c0, c1, c2], M, hbd, hbig, _ =>
    exact rm_cthr3 l Z a0 hw ws ta ka c0 c1 c2 fm h0 n0 Z0 B M hbd (by simpa using hbig)
  | _ :: _ :: _ :: _ :: _, _, _, _, hn => exact absurd hn (by simp)
theorem dcl : dxs jdk_52_method_15_code [(0, .iload_n 1, 1), (1, .aload_n 0, 1), (2, .arraylength, 1), (3, .isub, 1), (4, .bipush 31, 2), (6, .iushr, 1), (7, .i2b, 1), (8, .ireturn, 1)] = true := by decide +kernel
theorem pn_codl : plainFor (⟨"java/lang/StringUTF16", "coderFromArrayLen", "([BI)B"⟩ : MethodName) = true := plainFor_of_name (by first | (simp [plainName, overriddenIn]; done) | decide +kernel)
def Q_codl (Z : State) (tb : Addr) (kb : ClassId) (vs : List Value) (nn : Nat) (h0 : Heap) (n0 : Nat) (v : Option Value) (h : Heap) (L : List Loc) : Prop := v = some (.int 1) ∧ Fr n0 L ∧ h = h0
set_option maxRecDepth 65536 in
set_option maxHeartbeats 40000000 in
theorem rm_codl (l : Launch) (Z : State) (a0 : Array Value) (hw : ∀ d ∈ tables_1, d.before a0 Z = true) (ws : List Jvm.Cond) (tb : Addr) (kb : ClassId) (vs : List Value) (nn : Nat) (h0 : Heap) (n0 : Nat) (Z0 : n0 ≤ h0.size) (M : Arv Z h0 tb kb .byte (Int32.ofNat (2 * nn)) vs (.int 0)) (h1 : 0 < nn) (h2 : nn ≤ 3) :
    MetFree l mN16 (head1 (Jvm.Cond.code mN16 jdk_52_method_15_code 2 (some .byte) :: ws) rO0) (fun a U => a = #[(.ref tb), (.int (Int32.ofNat nn))] ∧ Z.Warmed39 U.vm ∧ U.heap = h0) (fun _ _ _ _ _ => True) (fun _ U o U' => ∃ v L, o = .returned v ∧ Q_codl Z tb kb vs nn h0 n0 v U'.heap L ∧ FrameEnd U o U' L rO0.cells rO0.slots) := by
  refine MetFree.of_bodySF pn_codl hisR ?_
  intro p e s m args below meth c s₁ Bd hml0 hP hK
  obtain ⟨rfl, hZ, hh⟩ := hP
  have hx := Bd.exec
  have hby := Bd.bytes
  have dq := @hb _ _ hby
  have hml : c.maxLocals = 2 := hml0
  have X0 : Stand p l e rO0 s m #[(.ref tb), (.int (Int32.ofNat nn))] below meth c s₁ [] 0 0 := Stand.of_body Bd
  have e0 : s₁.heap = h0 := by rw [← hh, Bd.state]; rfl
  have N0 := Fr.nil n0
  show Rch p e below s₁ _ _
  refine Rch.cast (ef_getc m tb (Int32.ofNat nn)) ?_
  show Rch p e below s₁ (mkF m 0 #[vR tb, vI (Int32.ofNat nn)] []) _
  refine R1 (XS.iloadN X0.here hx rfl (dq (dg dcl 0 rfl)) rfl) ?_
  refine R1 (XS.aloadN X0.here hx rfl (dq (dg dcl 1 rfl)) rfl rfl) ?_
  show Rch p e below s₁ (mkF m 2 #[vR tb, vI (Int32.ofNat nn)] [(.ref tb), (.int (Int32.ofNat nn))]) _
  refine R0_ (alenA X0 hx hZ e0 M.arh (g := (mkF m 2 #[vR tb, vI (Int32.ofNat nn)] [(.ref tb), (.int (Int32.ofNat nn))])) rfl rfl (dq (dg dcl 2 rfl))) ?_
  show Rch p e below s₁ (mkF m 3 #[vR tb, vI (Int32.ofNat nn)] [(.int (Int32.ofNat (2 * nn))), (.int (Int32.ofNat nn))]) _
  refine R1 (XS.isub X0.here hx rfl (dq (dg dcl 3 rfl)) rfl) ?_
  refine R1 (XS.bipush X0.here hx rfl (dq (dg dcl 4 rfl)) ) ?_
  refine R1 (XT.iushr X0.here hx rfl (dq (dg dcl 5 rfl)) rfl) ?_
  refine R1 (XT.i2b X0.here hx rfl (dq (dg dcl 6 rfl)) rfl) ?_
  show Rch p e below s₁ (mkF m 8 #[vR tb, vI (Int32.ofNat nn)] [(.int ((XT.ushr ((Int32.ofNat nn) - (Int32.ofNat (2 * nn))) (31 : Int32)).toInt8.toInt32))]) _
  have ev : ((XT.ushr ((Int32.ofNat nn) - (Int32.ofNat (2 * nn))) (31 : Int32)).toInt8.toInt32) = (1 : Int32) := by
    have t : ∀ k : Fin 4, 0 < k.val → ((XT.ushr ((Int32.ofNat k.val) - (Int32.ofNat (2 * k.val))) (31 : Int32)).toInt8.toInt32) = (1 : Int32) := by decide +kernel
    exact t ⟨nn, by omega⟩ h1
  rw [ev]
  show Rch p e below s₁ (mkF m 8 #[vR tb, vI (Int32.ofNat nn)] [(.int (1 : Int32))]) _
  exact Rch.fin (Q := Q_codl Z tb kb vs nn h0 n0) X0 (v := some (.int (1 : Int32))) (fun h => by rw [Bd.returns] at h; cases h) (BodyLoose.notSynchronized Bd) (fun fs hr => retN X0 hx (t := .byte) Bd.returns (by simp) (dq (dg dcl 7 rfl)) hr) (by rw [e0]; exact ⟨rfl, N0, rfl⟩) (by decide) (by decide)
def Q_new4u (Z : State) (ta tc : Addr) (kc : ClassId) (cs : List Int32) (fm : Value) (h0 : Heap) (n0 : Nat) (v : Option Value) (h : Heap) (L : List Loc) : Prop := v = none ∧ Fr n0 L ∧ Keep h0 h [ta] ∧ StrA Z h ta cs
set_option maxRecDepth 65536 in
set_option maxHeartbeats 40000000 in
theorem rm_new4u (l : Launch) (Z : State) (a0 : Array Value) (hw : ∀ d ∈ tables_1, d.before a0 Z = true) (ws : List Jvm.Cond) (ta tc : Addr) (kc : ClassId) (cs : List Int32) (fm : Value) (h0 : Heap) (n0 : Nat) (Z0 : n0 ≤ h0.size) (B : Bg Z h0 fm) (hthis : n0 ≤ ta) (E1 : Exa Z h0 ta "java/lang/String") (F1 : Fld Z h0 ta "java/lang/String" "value" "[B" .null) (F2 : Fld Z h0 ta "java/lang/String" "coder" "B" (.int (0 : Int32))) (M : Arv Z h0 tc kc .char (Int32.ofNat cs.length) (cs.map Value.int) (.int 0)) (hbd : ∀ c ∈ cs, ¬ c < 0 ∧ ¬ (65535 : Int32) < c) (hbig : ∃ c ∈ cs, (255 : Int32) < c) (hn : cs.length ≤ 3) :
    MetFree l mN8 (head1 (Jvm.Cond.code mN8 jdk_42_method_149_code 6 none :: ws) rO14) (fun a U => a = #[(.ref ta), (.ref tc), (.int (0 : Int32)), (.int (Int32.ofNat cs.length)), .null] ∧ Z.Warmed39 U.vm ∧ U.heap = h0) (fun _ _ _ _ _ => True) (fun _ U o U' => ∃ v L, o = .returned v ∧ Q_new4u Z ta tc kc cs fm h0 n0 v U'.heap L ∧ FrameEnd U o U' L rO14.cells rO14.slots) := by
  refine MetFree.of_bodySF pn_new4e hisR ?_
  intro p e s m args below meth c s₁ Bd hml0 hP hK
  obtain ⟨rfl, hZ, hh⟩ := hP
  have hx := Bd.exec
  have hby := Bd.bytes
  have dq := @hb _ _ hby
  have hml : c.maxLocals = 6 := hml0
  have hown : s.vm.findClass "java/lang/String" = some m.cls := findClass_of_methodNamed Bd.named
  have hnm := (name_of_methodNamed Bd.named Bd.method).1
  have X0 : Stand p l e rO14 s m #[(.ref ta), (.ref tc), (.int (0 : Int32)), (.int (Int32.ofNat cs.length)), .null] below meth c s₁ [] 0 0 := Stand.of_body Bd
  have e0 : s₁.heap = h0 := by rw [← hh, Bd.state]; rfl
  have N0 := Fr.nil n0
  show Rch p e below s₁ _ _
  refine Rch.cast (ef_new4e m ta tc (0 : Int32) (Int32.ofNat cs.length)) ?_
  show Rch p e below s₁ (mkF m 0 #[vR ta, vR tc, vI (0 : Int32), vI (Int32.ofNat cs.length), .val .null, .unset] []) _
  have hsl : Jvm.RoadKit.slotOf Z "java/lang/String" "value" "[B" ≠ Jvm.RoadKit.slotOf Z "java/lang/String" "coder" "B" := slot_ne (C := "java/lang/String") (Or.inr (wq hw 21 rfl)) (Or.inr (wq hw 22 rfl)) (by decide) (t := .array .byte) (t' := .byte) (by decide) (by decide)
  have hpos : 0 < cs.length := by obtain ⟨c, hc, -⟩ := hbig; exact List.length_pos_of_mem hc
  have hne : ¬ (Int32.ofNat cs.length) = (0 : Int32) := fun q => by have := congrArg Int32.toInt q; rw [Int32.toInt_ofNat_small (show cs.length < 2 ^ 31 by omega)] at this; have e0 : (0 : Int32).toInt = 0 := rfl; omega
  obtain ⟨zc, Sz, hzc⟩ := id B.1
  refine R1 (XS.aloadN X0.here hx rfl (dq (dg dn4 0 rfl)) rfl rfl) ?_
  show Rch p e below s₁ (mkF m 1 #[vR ta, vR tc, vI (0 : Int32), vI (Int32.ofNat cs.length), .val .null, .unset] [(.ref ta)]) _
  obtain ⟨T107, X107, e107, st107⟩ := initO X0 hx hZ hown (wq hw 16 rfl) (wq hw 17 rfl) (wq hw 18 rfl) e0 (g := (mkF m 1 #[vR ta, vR tc, vI (0 : Int32), vI (Int32.ofNat cs.length), .val .null, .unset] [(.ref ta)])) rfl (by rw [hml]; rfl) rfl (dq (dg dn4 1 rfl)) (by decide) (W := 0) (w0 rfl) (by decide)
  refine R0_ st107 ?_
  show Rch p e below T107 (mkF m 4 #[vR ta, vR tc, vI (0 : Int32), vI (Int32.ofNat cs.length), .val .null, .unset] []) _
  refine R1 (XS.iloadN X107.here hx rfl (dq (dg dn4 2 rfl)) rfl) ?_
  refine R1 (XS.ifYes X107.here hx rfl (pc0 := 5) (pc' := 27) rfl (dq (dg dn4 3 rfl)) rfl ((if0 _ _).trans (feq hne).2) (by decide) (by decide)) ?_
  show Rch p e below T107 (mkF m 27 #[vR ta, vR tc, vI (0 : Int32), vI (Int32.ofNat cs.length), .val .null, .unset] []) _
  obtain ⟨T108, X108, e108, st108⟩ := getS2 X107 hx hZ hown (host := "") (Or.inl (wq hw 44 rfl)) Via.refl e107 Sz (g := (mkF m 27 #[vR ta, vR tc, vI (0 : Int32), vI (Int32.ofNat cs.length), .val .null, .unset] [])) rfl (dq (dg dn4 13 rfl))
  refine R0_ st108 ?_
  show Rch p e below T108 (mkF m 30 #[vR ta, vR tc, vI (0 : Int32), vI (Int32.ofNat cs.length), .val .null, .unset] [(.int zc)]) _
  refine R1 (XS.ifNo X108.here hx rfl (dq (dg dn4 14 rfl)) rfl ((if0 _ _).trans (feq hzc).1)) ?_
  refine R1 (XS.aloadN X108.here hx rfl (dq (dg dn4 15 rfl)) rfl rfl) ?_
  refine R1 (XS.iloadN X108.here hx rfl (dq (dg dn4 16 rfl)) rfl) ?_
  refine R1 (XS.iloadN X108.here hx rfl (dq (dg dn4 17 rfl)) rfl) ?_
  show Rch p e below T108 (mkF m 36 #[vR ta, vR tc, vI (0 : Int32), vI (Int32.ofNat cs.length), .val .null, .unset] [(.int (Int32.ofNat cs.length)), (.int (0 : Int32)), (.ref tc)]) _
  obtain ⟨_, _, ⟨T109, L109, k109, n109⟩, -, X109, ⟨Lc109, hQ109, l109, y109, z109⟩, st109⟩ := Jvm.LawKit.callS X108 hx (y := mN15) hown (mw hZ hw 150 rfl) (mw hZ hw 151 rfl) (mw hZ hw 152 rfl) (mw hZ hw 153 rfl) (by decide) (backOf (W := 0) (rm_cthr l Z a0 hw [] tc kc cs fm h0 n0 Z0 B M hbd hbig hn) hZ (wq hw 153 rfl) (wq hw 152 rfl) (by decide) (by decide)) (g := (mkF m 36 #[vR ta, vR tc, vI (0 : Int32), vI (Int32.ofNat cs.length), .val .null, .unset] [(.int (Int32.ofNat cs.length)), (.int (0 : Int32)), (.ref tc)])) rfl (by rw [hml]; rfl) (argsL := [(.ref tc), (.int (0 : Int32)), (.int (Int32.ofNat cs.length))]) (rest := []) (lenOf pd_11 rfl) rfl (w0 rfl) (dq (dg dn4 18 rfl)) (fun _ _ => ⟨rfl, e108, (by decide : 0 + 2 ≤ _), (by decide : 0 + 9 ≤ _)⟩)
  dsimp only [Pt.U, Pt.locs, Pt.cells, Pt.slots] at X109 l109 y109 z109 st109 hQ109
  subst l109 y109 z109
  obtain ⟨b109, kb109, rfl, Nq109, E109, le109_, V109⟩ := hQ109
  have N109 := Fr.app N0 Nq109
  have Ex110 : Ext h0 T109.heap := E109
  refine R0_ st109 ?_
  show Rch p e below T109 (mkF m 39 #[vR ta, vR tc, vI (0 : Int32), vI (Int32.ofNat cs.length), .val .null, .unset] [(.ref b109)]) _
  refine R1 (XS.astore X109.here hx rfl (dq (dg dn4 19 rfl)) rfl rfl (l' := #[vR ta, vR tc, vI (0 : Int32), vI (Int32.ofNat cs.length), .val .null, vR b109]) rfl) ?_
  refine R1 (XS.aloadN X109.here hx rfl (dq (dg dn4 20 rfl)) rfl rfl) ?_
  refine R1 (XS.aload X109.here hx rfl (dq (dg dn4 21 rfl)) rfl rfl) ?_
  refine R1 (XS.iloadN X109.here hx rfl (dq (dg dn4 22 rfl)) rfl) ?_
  show Rch p e below T109 (mkF m 45 #[vR ta, vR tc, vI (0 : Int32), vI (Int32.ofNat cs.length), .val .null, vR b109] [(.int (Int32.ofNat cs.length)), (.ref b109), (.ref ta)]) _
  obtain ⟨_, _, ⟨T111, L111, k111, n111⟩, -, X111, ⟨Lc111, hQ111, l111, y111, z111⟩, st111⟩ := Jvm.LawKit.callS X109 hx (y := mN16) hown (mw hZ hw 157 rfl) (mw hZ hw 158 rfl) (mw hZ hw 152 rfl) (mw hZ hw 159 rfl) (by decide) (backOf (W := 1) (rm_codl l Z a0 hw [] b109 kb109 _ cs.length T109.heap n0 (Nat.le_trans Z0 Ex110.1) V109 hpos hn) hZ (wq hw 159 rfl) (wq hw 152 rfl) (by decide) (by decide)) (g := (mkF m 45 #[vR ta, vR tc, vI (0 : Int32), vI (Int32.ofNat cs.length), .val .null, vR b109] [(.int (Int32.ofNat cs.length)), (.ref b109), (.ref ta)])) rfl (by rw [hml]; rfl) (argsL := [(.ref b109), (.int (Int32.ofNat cs.length))]) (rest := [(.ref ta)]) (lenOf pd_12 rfl) rfl (w0 rfl) (dq (dg dn4 23 rfl)) (fun _ _ => ⟨rfl, rfl, (by decide : 2 + 0 ≤ _), (by decide : 9 + 0 ≤ _)⟩)
  dsimp only [Pt.U, Pt.locs, Pt.cells, Pt.slots] at X111 l111 y111 z111 st111 hQ111
  subst l111 y111 z111
  obtain ⟨rfl, Nq111, e111⟩ := hQ111
  have N111 := Fr.app N109 Nq111
  refine R0_ st111 ?_
  show Rch p e below T111 (mkF m 48 #[vR ta, vR tc, vI (0 : Int32), vI (Int32.ofNat cs.length), .val .null, vR b109] [(.int (1 : Int32)), (.ref ta)]) _
  have F3 := F1.ext Ex110
  have F4 := F2.ext Ex110
  have E3 := E1.ext Ex110
  have ne : ta ≠ b109 := E3.neArv V109 (wq hw 6 rfl)
  obtain ⟨T112, h112, X112, e112, W112, st112⟩ := putF X111 hx hZ hown (host := "") (Or.inl (wq hw 26 rfl)) Via.refl e111 F4 E3 (Or.inr ⟨(wq hw 22 rfl), rfl, hnm⟩) (wq hw 6 rfl) (ty := .byte) (by decide) rfl rfl (g := (mkF m 48 #[vR ta, vR tc, vI (0 : Int32), vI (Int32.ofNat cs.length), .val .null, vR b109] [(.int (1 : Int32)), (.ref ta)])) rfl rfl (dq (dg dn4 24 rfl))
  have N112 := Fr.snoc X112 N111 hthis
  refine R0_ st112 ?_
  show Rch p e below T112 (mkF m 51 #[vR ta, vR tc, vI (0 : Int32), vI (Int32.ofNat cs.length), .val .null, vR b109] []) _
  have F5 := F3.other W112 (Or.inr hsl)
  have F6 := F4.same W112
  have E5 := E3.wr W112
  have A5 := V109.other W112 (Ne.symm ne)
  refine R1 (XS.aloadN X112.here hx rfl (dq (dg dn4 25 rfl)) rfl rfl) ?_
  refine R1 (XS.aload X112.here hx rfl (dq (dg dn4 26 rfl)) rfl rfl) ?_
  show Rch p e below T112 (mkF m 54 #[vR ta, vR tc, vI (0 : Int32), vI (Int32.ofNat cs.length), .val .null, vR b109] [(.ref b109), (.ref ta)]) _
  obtain ⟨T113, h113, X113, e113, W113, st113⟩ := putF X112 hx hZ hown (host := "") (Or.inl (wq hw 25 rfl)) Via.refl e112 F5 E5 (Or.inr ⟨(wq hw 21 rfl), rfl, hnm⟩) (wq hw 6 rfl) (ty := (.array .byte)) (by decide) rfl rfl (g := (mkF m 54 #[vR ta, vR tc, vI (0 : Int32), vI (Int32.ofNat cs.length), .val .null, vR b109] [(.ref b109), (.ref ta)])) rfl rfl (dq (dg dn4 27 rfl))
  have N113 := Fr.snoc X113 N112 hthis
  refine R0_ st113 ?_
  show Rch p e below T113 (mkF m 57 #[vR ta, vR tc, vI (0 : Int32), vI (Int32.ofNat cs.length), .val .null, vR b109] []) _
  have K9 : Keep h0 h113 [ta] := (((Keep.refl h0 [ta]).ext Ex110).wr W112 (Or.inl (List.mem_singleton.mpr rfl))).wr W113 (Or.inl (List.mem_singleton.mpr rfl))
  have S9 : StrA Z h113 ta cs := ⟨_, _, 1, _, _, E5.wr W113, F5.same W113, F6.other W113 (Or.inr (Ne.symm hsl)), A5.other W113 (Ne.symm ne), Or.inr ⟨rfl, rfl, rfl, hbig⟩, hbd⟩
  exact Rch.fin (Q := Q_new4u Z ta tc kc cs fm h0 n0) X113 (v := none) (fun _ => rfl) (BodyLoose.notSynchronized Bd) (fun fs hr => X113.returnOut hx Bd.returns (dq (dg dn4 28 rfl)) hr) (by rw [e113]; exact ⟨rfl, N113, K9, S9⟩) (by decide) (by decide)
def Q_new1u (Z : State) (ta tc : Addr) (kc : ClassId) (cs : List Int32) (fm : Value) (h0 : Heap) (n0 : Nat) (v : Option Value) (h : Heap) (L : List Loc) : Prop := v = none ∧ Fr n0 L ∧ Keep h0 h [ta] ∧ StrA Z h ta cs
set_option maxRecDepth 65536 in
set_option maxHeartbeats 40000000 in
theorem rm_new1u (l : Launch) (Z : State) (a0 : Array Value) (hw : ∀ d ∈ tables_1, d.before a0 Z = true) (ws : List Jvm.Cond) (ta tc : Addr) (kc : ClassId) (cs : List Int32) (fm : Value) (h0 : Heap) (n0 : Nat) (Z0 : n0 ≤ h0.size) (B : Bg Z h0 fm) (hthis : n0 ≤ ta) (E1 : Exa Z h0 ta "java/lang/String") (F1 : Fld Z h0 ta "java/lang/String" "value" "[B" .null) (F2 : Fld Z h0 ta "java/lang/String" "coder" "B" (.int (0 : Int32))) (M : Arv Z h0 tc kc .char (Int32.ofNat cs.length) (cs.map Value.int) (.int 0)) (hbd : ∀ c ∈ cs, ¬ c < 0 ∧ ¬ (65535 : Int32) < c) (hbig : ∃ c ∈ cs, (255 : Int32) < c) (hn : cs.length ≤ 3) :
    MetFree l mN9 (head1 (Jvm.Cond.code mN9 jdk_42_method_3_code 2 none :: ws) rO15) (fun a U => a = #[(.ref ta), (.ref tc)] ∧ Z.Warmed39 U.vm ∧ U.heap = h0) (fun _ _ _ _ _ => True) (fun _ U o U' => ∃ v L, o = .returned v ∧ Q_new1u Z ta tc kc cs fm h0 n0 v U'.heap L ∧ FrameEnd U o U' L rO15.cells rO15.slots) := by
  refine MetFree.of_bodySF pn_new1e hisR ?_
  intro p e s m args below meth c s₁ Bd hml0 hP hK
  obtain ⟨rfl, hZ, hh⟩ := hP
  have hx := Bd.exec
  have hby := Bd.bytes
  have dq := @hb _ _ hby
  have hml : c.maxLocals = 2 := hml0
  have hown : s.vm.findClass "java/lang/String" = some m.cls := findClass_of_methodNamed Bd.named
  have X0 : Stand p l e rO15 s m #[(.ref ta), (.ref tc)] below meth c s₁ [] 0 0 := Stand.of_body Bd
  have e0 : s₁.heap = h0 := by rw [← hh, Bd.state]; rfl
  have N0 := Fr.nil n0
  show Rch p e below s₁ _ _
  refine Rch.cast (ef_new1e m ta tc) ?_
  show Rch p e below s₁ (mkF m 0 #[vR ta, vR tc] []) _
  refine R1 (XS.aloadN X0.here hx rfl (dq (dg dn1 0 rfl)) rfl rfl) ?_
  refine R1 (XS.aloadN X0.here hx rfl (dq (dg dn1 1 rfl)) rfl rfl) ?_
  refine R1 (XS.iconst X0.here hx rfl (dq (dg dn1 2 rfl)) ) ?_
  refine R1 (XS.aloadN X0.here hx rfl (dq (dg dn1 3 rfl)) rfl rfl) ?_
  show Rch p e below s₁ (mkF m 4 #[vR ta, vR tc] [(.ref tc), (.int (0 : Int32)), (.ref tc), (.ref ta)]) _
  refine R0_ (alenA X0 hx hZ e0 M.arh (g := (mkF m 4 #[vR ta, vR tc] [(.ref tc), (.int (0 : Int32)), (.ref tc), (.ref ta)])) rfl rfl (dq (dg dn1 4 rfl))) ?_
  show Rch p e below s₁ (mkF m 5 #[vR ta, vR tc] [(.int (Int32.ofNat cs.length)), (.int (0 : Int32)), (.ref tc), (.ref ta)]) _
  refine R1 (XS.aconstNull X0.here hx rfl (dq (dg dn1 5 rfl)) ) ?_
  show Rch p e below s₁ (mkF m 6 #[vR ta, vR tc] [.null, (.int (Int32.ofNat cs.length)), (.int (0 : Int32)), (.ref tc), (.ref ta)]) _
  obtain ⟨_, _, ⟨T114, L114, k114, n114⟩, -, X114, ⟨Lc114, hQ114, l114, y114, z114⟩, st114⟩ := X0.specialBack hx (y := mN8) rfl hown (mw hZ hw 12 rfl) (mw hZ hw 13 rfl) (mw hZ hw 15 rfl) (by decide) (backOf (W := 0) (rm_new4u l Z a0 hw [] ta tc kc cs fm h0 n0 Z0 B hthis E1 F1 F2 M hbd hbig hn) hZ (wq hw 15 rfl) (wq hw 7 rfl) (by decide) (by decide)) (g := (mkF m 6 #[vR ta, vR tc] [.null, (.int (Int32.ofNat cs.length)), (.int (0 : Int32)), (.ref tc), (.ref ta)])) rfl (by rw [hml]; rfl) (Steps.refl _) (a := ta) (argsL := [(.ref tc), (.int (0 : Int32)), (.int (Int32.ofNat cs.length)), .null]) (rest := []) (lenOf pd_6 rfl) rfl (w0 rfl) (dq (dg dn1 6 rfl)) (fun _ _ => ⟨rfl, e0, (by decide : 0 + 2 ≤ _), (by decide : 0 + 9 ≤ _)⟩)
  dsimp only [Pt.U, Pt.locs, Pt.cells, Pt.slots] at X114 l114 y114 z114 st114 hQ114
  subst l114 y114 z114
  obtain ⟨rfl, Nq114, K114, Q114⟩ := hQ114
  have N114 := Fr.app N0 Nq114
  refine R2 st114 ?_
  show Rch p e below T114 (mkF m 9 #[vR ta, vR tc] []) _
  exact Rch.fin (Q := Q_new1u Z ta tc kc cs fm h0 n0) X114 (v := none) (fun _ => rfl) (BodyLoose.notSynchronized Bd) (fun fs hr => X114.returnOut hx Bd.returns (dq (dg dn1 7 rfl)) hr) ⟨rfl, N114, K114, Q114⟩ (by decide) (by decide)
theorem newS {p : Program} {l : Launch} {e : Env} {R : Room} {s : State} {args : Array Value} {below : List Frame} {len W : Nat} {Z : State} {a0 : Array Value} {h : Heap} (hZ : Z.Warmed39 s.vm) (hw : ∀ d ∈ tables_1, d.before a0 Z = true) {x b : Addr} {kC : ClassId} {cs : List Int32} {fm : Value} {n0 : Nat} (hx0 : n0 ≤ x) (hh0 : n0 ≤ h.size) (E : Exa Z h x "java/lang/String") (V : Fld Z h x "java/lang/String" "value" "[B" .null) (C : Fld Z h x "java/lang/String" "coder" "B" (.int 0)) (K : Arv Z h b kC .char (Int32.ofNat cs.length) (cs.map Value.int) (.int 0)) (B : Bg Z h fm) (hbd : ∀ c ∈ cs, ¬ c < 0 ∧ ¬ (65535 : Int32) < c) (l0 : 0 < cs.length) (l2 : cs.length ≤ 3) (hfr : 6 ≤ R.frames) (hlo : W + 87 ≤ R.locals) :
    Back l R p e below s args mN9 len W (fun P a => a = #[.ref x, .ref b] ∧ P.U.heap = h ∧ P.cells + 2 ≤ R.cells ∧ P.slots + 9 ≤ R.slots)
      (fun P _ v B => ∃ L, (v = none ∧ Fr n0 L ∧ Keep h B.U.heap [x] ∧ StrA Z B.U.heap x cs) ∧ B.locs = P.locs ++ L ∧ B.cells = P.cells + 2 ∧ B.slots = P.slots + 9) := by
  have pad : ∀ {k n : Nat}, k ≤ 2 → n ≤ 9 → Back l R p e below s args mN9 len W (fun P a => a = #[.ref x, .ref b] ∧ P.U.heap = h ∧ P.cells + k ≤ R.cells ∧ P.slots + n ≤ R.slots) (fun P _ v B => ∃ L, (v = none ∧ Fr n0 L ∧ Keep h B.U.heap [x] ∧ StrA Z B.U.heap x cs) ∧ B.locs = P.locs ++ L ∧ B.cells = P.cells + k ∧ B.slots = P.slots + n) → Back l R p e below s args mN9 len W (fun P a => a = #[.ref x, .ref b] ∧ P.U.heap = h ∧ P.cells + 2 ≤ R.cells ∧ P.slots + 9 ≤ R.slots) (fun P _ v B => ∃ L, (v = none ∧ Fr n0 L ∧ Keep h B.U.heap [x] ∧ StrA Z B.U.heap x cs) ∧ B.locs = P.locs ++ L ∧ B.cells = P.cells + 2 ∧ B.slots = P.slots + 9) := by
    intro k n hk hn H m meth c A g ig mk a X hg hs hd hW hm hp
    obtain ⟨v, ⟨U, Lx, kx, nx⟩, X', ⟨L, q, q1, q2, q3⟩, st⟩ := H m meth c A g ig mk a X hg hs hd hW hm ⟨hp.1, hp.2.1, by omega, by omega⟩
    dsimp only [Pt.U, Pt.locs, Pt.cells, Pt.slots] at X' q q1 q2 q3 st
    subst q1 q2 q3
    exact ⟨v, ⟨U, _, _, _⟩, X'.mono (Nat.add_le_add_left hk _) (Nat.add_le_add_left hn _), ⟨L, q, rfl, rfl, rfl⟩, st⟩
  by_cases hL : ∃ c ∈ cs, (255 : Int32) < c
  · exact pad (k := 2) (n := 9) (by decide) (by decide) (backOf (W := W) (rm_new1u l Z a0 hw [] x b kC cs fm h n0 hh0 B hx0 E V C K hbd hL l2) hZ (wq hw 11 rfl) (wq hw 7 rfl) (by show 5 + 1 ≤ _; omega) (by show W + (2 + 11) + 74 ≤ _; omega))
  · exact pad (k := 1) (n := cs.length) (by decide) (Nat.le_trans l2 (by decide)) (backS hZ hw hx0 hh0 E V C K B.1 rfl rfl l0 (by omega) (fun c hc => ⟨(hbd c hc).1, fun q => hL ⟨c, hc, q⟩⟩) (by omega) (by omega))

theorem dce : dxs jdk_43_method_3_code [(0, .iload_n 0, 1), (1, .sipush 255, 3), (4, .if_icmp .gt 7, 3), (7, .iconst 1, 1), (8, .goto 4, 3), (12, .ireturn, 1)] = true := by decide +kernel
theorem pn_canEnc : plainFor (⟨"java/lang/StringLatin1", "canEncode", "(C)Z"⟩ : MethodName) = true := plainFor_of_name (by first | (simp [plainName, overriddenIn]; done) | decide +kernel)
def Q_canEnc (Z : State) (ch : Int32) (h0 : Heap) (n0 : Nat) (v : Option Value) (h : Heap) (L : List Loc) : Prop := v = some (.int 1) ∧ Fr n0 L ∧ h = h0
set_option maxRecDepth 65536 in
set_option maxHeartbeats 40000000 in
theorem rm_canEnc (l : Launch) (Z : State) (a0 : Array Value) (hw : ∀ d ∈ tables_1, d.before a0 Z = true) (ws : List Jvm.Cond) (ch : Int32) (h0 : Heap) (n0 : Nat) (Z0 : n0 ≤ h0.size) (hc : ¬ (255 : Int32) < ch) :
    MetFree l mN17 (head1 (Jvm.Cond.code mN17 jdk_43_method_3_code 1 (some .boolean) :: ws) rO0) (fun a U => a = #[(.int ch)] ∧ Z.Warmed39 U.vm ∧ U.heap = h0) (fun _ _ _ _ _ => True) (fun _ U o U' => ∃ v L, o = .returned v ∧ Q_canEnc Z ch h0 n0 v U'.heap L ∧ FrameEnd U o U' L rO0.cells rO0.slots) := by
  refine MetFree.of_bodySF pn_canEnc hisR ?_
  intro p e s m args below meth c s₁ Bd hml0 hP hK
  obtain ⟨rfl, hZ, hh⟩ := hP
  have hx := Bd.exec
  have hby := Bd.bytes
  have dq := @hb _ _ hby
  have hml : c.maxLocals = 1 := hml0
  have X0 : Stand p l e rO0 s m #[(.int ch)] below meth c s₁ [] 0 0 := Stand.of_body Bd
  have e0 : s₁.heap = h0 := by rw [← hh, Bd.state]; rfl
  have N0 := Fr.nil n0
  show Rch p e below s₁ _ _
  refine Rch.cast (ef_nbl m ch) ?_
  show Rch p e below s₁ (mkF m 0 #[vI ch] []) _
  refine R1 (XS.iloadN X0.here hx rfl (dq (dg dce 0 rfl)) rfl) ?_
  refine R1 (XS.sipush X0.here hx rfl (dq (dg dce 1 rfl)) ) ?_
  refine R1 (XS.icmpNo X0.here hx rfl (dq (dg dce 2 rfl)) rfl (flt hc).2.2.1) ?_
  refine R1 (XS.iconst X0.here hx rfl (dq (dg dce 3 rfl)) ) ?_
  refine R1 (XS.goto X0.here hx rfl (pc0 := 8) (pc' := 12) rfl (dq (dg dce 4 rfl)) (by decide) (by decide)) ?_
  show Rch p e below s₁ (mkF m 12 #[vI ch] [(.int (1 : Int32))]) _
  exact Rch.fin (Q := Q_canEnc Z ch h0 n0) X0 (v := some (.int (1 : Int32))) (fun h => by rw [Bd.returns] at h; cases h) (BodyLoose.notSynchronized Bd) (fun fs hr => retN X0 hx (t := .boolean) Bd.returns (by simp) (dq (dg dce 5 rfl)) hr) (by rw [e0]; exact ⟨rfl, N0, rfl⟩) (by decide) (by decide)
def byt (cs : List Int32) : List Value := (cs.map (fun c => c.toInt8.toInt32)).map Value.int
theorem byt_len (cs : List Int32) : (byt cs).length = cs.length := by simp [byt]
theorem byt_app (cs ds : List Int32) : byt (cs ++ ds) = byt cs ++ byt ds := by simp [byt]
def Vc (Z : State) (h : Heap) (va : Addr) (cap : Nat) (cs : List Int32) : Prop := Exa Z h va "[B" ∧ ∃ k, Arv Z h va k .byte (Int32.ofNat cap) (byt cs) (.int 0)
theorem Vc.ext {Z : State} {h h' : Heap} {va : Addr} {cap : Nat} {cs : List Int32} (A : Vc Z h va cap cs) (E : Ext h h') : Vc Z h' va cap cs := by obtain ⟨q, k, v⟩ := A; exact ⟨q.ext E, k, v.ext E⟩
theorem Vc.other {Z : State} {h h' : Heap} {va b : Addr} {sl : Nat} {w : Value} {cap : Nat} {cs : List Int32} (A : Vc Z h va cap cs) (W : Wr h h' b sl w) (n : va ≠ b) : Vc Z h' va cap cs := by obtain ⟨q, k, v⟩ := A; exact ⟨q.wr W, k, v.other W n⟩
theorem Vc.keep {Z : State} {h h' : Heap} {va : Addr} {ws : List Addr} {cap : Nat} {cs : List Int32} (A : Vc Z h va cap cs) (K : Keep h h' ws) (n : va ∉ ws) : Vc Z h' va cap cs := by obtain ⟨q, k, v⟩ := A; exact ⟨q.keep K, k, v.keep K n⟩
def Sf (Z : State) (h : Heap) (a va : Addr) (n : Nat) : Prop := Exa Z h a "java/lang/StringBuilder" ∧ Fld Z h a "java/lang/AbstractStringBuilder" "value" "[B" (.ref va) ∧ Fld Z h a "java/lang/AbstractStringBuilder" "coder" "B" (.int 0) ∧ Fld Z h a "java/lang/AbstractStringBuilder" "count" "I" (.int (Int32.ofNat n))
theorem Sf.ext {Z : State} {h h' : Heap} {a va : Addr} {n : Nat} (A : Sf Z h a va n) (E : Ext h h') : Sf Z h' a va n := ⟨A.1.ext E, A.2.1.ext E, A.2.2.1.ext E, A.2.2.2.ext E⟩
theorem Sf.keep {Z : State} {h h' : Heap} {a va : Addr} {ws : List Addr} {n : Nat} (A : Sf Z h a va n) (K : Keep h h' ws) (q : a ∉ ws) : Sf Z h' a va n := ⟨A.1.keep K, A.2.1.keep K q, A.2.2.1.keep K q, A.2.2.2.keep K q⟩
def Sc (Z : State) (h : Heap) (a va : Addr) (cap : Nat) (cs : List Int32) : Prop := Sf Z h a va cs.length ∧ Vc Z h va cap cs ∧ cs.length ≤ cap ∧ cap ≤ 40
theorem Sc.ext {Z : State} {h h' : Heap} {a va : Addr} {cap : Nat} {cs : List Int32} (A : Sc Z h a va cap cs) (E : Ext h h') : Sc Z h' a va cap cs := ⟨A.1.ext E, A.2.1.ext E, A.2.2⟩
theorem Sc.ne {Z : State} {h : Heap} {a va : Addr} {cap : Nat} {cs : List Int32} (A : Sc Z h a va cap cs) : a ≠ va := A.1.1.ne A.2.1.1 (by decide)
def Lt (Z : State) (h : Heap) (x t : Addr) (cs : List Int32) : Prop := Exa Z h x "java/lang/String" ∧ Fld Z h x "java/lang/String" "value" "[B" (.ref t) ∧ Fld Z h x "java/lang/String" "coder" "B" (.int 0) ∧ ∃ k, Arv Z h t k .byte (Int32.ofNat cs.length) (byt cs) (.int 0)
theorem shl0 (x : Int32) : x <<< ((0 : Int32) &&& 31) = x := by
  rw [show ((0 : Int32) &&& 31) = 0 from by decide]; simp
theorem shr0 (x : Int32) : x >>> ((0 : Int32) &&& 31) = x := by
  rw [show ((0 : Int32) &&& 31) = 0 from by decide]; simp
theorem ofN_add (a b : Nat) : Int32.ofNat a + Int32.ofNat b = Int32.ofNat (a + b) := by simp
theorem add2n (n : Nat) : Int32.ofNat n + (2 : Int32) = Int32.ofNat (n + 2) := ofN_add n 2
theorem sub0 (x : Int32) : x - (0 : Int32) = x := by simp
theorem ofN_sub {a b : Nat} (h : a ≤ b) (hb : b ≤ 40) : Int32.ofNat b - Int32.ofNat a = Int32.ofNat (b - a) := by
  have t : ∀ x y : Fin 41, x.val ≤ y.val → Int32.ofNat y.val - Int32.ofNat x.val = Int32.ofNat (y.val - x.val) := by decide +kernel
  exact t ⟨a, by omega⟩ ⟨b, by omega⟩ h
theorem ofN_subLe {a b : Nat} (h : a ≤ b) (hb : b ≤ 40) : ¬ (0 : Int32) < Int32.ofNat a - Int32.ofNat b := by
  have t : ∀ x y : Fin 41, x.val ≤ y.val → ¬ (0 : Int32) < Int32.ofNat x.val - Int32.ofNat y.val := by decide +kernel
  exact t ⟨a, by omega⟩ ⟨b, by omega⟩ h
theorem ofN_subLt {a b : Nat} (h : b < a) (hb : a ≤ 40) : (0 : Int32) < Int32.ofNat a - Int32.ofNat b := by
  have t : ∀ x y : Fin 41, y.val < x.val → (0 : Int32) < Int32.ofNat x.val - Int32.ofNat y.val := by decide +kernel
  exact t ⟨a, by omega⟩ ⟨b, by omega⟩ h
theorem ofN_neq {a b : Nat} (h : a ≠ b) (ha : a < 2 ^ 31) (hb : b < 2 ^ 31) : ¬ Int32.ofNat a = Int32.ofNat b := fun q => by
  have z := congrArg Int32.toInt q
  rw [Int32.toInt_ofNat_small ha, Int32.toInt_ofNat_small hb] at z; omega
theorem cp_pad {vs : List Value} {d : Value} {n : Int32} (hl : vs.length ≤ n.toNatClampNeg) (i : Nat) : vs.getD i d = (List.take (0 : Int32).toNatClampNeg ([] ++ List.replicate n.toNatClampNeg d) ++ ((List.range n.toNatClampNeg).map fun i => vs.getD ((0 : Int32).toNatClampNeg + i) d) ++ List.drop ((0 : Int32).toNatClampNeg + n.toNatClampNeg) ([] ++ List.replicate n.toNatClampNeg d)).getD i d := by
  have z : (0 : Int32).toNatClampNeg = 0 := rfl
  rw [z, List.take_zero, List.nil_append, List.nil_append, Nat.zero_add, List.drop_of_length_le (by simp), List.append_nil]
  simp only [Nat.zero_add, List.getD_eq_getElem?_getD, List.getElem?_map]
  by_cases q : i < n.toNatClampNeg
  · rw [List.getElem?_range q]; simp
  · rw [List.getElem?_eq_none (by omega), List.getElem?_eq_none (by simp; omega)]; simp
theorem ap_pad {vs us : List Value} {d : Value} {x m : Int32} {n : Nat} (hx : x.toNatClampNeg = vs.length) (hm : m.toNatClampNeg = us.length) (hn : us.length = n) : List.take x.toNatClampNeg (vs ++ List.replicate n d) ++ ((List.range m.toNatClampNeg).map fun i => us.getD ((0 : Int32).toNatClampNeg + i) d) ++ List.drop (x.toNatClampNeg + m.toNatClampNeg) (vs ++ List.replicate n d) = vs ++ us := by
  have z : (0 : Int32).toNatClampNeg = 0 := rfl
  rw [z, hx, hm, List.take_left, List.drop_of_length_le (by simp; omega), List.append_nil]
  congr 1
  apply List.ext_getElem
  · simp
  · intro i h1 h2; simp [List.getD_eq_getElem?_getD, h2]
theorem set_last {vs : List Value} {d x : Value} {n : Nat} (h : vs.length = n) : (vs ++ List.replicate 1 d).set n x = vs ++ [x] := by subst h; simp
theorem addz (x : Int32) : x + (0 : Int32) = x := by simp
theorem le_or {a b k n m : Nat} (q : b = a ∨ m ≤ b) (h1 : n ≤ a) (h2 : n ≤ m) : n ≤ b := by omega
theorem same_of {Z : State} {a0 : Array Value} {C : String} {y u : MethodName} (w3 : (Cond.instanceMethod y).before a0 Z = true) (ws : (Cond.selects C u u).before a0 Z = true) (hu : u.cls = y.cls) (hy : y.cls ≠ "java/lang/invoke/MethodHandle" ∧ y.cls ≠ "java/lang/invoke/VarHandle") : (Cond.sameMethod y.cls y.cls y.name y.desc).before a0 Z = true := by
  obtain ⟨m, meth, h1, h2, -, -⟩ := Cond.instanceMethod_spec w3
  have hf := State.methodFound?_of_named h1 hy
  have hc := findClass_of_methodNamed h1
  obtain ⟨c2, r2, m2, q1, q2, q3, q4, kP, hkP, hkPi⟩ := Cond.selects_spec ws
  have hc2 := findClass_of_methodNamed q3
  rw [hu] at hc2
  have e := Option.some.inj (hc2.symm.trans hc)
  rw [e] at hkP
  have h1' : Z.methodNamed? ⟨y.cls, y.name, y.desc⟩ = some m := h1
  simp [Cond.before, Cond.holds, Cond.value, hc, hf, h1', hkP, hkPi]
theorem Cmp.keep1 {Z : State} {h h' : Heap} {a : Addr} (F : Cmp Z h) (K : Keep h h' [a]) (hn : ∀ cell : Cell, h[a]? = some cell → cell.vm.isStatics = false) : Cmp Z h' := by obtain ⟨z, S, q⟩ := F; exact ⟨z, staKeep1 S K hn, q⟩
theorem sb_vc {Z : State} {a0 : Array Value} (hw : ∀ d ∈ tables_1, d.before a0 Z = true) : Jvm.RoadKit.slotOf Z "java/lang/AbstractStringBuilder" "value" "[B" ≠ Jvm.RoadKit.slotOf Z "java/lang/AbstractStringBuilder" "coder" "B" := slot_ne (C := "java/lang/StringBuilder") (Or.inl (wq hw 57 rfl)) (Or.inl (wq hw 59 rfl)) (by decide) (t := (.array .byte)) (t' := .byte) (by decide) (by decide)
theorem sb_vn {Z : State} {a0 : Array Value} (hw : ∀ d ∈ tables_1, d.before a0 Z = true) : Jvm.RoadKit.slotOf Z "java/lang/AbstractStringBuilder" "value" "[B" ≠ Jvm.RoadKit.slotOf Z "java/lang/AbstractStringBuilder" "count" "I" := slot_ne (C := "java/lang/StringBuilder") (Or.inl (wq hw 57 rfl)) (Or.inl (wq hw 71 rfl)) (by decide) (t := (.array .byte)) (t' := .int) (by decide) (by decide)
theorem sb_cn {Z : State} {a0 : Array Value} (hw : ∀ d ∈ tables_1, d.before a0 Z = true) : Jvm.RoadKit.slotOf Z "java/lang/AbstractStringBuilder" "coder" "B" ≠ Jvm.RoadKit.slotOf Z "java/lang/AbstractStringBuilder" "count" "I" := slot_ne (C := "java/lang/StringBuilder") (Or.inl (wq hw 59 rfl)) (Or.inl (wq hw 71 rfl)) (by decide) (t := .byte) (t' := .int) (by decide) (by decide)
theorem sf_wrN {Z : State} {a0 : Array Value} (hw : ∀ d ∈ tables_1, d.before a0 Z = true) {h h' : Heap} {a va : Addr} {n m : Nat} (A : Sf Z h a va n) (W : Wr h h' a (Jvm.RoadKit.slotOf Z "java/lang/AbstractStringBuilder" "count" "I") (.int (Int32.ofNat m))) : Sf Z h' a va m := ⟨A.1.wr W, A.2.1.other W (Or.inr (sb_vn hw)), A.2.2.1.other W (Or.inr (sb_cn hw)), A.2.2.2.same W⟩
theorem sf_wrV {Z : State} {a0 : Array Value} (hw : ∀ d ∈ tables_1, d.before a0 Z = true) {h h' : Heap} {a va : Addr} {vb : Addr} {n : Nat} (A : Sf Z h a va n) (W : Wr h h' a (Jvm.RoadKit.slotOf Z "java/lang/AbstractStringBuilder" "value" "[B") (.ref vb)) : Sf Z h' a vb n := ⟨A.1.wr W, A.2.1.same W, A.2.2.1.other W (Or.inr (Ne.symm (sb_vc hw))), A.2.2.2.other W (Or.inr (Ne.symm (sb_vn hw)))⟩
theorem sc_wrV {Z : State} {a0 : Array Value} (hw : ∀ d ∈ tables_1, d.before a0 Z = true) {h h' : Heap} {a va : Addr} {vb : Addr} {cap cap2 : Nat} {cs : List Int32} (A : Sc Z h a va cap cs) (V : Vc Z h vb cap2 cs) (h1 : cs.length ≤ cap2) (h2 : cap2 ≤ 40) (W : Wr h h' a (Jvm.RoadKit.slotOf Z "java/lang/AbstractStringBuilder" "value" "[B") (.ref vb)) : Sc Z h' a vb cap2 cs := ⟨sf_wrV hw A.1 W, V.other W (Ne.symm (A.1.1.ne V.1 (by decide))), h1, h2⟩
theorem Lt.ext {Z : State} {h h' : Heap} {x t : Addr} {cs : List Int32} (A : Lt Z h x t cs) (E : Ext h h') : Lt Z h' x t cs := by obtain ⟨q1, q2, q3, k, q5⟩ := A; exact ⟨q1.ext E, q2.ext E, q3.ext E, k, q5.ext E⟩
theorem Lt.keep {Z : State} {h h' : Heap} {x t : Addr} {ws : List Addr} {cs : List Int32} (A : Lt Z h x t cs) (K : Keep h h' ws) (n1 : x ∉ ws) (n2 : t ∉ ws) : Lt Z h' x t cs := by obtain ⟨q1, q2, q3, k, q5⟩ := A; exact ⟨q1.keep K, q2.keep K n1, q3.keep K n1, k, q5.keep K n2⟩
theorem lt_keepB {Z : State} {a0 : Array Value} (hw : ∀ d ∈ tables_1, d.before a0 Z = true) {h h' : Heap} {x t a : Addr} {cs : List Int32} (A : Lt Z h x t cs) (K : Keep h h' [a]) (E : Exa Z h a "java/lang/StringBuilder") : Lt Z h' x t cs := by obtain ⟨k, q⟩ := A.2.2.2; exact A.keep K (ninS (A.1.ne E (by decide)) nin0) (ninS (Ne.symm (E.neArv q (wq hw 32 rfl))) nin0)
theorem Lt.strA {Z : State} {h : Heap} {x t : Addr} {cs : List Int32} (A : Lt Z h x t cs) (hp : ∀ c ∈ cs, ¬ c < 0 ∧ ¬ (255 : Int32) < c) : StrA Z h x cs := by obtain ⟨q1, q2, q3, k, q5⟩ := A; exact strOf rfl rfl hp q1 q2 q3 q5
theorem dmx : dxs jdk_29_method_65_code [(0, .iload_n 0, 1), (1, .iload_n 1, 1), (2, .if_icmp .lt 7, 3), (5, .iload_n 0, 1), (6, .goto 4, 3), (9, .iload_n 1, 1), (10, .ireturn, 1)] = true := by decide +kernel
theorem pn_maxN : plainFor (⟨"java/lang/Math", "max", "(II)I"⟩ : MethodName) = true := by first | exact plainFor_of_name (by first | (simp [plainName, overriddenIn]; done) | decide +kernel) | exact Jvm.Free.JP.mathPlain rfl (by decide +kernel)
def Q_maxN (Z : State) (ma mb : Nat) (h0 : Heap) (n0 : Nat) (v : Option Value) (h : Heap) (L : List Loc) : Prop := v = some (.int (Int32.ofNat (max ma mb))) ∧ Fr n0 L ∧ h = h0
set_option maxRecDepth 65536 in
set_option maxHeartbeats 40000000 in
theorem rm_maxN (l : Launch) (Z : State) (a0 : Array Value) (hw : ∀ d ∈ tables_1, d.before a0 Z = true) (ws : List Jvm.Cond) (ma mb : Nat) (h0 : Heap) (n0 : Nat) (Z0 : n0 ≤ h0.size) (h1 : ma < 2 ^ 31) (h2 : mb < 2 ^ 31) :
    MetFree l mN18 (head1 (Jvm.Cond.code mN18 jdk_29_method_65_code 2 (some .int) :: ws) rO0) (fun a U => a = #[(.int (Int32.ofNat ma)), (.int (Int32.ofNat mb))] ∧ Z.Warmed39 U.vm ∧ U.heap = h0) (fun _ _ _ _ _ => True) (fun _ U o U' => ∃ v L, o = .returned v ∧ Q_maxN Z ma mb h0 n0 v U'.heap L ∧ FrameEnd U o U' L rO0.cells rO0.slots) := by
  refine MetFree.of_bodySF pn_maxN hisR ?_
  intro p e s m args below meth c s₁ Bd hml0 hP hK
  obtain ⟨rfl, hZ, hh⟩ := hP
  have hx := Bd.exec
  have hby := Bd.bytes
  have dq := @hb _ _ hby
  have hml : c.maxLocals = 2 := hml0
  have X0 : Stand p l e rO0 s m #[(.int (Int32.ofNat ma)), (.int (Int32.ofNat mb))] below meth c s₁ [] 0 0 := Stand.of_body Bd
  have e0 : s₁.heap = h0 := by rw [← hh, Bd.state]; rfl
  have N0 := Fr.nil n0
  show Rch p e below s₁ _ _
  refine Rch.cast (ef_schk m (Int32.ofNat ma) (Int32.ofNat mb)) ?_
  show Rch p e below s₁ (mkF m 0 #[vI (Int32.ofNat ma), vI (Int32.ofNat mb)] []) _
  refine R1 (XS.iloadN X0.here hx rfl (dq (dg dmx 0 rfl)) rfl) ?_
  refine R1 (XS.iloadN X0.here hx rfl (dq (dg dmx 1 rfl)) rfl) ?_
  show Rch p e below s₁ (mkF m 2 #[vI (Int32.ofNat ma), vI (Int32.ofNat mb)] [(.int (Int32.ofNat mb)), (.int (Int32.ofNat ma))]) _
  by_cases hlt : ma < mb
  · skip
    refine R1 (XS.icmpYes X0.here hx rfl (pc0 := 2) (pc' := 9) rfl (dq (dg dmx 2 rfl)) rfl (tlt (ofN_lt hlt h2)).1 (by decide) (by decide)) ?_
    refine R1 (XS.iloadN X0.here hx rfl (dq (dg dmx 5 rfl)) rfl) ?_
    show Rch p e below s₁ (mkF m 10 #[vI (Int32.ofNat ma), vI (Int32.ofNat mb)] [(.int (Int32.ofNat mb))]) _
    exact Rch.fin (Q := Q_maxN Z ma mb h0 n0) X0 (v := some (.int (Int32.ofNat mb))) (fun h => by rw [Bd.returns] at h; cases h) (BodyLoose.notSynchronized Bd) (fun fs hr => retI X0 hx Bd.returns (dq (dg dmx 6 rfl)) hr) (by rw [e0]; exact ⟨by rw [Nat.max_eq_right (Nat.le_of_lt hlt)], N0, rfl⟩) (by decide) (by decide)
  · skip
    refine R1 (XS.icmpNo X0.here hx rfl (dq (dg dmx 2 rfl)) rfl (flt (ofN_le (Nat.le_of_not_lt hlt) h1)).1) ?_
    refine R1 (XS.iloadN X0.here hx rfl (dq (dg dmx 3 rfl)) rfl) ?_
    refine R1 (XS.goto X0.here hx rfl (pc0 := 6) (pc' := 10) rfl (dq (dg dmx 4 rfl)) (by decide) (by decide)) ?_
    show Rch p e below s₁ (mkF m 10 #[vI (Int32.ofNat ma), vI (Int32.ofNat mb)] [(.int (Int32.ofNat ma))]) _
    exact Rch.fin (Q := Q_maxN Z ma mb h0 n0) X0 (v := some (.int (Int32.ofNat ma))) (fun h => by rw [Bd.returns] at h; cases h) (BodyLoose.notSynchronized Bd) (fun fs hr => retI X0 hx Bd.returns (dq (dg dmx 6 rfl)) hr) (by rw [e0]; exact ⟨by rw [Nat.max_eq_left (Nat.le_of_not_lt hlt)], N0, rfl⟩) (by decide) (by decide)
theorem dmn : dxs jdk_29_method_69_code [(0, .iload_n 0, 1), (1, .iload_n 1, 1), (2, .if_icmp .gt 7, 3), (5, .iload_n 0, 1), (6, .goto 4, 3), (9, .iload_n 1, 1), (10, .ireturn, 1)] = true := by decide +kernel
theorem pn_minN : plainFor (⟨"java/lang/Math", "min", "(II)I"⟩ : MethodName) = true := by first | exact plainFor_of_name (by first | (simp [plainName, overriddenIn]; done) | decide +kernel) | exact Jvm.Free.JP.mathPlain rfl (by decide +kernel)
def Q_minN (Z : State) (ma mb : Nat) (h0 : Heap) (n0 : Nat) (v : Option Value) (h : Heap) (L : List Loc) : Prop := v = some (.int (Int32.ofNat ma)) ∧ Fr n0 L ∧ h = h0
set_option maxRecDepth 65536 in
set_option maxHeartbeats 40000000 in
theorem rm_minN (l : Launch) (Z : State) (a0 : Array Value) (hw : ∀ d ∈ tables_1, d.before a0 Z = true) (ws : List Jvm.Cond) (ma mb : Nat) (h0 : Heap) (n0 : Nat) (Z0 : n0 ≤ h0.size) (hle : ma ≤ mb) (h2 : mb < 2 ^ 31) :
    MetFree l mN19 (head1 (Jvm.Cond.code mN19 jdk_29_method_69_code 2 (some .int) :: ws) rO0) (fun a U => a = #[(.int (Int32.ofNat ma)), (.int (Int32.ofNat mb))] ∧ Z.Warmed39 U.vm ∧ U.heap = h0) (fun _ _ _ _ _ => True) (fun _ U o U' => ∃ v L, o = .returned v ∧ Q_minN Z ma mb h0 n0 v U'.heap L ∧ FrameEnd U o U' L rO0.cells rO0.slots) := by
  refine MetFree.of_bodySF pn_minN hisR ?_
  intro p e s m args below meth c s₁ Bd hml0 hP hK
  obtain ⟨rfl, hZ, hh⟩ := hP
  have hx := Bd.exec
  have hby := Bd.bytes
  have dq := @hb _ _ hby
  have hml : c.maxLocals = 2 := hml0
  have X0 : Stand p l e rO0 s m #[(.int (Int32.ofNat ma)), (.int (Int32.ofNat mb))] below meth c s₁ [] 0 0 := Stand.of_body Bd
  have e0 : s₁.heap = h0 := by rw [← hh, Bd.state]; rfl
  have N0 := Fr.nil n0
  show Rch p e below s₁ _ _
  refine Rch.cast (ef_schk m (Int32.ofNat ma) (Int32.ofNat mb)) ?_
  show Rch p e below s₁ (mkF m 0 #[vI (Int32.ofNat ma), vI (Int32.ofNat mb)] []) _
  refine R1 (XS.iloadN X0.here hx rfl (dq (dg dmn 0 rfl)) rfl) ?_
  refine R1 (XS.iloadN X0.here hx rfl (dq (dg dmn 1 rfl)) rfl) ?_
  refine R1 (XS.icmpNo X0.here hx rfl (dq (dg dmn 2 rfl)) rfl (flt (ofN_le hle h2)).2.2.1) ?_
  refine R1 (XS.iloadN X0.here hx rfl (dq (dg dmn 3 rfl)) rfl) ?_
  refine R1 (XS.goto X0.here hx rfl (pc0 := 6) (pc' := 10) rfl (dq (dg dmn 4 rfl)) (by decide) (by decide)) ?_
  show Rch p e below s₁ (mkF m 10 #[vI (Int32.ofNat ma), vI (Int32.ofNat mb)] [(.int (Int32.ofNat ma))]) _
  exact Rch.fin (Q := Q_minN Z ma mb h0 n0) X0 (v := some (.int (Int32.ofNat ma))) (fun h => by rw [Bd.returns] at h; cases h) (BodyLoose.notSynchronized Bd) (fun fs hr => retI X0 hx Bd.returns (dq (dg dmn 6 rfl)) hr) (by rw [e0]; exact ⟨rfl, N0, rfl⟩) (by decide) (by decide)
def Q_minM (Z : State) (ma mb : Nat) (h0 : Heap) (n0 : Nat) (v : Option Value) (h : Heap) (L : List Loc) : Prop := v = some (.int (Int32.ofNat mb)) ∧ Fr n0 L ∧ h = h0
set_option maxRecDepth 65536 in
set_option maxHeartbeats 40000000 in
theorem rm_minM (l : Launch) (Z : State) (a0 : Array Value) (hw : ∀ d ∈ tables_1, d.before a0 Z = true) (ws : List Jvm.Cond) (ma mb : Nat) (h0 : Heap) (n0 : Nat) (Z0 : n0 ≤ h0.size) (hle : mb ≤ ma) (h2 : ma < 2 ^ 31) :
    MetFree l mN19 (head1 (Jvm.Cond.code mN19 jdk_29_method_69_code 2 (some .int) :: ws) rO0) (fun a U => a = #[(.int (Int32.ofNat ma)), (.int (Int32.ofNat mb))] ∧ Z.Warmed39 U.vm ∧ U.heap = h0) (fun _ _ _ _ _ => True) (fun _ U o U' => ∃ v L, o = .returned v ∧ Q_minM Z ma mb h0 n0 v U'.heap L ∧ FrameEnd U o U' L rO0.cells rO0.slots) := by
  refine MetFree.of_bodySF pn_minN hisR ?_
  intro p e s m args below meth c s₁ Bd hml0 hP hK
  obtain ⟨rfl, hZ, hh⟩ := hP
  have hx := Bd.exec
  have hby := Bd.bytes
  have dq := @hb _ _ hby
  have hml : c.maxLocals = 2 := hml0
  have X0 : Stand p l e rO0 s m #[(.int (Int32.ofNat ma)), (.int (Int32.ofNat mb))] below meth c s₁ [] 0 0 := Stand.of_body Bd
  have e0 : s₁.heap = h0 := by rw [← hh, Bd.state]; rfl
  have N0 := Fr.nil n0
  show Rch p e below s₁ _ _
  refine Rch.cast (ef_schk m (Int32.ofNat ma) (Int32.ofNat mb)) ?_
  show Rch p e below s₁ (mkF m 0 #[vI (Int32.ofNat ma), vI (Int32.ofNat mb)] []) _
  refine R1 (XS.iloadN X0.here hx rfl (dq (dg dmn 0 rfl)) rfl) ?_
  refine R1 (XS.iloadN X0.here hx rfl (dq (dg dmn 1 rfl)) rfl) ?_
  show Rch p e below s₁ (mkF m 2 #[vI (Int32.ofNat ma), vI (Int32.ofNat mb)] [(.int (Int32.ofNat mb)), (.int (Int32.ofNat ma))]) _
  by_cases hlt : mb < ma
  · skip
    refine R1 (XS.icmpYes X0.here hx rfl (pc0 := 2) (pc' := 9) rfl (dq (dg dmn 2 rfl)) rfl (tlt (ofN_lt hlt h2)).2.2.1 (by decide) (by decide)) ?_
    refine R1 (XS.iloadN X0.here hx rfl (dq (dg dmn 5 rfl)) rfl) ?_
    show Rch p e below s₁ (mkF m 10 #[vI (Int32.ofNat ma), vI (Int32.ofNat mb)] [(.int (Int32.ofNat mb))]) _
    exact Rch.fin (Q := Q_minM Z ma mb h0 n0) X0 (v := some (.int (Int32.ofNat mb))) (fun h => by rw [Bd.returns] at h; cases h) (BodyLoose.notSynchronized Bd) (fun fs hr => retI X0 hx Bd.returns (dq (dg dmn 6 rfl)) hr) (by rw [e0]; exact ⟨rfl, N0, rfl⟩) (by decide) (by decide)
  · skip
    refine R1 (XS.icmpNo X0.here hx rfl (dq (dg dmn 2 rfl)) rfl (flt (ofN_le (Nat.le_of_not_lt hlt) (by omega))).2.2.1) ?_
    refine R1 (XS.iloadN X0.here hx rfl (dq (dg dmn 3 rfl)) rfl) ?_
    refine R1 (XS.goto X0.here hx rfl (pc0 := 6) (pc' := 10) rfl (dq (dg dmn 4 rfl)) (by decide) (by decide)) ?_
    show Rch p e below s₁ (mkF m 10 #[vI (Int32.ofNat ma), vI (Int32.ofNat mb)] [(.int (Int32.ofNat ma))]) _
    obtain rfl : ma = mb := Nat.le_antisymm (Nat.le_of_not_lt hlt) hle
    exact Rch.fin (Q := Q_minM Z ma ma h0 n0) X0 (v := some (.int (Int32.ofNat ma))) (fun h => by rw [Bd.returns] at h; cases h) (BodyLoose.notSynchronized Bd) (fun fs hr => retI X0 hx Bd.returns (dq (dg dmn 6 rfl)) hr) (by rw [e0]; exact ⟨rfl, N0, rfl⟩) (by decide) (by decide)
theorem dnw : dxs jdk_48_method_27_code [(0, .iload_n 0, 1), (1, .iload_n 1, 1), (2, .iload_n 2, 1), (3, .invokestatic 194, 3), (6, .iadd, 1), (7, .istore_n 3, 1), (8, .iconst 0, 1), (9, .iload_n 3, 1), (10, .if_icmp .ge 11, 3), (13, .iload_n 3, 1), (14, .ldc 200, 2), (16, .if_icmp .gt 5, 3), (19, .iload_n 3, 1), (20, .ireturn, 1)] = true := by decide +kernel
theorem pn_nlen : plainFor (⟨"jdk/internal/util/ArraysSupport", "newLength", "(III)I"⟩ : MethodName) = true := plainFor_of_name (by first | (simp [plainName, overriddenIn]; done) | decide +kernel)
theorem ef_nlen (m : MethodId) (x0 : Int32) (x1 : Int32) (x2 : Int32) : entryFrame m #[(.int x0), (.int x1), (.int x2)] 4 = mkF m 0 #[vI x0, vI x1, vI x2, .unset] [] := by first | (simp [entryFrame, mkF, argsToLocals, Value.category]; done) | rfl
def Q_nlen (Z : State) (mo mg mp : Nat) (h0 : Heap) (n0 : Nat) (v : Option Value) (h : Heap) (L : List Loc) : Prop := v = some (.int (Int32.ofNat (mo + max mg mp))) ∧ Fr n0 L ∧ h = h0
set_option maxRecDepth 65536 in
set_option maxHeartbeats 40000000 in
theorem rm_nlen (l : Launch) (Z : State) (a0 : Array Value) (hw : ∀ d ∈ tables_1, d.before a0 Z = true) (ws : List Jvm.Cond) (mo mg mp : Nat) (h0 : Heap) (n0 : Nat) (Z0 : n0 ≤ h0.size) (h1 : mo ≤ 100) (h2 : mg ≤ 100) (h3 : mp ≤ 100) (h4 : 0 < mp) :
    MetFree l mN20 (head1 (Jvm.Cond.code mN20 jdk_48_method_27_code 4 (some .int) :: ws) rO1) (fun a U => a = #[(.int (Int32.ofNat mo)), (.int (Int32.ofNat mg)), (.int (Int32.ofNat mp))] ∧ Z.Warmed39 U.vm ∧ U.heap = h0) (fun _ _ _ _ _ => True) (fun _ U o U' => ∃ v L, o = .returned v ∧ Q_nlen Z mo mg mp h0 n0 v U'.heap L ∧ FrameEnd U o U' L rO1.cells rO1.slots) := by
  refine MetFree.of_bodySF pn_nlen hisR ?_
  intro p e s m args below meth c s₁ Bd hml0 hP hK
  obtain ⟨rfl, hZ, hh⟩ := hP
  have hx := Bd.exec
  have hby := Bd.bytes
  have dq := @hb _ _ hby
  have hml : c.maxLocals = 4 := hml0
  have hown : s.vm.findClass "jdk/internal/util/ArraysSupport" = some m.cls := findClass_of_methodNamed Bd.named
  have X0 : Stand p l e rO1 s m #[(.int (Int32.ofNat mo)), (.int (Int32.ofNat mg)), (.int (Int32.ofNat mp))] below meth c s₁ [] 0 0 := Stand.of_body Bd
  have e0 : s₁.heap = h0 := by rw [← hh, Bd.state]; rfl
  have N0 := Fr.nil n0
  show Rch p e below s₁ _ _
  refine Rch.cast (ef_nlen m (Int32.ofNat mo) (Int32.ofNat mg) (Int32.ofNat mp)) ?_
  show Rch p e below s₁ (mkF m 0 #[vI (Int32.ofNat mo), vI (Int32.ofNat mg), vI (Int32.ofNat mp), .unset] []) _
  refine R1 (XS.iloadN X0.here hx rfl (dq (dg dnw 0 rfl)) rfl) ?_
  refine R1 (XS.iloadN X0.here hx rfl (dq (dg dnw 1 rfl)) rfl) ?_
  refine R1 (XS.iloadN X0.here hx rfl (dq (dg dnw 2 rfl)) rfl) ?_
  show Rch p e below s₁ (mkF m 3 #[vI (Int32.ofNat mo), vI (Int32.ofNat mg), vI (Int32.ofNat mp), .unset] [(.int (Int32.ofNat mp)), (.int (Int32.ofNat mg)), (.int (Int32.ofNat mo))]) _
  obtain ⟨_, _, ⟨T115, L115, k115, n115⟩, -, X115, ⟨Lc115, hQ115, l115, y115, z115⟩, st115⟩ := Jvm.LawKit.callS X0 hx (y := mN18) hown (mw hZ hw 205 rfl) (mw hZ hw 206 rfl) (mw hZ hw 207 rfl) (mw hZ hw 208 rfl) (by decide) (backOf (W := 1) (rm_maxN l Z a0 hw [] mg mp h0 n0 Z0 (by omega) (by omega)) hZ (wq hw 208 rfl) (wq hw 207 rfl) (by decide) (by decide)) (g := (mkF m 3 #[vI (Int32.ofNat mo), vI (Int32.ofNat mg), vI (Int32.ofNat mp), .unset] [(.int (Int32.ofNat mp)), (.int (Int32.ofNat mg)), (.int (Int32.ofNat mo))])) rfl (by rw [hml]; rfl) (argsL := [(.int (Int32.ofNat mg)), (.int (Int32.ofNat mp))]) (rest := [(.int (Int32.ofNat mo))]) (lenOf pd_13 rfl) rfl (w0 rfl) (dq (dg dnw 3 rfl)) (fun _ _ => ⟨rfl, e0, (by decide : 0 + 0 ≤ _), (by decide : 0 + 0 ≤ _)⟩)
  dsimp only [Pt.U, Pt.locs, Pt.cells, Pt.slots] at X115 l115 y115 z115 st115 hQ115
  subst l115 y115 z115
  obtain ⟨rfl, Nq115, e115⟩ := hQ115
  have N115 := Fr.app N0 Nq115
  refine R0_ st115 ?_
  show Rch p e below T115 (mkF m 6 #[vI (Int32.ofNat mo), vI (Int32.ofNat mg), vI (Int32.ofNat mp), .unset] [(.int (Int32.ofNat (max mg mp))), (.int (Int32.ofNat mo))]) _
  refine R1 (XS.iadd X115.here hx rfl (dq (dg dnw 4 rfl)) rfl) ?_
  show Rch p e below T115 (mkF m 7 #[vI (Int32.ofNat mo), vI (Int32.ofNat mg), vI (Int32.ofNat mp), .unset] [(.int ((Int32.ofNat mo) + (Int32.ofNat (max mg mp))))]) _
  rw [ofN_add]
  show Rch p e below T115 (mkF m 7 #[vI (Int32.ofNat mo), vI (Int32.ofNat mg), vI (Int32.ofNat mp), .unset] [(.int (Int32.ofNat (mo + max mg mp)))]) _
  have hm : 0 < mo + max mg mp ∧ mo + max mg mp ≤ 200 := by omega
  refine R1 (XS.istoreN X115.here hx rfl (dq (dg dnw 5 rfl)) rfl (l' := #[vI (Int32.ofNat mo), vI (Int32.ofNat mg), vI (Int32.ofNat mp), vI (Int32.ofNat (mo + max mg mp))]) rfl) ?_
  refine R1 (XS.iconst X115.here hx rfl (dq (dg dnw 6 rfl)) ) ?_
  refine R1 (XS.iloadN X115.here hx rfl (dq (dg dnw 7 rfl)) rfl) ?_
  refine R1 (XS.icmpNo X115.here hx rfl (dq (dg dnw 8 rfl)) rfl (tlt (ofN_lt (i := 0) hm.1 (by omega))).2.1) ?_
  refine R1 (XS.iloadN X115.here hx rfl (dq (dg dnw 9 rfl)) rfl) ?_
  show Rch p e below T115 (mkF m 14 #[vI (Int32.ofNat mo), vI (Int32.ofNat mg), vI (Int32.ofNat mp), vI (Int32.ofNat (mo + max mg mp))] [(.int (Int32.ofNat (mo + max mg mp)))]) _
  refine R0_ (X115.ldcInt hx hown (mw hZ hw 209 rfl) (g := (mkF m 14 #[vI (Int32.ofNat mo), vI (Int32.ofNat mg), vI (Int32.ofNat mp), vI (Int32.ofNat (mo + max mg mp))] [(.int (Int32.ofNat (mo + max mg mp)))])) rfl (dq (dg dnw 10 rfl))) ?_
  show Rch p e below T115 (mkF m 16 #[vI (Int32.ofNat mo), vI (Int32.ofNat mg), vI (Int32.ofNat mp), vI (Int32.ofNat (mo + max mg mp))] [(.int (2147483639 : Int32)), (.int (Int32.ofNat (mo + max mg mp)))]) _
  refine R1 (XS.icmpNo X115.here hx rfl (dq (dg dnw 11 rfl)) rfl (flt (ofN_le (n := mo + max mg mp) (i := 2147483639) (by omega) (by decide))).2.2.1) ?_
  refine R1 (XS.iloadN X115.here hx rfl (dq (dg dnw 12 rfl)) rfl) ?_
  show Rch p e below T115 (mkF m 20 #[vI (Int32.ofNat mo), vI (Int32.ofNat mg), vI (Int32.ofNat mp), vI (Int32.ofNat (mo + max mg mp))] [(.int (Int32.ofNat (mo + max mg mp)))]) _
  exact Rch.fin (Q := Q_nlen Z mo mg mp h0 n0) X115 (v := some (.int (Int32.ofNat (mo + max mg mp)))) (fun h => by rw [Bd.returns] at h; cases h) (BodyLoose.notSynchronized Bd) (fun fs hr => retI X115 hx Bd.returns (dq (dg dnw 13 rfl)) hr) (by rw [e115]; exact ⟨rfl, N115, rfl⟩) (by decide) (by decide)
theorem dnc : dxs jdk_68_method_10_code [(0, .aload_n 0, 1), (1, .getfield 15, 3), (4, .arraylength, 1), (5, .istore_n 2, 1), (6, .iload_n 1, 1), (7, .aload_n 0, 1), (8, .getfield 22, 3), (11, .ishl, 1), (12, .istore_n 3, 1), (13, .iload_n 3, 1), (14, .iload_n 2, 1), (15, .isub, 1), (16, .istore 4, 2), (18, .iload_n 2, 1), (19, .iload 4, 2), (21, .iload_n 2, 1), (22, .iconst 2, 1), (23, .aload_n 0, 1), (24, .getfield 22, 3), (27, .ishl, 1), (28, .iadd, 1), (29, .invokestatic 114, 3), (32, .istore 5, 2), (34, .iload 5, 2), (36, .ldc 39, 2), (38, .if_icmp .ne 13, 3), (51, .iload 5, 2), (53, .aload_n 0, 1), (54, .getfield 22, 3), (57, .ishr, 1), (58, .ireturn, 1)] = true := by decide +kernel
theorem pn_ncap : plainFor (⟨"java/lang/AbstractStringBuilder", "newCapacity", "(I)I"⟩ : MethodName) = true := plainFor_of_name (by first | (simp [plainName, overriddenIn]; done) | decide +kernel)
theorem ef_ncap (m : MethodId) (x0 : Addr) (x1 : Int32) : entryFrame m #[(.ref x0), (.int x1)] 6 = mkF m 0 #[vR x0, vI x1, .unset, .unset, .unset, .unset] [] := by first | (simp [entryFrame, mkF, argsToLocals, Value.category]; done) | rfl
def Q_ncap (Z : State) (ta va : Addr) (cap mq : Nat) (cs : List Int32) (h0 : Heap) (n0 : Nat) (v : Option Value) (h : Heap) (L : List Loc) : Prop := v = some (.int (Int32.ofNat (cap + max (mq - cap) (cap + 2)))) ∧ Fr n0 L ∧ h = h0
set_option maxRecDepth 65536 in
set_option maxHeartbeats 40000000 in
theorem rm_ncap (l : Launch) (Z : State) (a0 : Array Value) (hw : ∀ d ∈ tables_1, d.before a0 Z = true) (ws : List Jvm.Cond) (ta va : Addr) (cap mq : Nat) (cs : List Int32) (h0 : Heap) (n0 : Nat) (Z0 : n0 ≤ h0.size) (B : Sc Z h0 ta va cap cs) (hlt : cap < mq) (hq : mq ≤ 20) :
    MetFree l mN21 (head1 (Jvm.Cond.code mN21 jdk_68_method_10_code 6 (some .int) :: ws) rO16) (fun a U => a = #[(.ref ta), (.int (Int32.ofNat mq))] ∧ Z.Warmed39 U.vm ∧ U.heap = h0) (fun _ _ _ _ _ => True) (fun _ U o U' => ∃ v L, o = .returned v ∧ Q_ncap Z ta va cap mq cs h0 n0 v U'.heap L ∧ FrameEnd U o U' L rO16.cells rO16.slots) := by
  refine MetFree.of_bodySF pn_ncap hisR ?_
  intro p e s m args below meth c s₁ Bd hml0 hP hK
  obtain ⟨rfl, hZ, hh⟩ := hP
  have hx := Bd.exec
  have hby := Bd.bytes
  have dq := @hb _ _ hby
  have hml : c.maxLocals = 6 := hml0
  have hown : s.vm.findClass "java/lang/AbstractStringBuilder" = some m.cls := findClass_of_methodNamed Bd.named
  have X0 : Stand p l e rO16 s m #[(.ref ta), (.int (Int32.ofNat mq))] below meth c s₁ [] 0 0 := Stand.of_body Bd
  have e0 : s₁.heap = h0 := by rw [← hh, Bd.state]; rfl
  have N0 := Fr.nil n0
  show Rch p e below s₁ _ _
  refine Rch.cast (ef_ncap m ta (Int32.ofNat mq)) ?_
  show Rch p e below s₁ (mkF m 0 #[vR ta, vI (Int32.ofNat mq), .unset, .unset, .unset, .unset] []) _
  obtain ⟨EV, kv, VA⟩ := id B.2.1
  refine R1 (XS.aloadN X0.here hx rfl (dq (dg dnc 0 rfl)) rfl rfl) ?_
  show Rch p e below s₁ (mkF m 1 #[vR ta, vI (Int32.ofNat mq), .unset, .unset, .unset, .unset] [(.ref ta)]) _
  obtain ⟨T116, X116, e116, st116⟩ := getF X0 hx hZ hown (host := "") (Or.inl (wq hw 56 rfl)) Via.refl e0 B.1.2.1 (g := (mkF m 1 #[vR ta, vI (Int32.ofNat mq), .unset, .unset, .unset, .unset] [(.ref ta)])) rfl rfl (dq (dg dnc 1 rfl))
  refine R0_ st116 ?_
  show Rch p e below T116 (mkF m 4 #[vR ta, vI (Int32.ofNat mq), .unset, .unset, .unset, .unset] [(.ref va)]) _
  refine R0_ (alenA X116 hx hZ e116 VA.arh (g := (mkF m 4 #[vR ta, vI (Int32.ofNat mq), .unset, .unset, .unset, .unset] [(.ref va)])) rfl rfl (dq (dg dnc 2 rfl))) ?_
  show Rch p e below T116 (mkF m 5 #[vR ta, vI (Int32.ofNat mq), .unset, .unset, .unset, .unset] [(.int (Int32.ofNat cap))]) _
  refine R1 (XS.istoreN X116.here hx rfl (dq (dg dnc 3 rfl)) rfl (l' := #[vR ta, vI (Int32.ofNat mq), vI (Int32.ofNat cap), .unset, .unset, .unset]) rfl) ?_
  refine R1 (XS.iloadN X116.here hx rfl (dq (dg dnc 4 rfl)) rfl) ?_
  refine R1 (XS.aloadN X116.here hx rfl (dq (dg dnc 5 rfl)) rfl rfl) ?_
  show Rch p e below T116 (mkF m 8 #[vR ta, vI (Int32.ofNat mq), vI (Int32.ofNat cap), .unset, .unset, .unset] [(.ref ta), (.int (Int32.ofNat mq))]) _
  obtain ⟨T117, X117, e117, st117⟩ := getF X116 hx hZ hown (host := "") (Or.inl (wq hw 58 rfl)) Via.refl e116 B.1.2.2.1 (g := (mkF m 8 #[vR ta, vI (Int32.ofNat mq), vI (Int32.ofNat cap), .unset, .unset, .unset] [(.ref ta), (.int (Int32.ofNat mq))])) rfl rfl (dq (dg dnc 6 rfl))
  refine R0_ st117 ?_
  show Rch p e below T117 (mkF m 11 #[vR ta, vI (Int32.ofNat mq), vI (Int32.ofNat cap), .unset, .unset, .unset] [(.int (0 : Int32)), (.int (Int32.ofNat mq))]) _
  refine R1 (XT.ishl X117.here hx rfl (dq (dg dnc 7 rfl)) rfl) ?_
  show Rch p e below T117 (mkF m 12 #[vR ta, vI (Int32.ofNat mq), vI (Int32.ofNat cap), .unset, .unset, .unset] [(.int ((Int32.ofNat mq) <<< ((0 : Int32) &&& 31)))]) _
  rw [shl0]
  show Rch p e below T117 (mkF m 12 #[vR ta, vI (Int32.ofNat mq), vI (Int32.ofNat cap), .unset, .unset, .unset] [(.int (Int32.ofNat mq))]) _
  refine R1 (XS.istoreN X117.here hx rfl (dq (dg dnc 8 rfl)) rfl (l' := #[vR ta, vI (Int32.ofNat mq), vI (Int32.ofNat cap), vI (Int32.ofNat mq), .unset, .unset]) rfl) ?_
  refine R1 (XS.iloadN X117.here hx rfl (dq (dg dnc 9 rfl)) rfl) ?_
  refine R1 (XS.iloadN X117.here hx rfl (dq (dg dnc 10 rfl)) rfl) ?_
  refine R1 (XS.isub X117.here hx rfl (dq (dg dnc 11 rfl)) rfl) ?_
  show Rch p e below T117 (mkF m 16 #[vR ta, vI (Int32.ofNat mq), vI (Int32.ofNat cap), vI (Int32.ofNat mq), .unset, .unset] [(.int ((Int32.ofNat mq) - (Int32.ofNat cap)))]) _
  rw [ofN_sub (Nat.le_of_lt hlt) (by omega)]
  show Rch p e below T117 (mkF m 16 #[vR ta, vI (Int32.ofNat mq), vI (Int32.ofNat cap), vI (Int32.ofNat mq), .unset, .unset] [(.int (Int32.ofNat (mq - cap)))]) _
  refine R1 (XS.istore X117.here hx rfl (dq (dg dnc 12 rfl)) rfl (l' := #[vR ta, vI (Int32.ofNat mq), vI (Int32.ofNat cap), vI (Int32.ofNat mq), vI (Int32.ofNat (mq - cap)), .unset]) rfl) ?_
  refine R1 (XS.iloadN X117.here hx rfl (dq (dg dnc 13 rfl)) rfl) ?_
  refine R1 (XS.iload X117.here hx rfl (dq (dg dnc 14 rfl)) rfl) ?_
  refine R1 (XS.iloadN X117.here hx rfl (dq (dg dnc 15 rfl)) rfl) ?_
  refine R1 (XS.iconst X117.here hx rfl (dq (dg dnc 16 rfl)) ) ?_
  refine R1 (XS.aloadN X117.here hx rfl (dq (dg dnc 17 rfl)) rfl rfl) ?_
  show Rch p e below T117 (mkF m 24 #[vR ta, vI (Int32.ofNat mq), vI (Int32.ofNat cap), vI (Int32.ofNat mq), vI (Int32.ofNat (mq - cap)), .unset] [(.ref ta), (.int (2 : Int32)), (.int (Int32.ofNat cap)), (.int (Int32.ofNat (mq - cap))), (.int (Int32.ofNat cap))]) _
  obtain ⟨T118, X118, e118, st118⟩ := getF X117 hx hZ hown (host := "") (Or.inl (wq hw 58 rfl)) Via.refl e117 B.1.2.2.1 (g := (mkF m 24 #[vR ta, vI (Int32.ofNat mq), vI (Int32.ofNat cap), vI (Int32.ofNat mq), vI (Int32.ofNat (mq - cap)), .unset] [(.ref ta), (.int (2 : Int32)), (.int (Int32.ofNat cap)), (.int (Int32.ofNat (mq - cap))), (.int (Int32.ofNat cap))])) rfl rfl (dq (dg dnc 18 rfl))
  refine R0_ st118 ?_
  show Rch p e below T118 (mkF m 27 #[vR ta, vI (Int32.ofNat mq), vI (Int32.ofNat cap), vI (Int32.ofNat mq), vI (Int32.ofNat (mq - cap)), .unset] [(.int (0 : Int32)), (.int (2 : Int32)), (.int (Int32.ofNat cap)), (.int (Int32.ofNat (mq - cap))), (.int (Int32.ofNat cap))]) _
  refine R1 (XT.ishl X118.here hx rfl (dq (dg dnc 19 rfl)) rfl) ?_
  show Rch p e below T118 (mkF m 28 #[vR ta, vI (Int32.ofNat mq), vI (Int32.ofNat cap), vI (Int32.ofNat mq), vI (Int32.ofNat (mq - cap)), .unset] [(.int ((2 : Int32) <<< ((0 : Int32) &&& 31))), (.int (Int32.ofNat cap)), (.int (Int32.ofNat (mq - cap))), (.int (Int32.ofNat cap))]) _
  rw [shl0]
  show Rch p e below T118 (mkF m 28 #[vR ta, vI (Int32.ofNat mq), vI (Int32.ofNat cap), vI (Int32.ofNat mq), vI (Int32.ofNat (mq - cap)), .unset] [(.int (2 : Int32)), (.int (Int32.ofNat cap)), (.int (Int32.ofNat (mq - cap))), (.int (Int32.ofNat cap))]) _
  refine R1 (XS.iadd X118.here hx rfl (dq (dg dnc 20 rfl)) rfl) ?_
  show Rch p e below T118 (mkF m 29 #[vR ta, vI (Int32.ofNat mq), vI (Int32.ofNat cap), vI (Int32.ofNat mq), vI (Int32.ofNat (mq - cap)), .unset] [(.int ((Int32.ofNat cap) + (2 : Int32))), (.int (Int32.ofNat (mq - cap))), (.int (Int32.ofNat cap))]) _
  rw [add2n]
  show Rch p e below T118 (mkF m 29 #[vR ta, vI (Int32.ofNat mq), vI (Int32.ofNat cap), vI (Int32.ofNat mq), vI (Int32.ofNat (mq - cap)), .unset] [(.int (Int32.ofNat (cap + 2))), (.int (Int32.ofNat (mq - cap))), (.int (Int32.ofNat cap))]) _
  obtain ⟨_, _, ⟨T119, L119, k119, n119⟩, -, X119, ⟨Lc119, hQ119, l119, y119, z119⟩, st119⟩ := Jvm.LawKit.callS X118 hx (y := mN20) hown (mw hZ hw 201 rfl) (mw hZ hw 202 rfl) (mw hZ hw 203 rfl) (mw hZ hw 204 rfl) (by decide) (backOf (W := 0) (rm_nlen l Z a0 hw [] cap (mq - cap) (cap + 2) h0 n0 Z0 (by omega) (by omega) (by omega) (by omega)) hZ (wq hw 204 rfl) (wq hw 203 rfl) (by decide) (by decide)) (g := (mkF m 29 #[vR ta, vI (Int32.ofNat mq), vI (Int32.ofNat cap), vI (Int32.ofNat mq), vI (Int32.ofNat (mq - cap)), .unset] [(.int (Int32.ofNat (cap + 2))), (.int (Int32.ofNat (mq - cap))), (.int (Int32.ofNat cap))])) rfl (by rw [hml]; rfl) (argsL := [(.int (Int32.ofNat cap)), (.int (Int32.ofNat (mq - cap))), (.int (Int32.ofNat (cap + 2)))]) (rest := []) (lenOf pd_14 rfl) rfl (w0 rfl) (dq (dg dnc 21 rfl)) (fun _ _ => ⟨rfl, e118, (by decide : 0 + 0 ≤ _), (by decide : 0 + 0 ≤ _)⟩)
  dsimp only [Pt.U, Pt.locs, Pt.cells, Pt.slots] at X119 l119 y119 z119 st119 hQ119
  subst l119 y119 z119
  obtain ⟨rfl, Nq119, e119⟩ := hQ119
  have N119 := Fr.app N0 Nq119
  refine R0_ st119 ?_
  show Rch p e below T119 (mkF m 32 #[vR ta, vI (Int32.ofNat mq), vI (Int32.ofNat cap), vI (Int32.ofNat mq), vI (Int32.ofNat (mq - cap)), .unset] [(.int (Int32.ofNat (cap + max (mq - cap) (cap + 2))))]) _
  refine R1 (XS.istore X119.here hx rfl (dq (dg dnc 22 rfl)) rfl (l' := #[vR ta, vI (Int32.ofNat mq), vI (Int32.ofNat cap), vI (Int32.ofNat mq), vI (Int32.ofNat (mq - cap)), vI (Int32.ofNat (cap + max (mq - cap) (cap + 2)))]) rfl) ?_
  refine R1 (XS.iload X119.here hx rfl (dq (dg dnc 23 rfl)) rfl) ?_
  show Rch p e below T119 (mkF m 36 #[vR ta, vI (Int32.ofNat mq), vI (Int32.ofNat cap), vI (Int32.ofNat mq), vI (Int32.ofNat (mq - cap)), vI (Int32.ofNat (cap + max (mq - cap) (cap + 2)))] [(.int (Int32.ofNat (cap + max (mq - cap) (cap + 2))))]) _
  refine R0_ (X119.ldcInt hx hown (mw hZ hw 210 rfl) (g := (mkF m 36 #[vR ta, vI (Int32.ofNat mq), vI (Int32.ofNat cap), vI (Int32.ofNat mq), vI (Int32.ofNat (mq - cap)), vI (Int32.ofNat (cap + max (mq - cap) (cap + 2)))] [(.int (Int32.ofNat (cap + max (mq - cap) (cap + 2))))])) rfl (dq (dg dnc 24 rfl))) ?_
  show Rch p e below T119 (mkF m 38 #[vR ta, vI (Int32.ofNat mq), vI (Int32.ofNat cap), vI (Int32.ofNat mq), vI (Int32.ofNat (mq - cap)), vI (Int32.ofNat (cap + max (mq - cap) (cap + 2)))] [(.int (2147483647 : Int32)), (.int (Int32.ofNat (cap + max (mq - cap) (cap + 2))))]) _
  refine R1 (XS.icmpYes X119.here hx rfl (pc0 := 38) (pc' := 51) rfl (dq (dg dnc 25 rfl)) rfl (feq (ofN_neq (a := cap + max (mq - cap) (cap + 2)) (b := 2147483647) (by omega) (by omega) (by decide))).2 (by decide) (by decide)) ?_
  refine R1 (XS.iload X119.here hx rfl (dq (dg dnc 26 rfl)) rfl) ?_
  refine R1 (XS.aloadN X119.here hx rfl (dq (dg dnc 27 rfl)) rfl rfl) ?_
  show Rch p e below T119 (mkF m 54 #[vR ta, vI (Int32.ofNat mq), vI (Int32.ofNat cap), vI (Int32.ofNat mq), vI (Int32.ofNat (mq - cap)), vI (Int32.ofNat (cap + max (mq - cap) (cap + 2)))] [(.ref ta), (.int (Int32.ofNat (cap + max (mq - cap) (cap + 2))))]) _
  obtain ⟨T120, X120, e120, st120⟩ := getF X119 hx hZ hown (host := "") (Or.inl (wq hw 58 rfl)) Via.refl e119 B.1.2.2.1 (g := (mkF m 54 #[vR ta, vI (Int32.ofNat mq), vI (Int32.ofNat cap), vI (Int32.ofNat mq), vI (Int32.ofNat (mq - cap)), vI (Int32.ofNat (cap + max (mq - cap) (cap + 2)))] [(.ref ta), (.int (Int32.ofNat (cap + max (mq - cap) (cap + 2))))])) rfl rfl (dq (dg dnc 28 rfl))
  refine R0_ st120 ?_
  show Rch p e below T120 (mkF m 57 #[vR ta, vI (Int32.ofNat mq), vI (Int32.ofNat cap), vI (Int32.ofNat mq), vI (Int32.ofNat (mq - cap)), vI (Int32.ofNat (cap + max (mq - cap) (cap + 2)))] [(.int (0 : Int32)), (.int (Int32.ofNat (cap + max (mq - cap) (cap + 2))))]) _
  refine R1 (XT.ishr X120.here hx rfl (dq (dg dnc 29 rfl)) rfl) ?_
  show Rch p e below T120 (mkF m 58 #[vR ta, vI (Int32.ofNat mq), vI (Int32.ofNat cap), vI (Int32.ofNat mq), vI (Int32.ofNat (mq - cap)), vI (Int32.ofNat (cap + max (mq - cap) (cap + 2)))] [(.int ((Int32.ofNat (cap + max (mq - cap) (cap + 2))) >>> ((0 : Int32) &&& 31)))]) _
  rw [shr0]
  show Rch p e below T120 (mkF m 58 #[vR ta, vI (Int32.ofNat mq), vI (Int32.ofNat cap), vI (Int32.ofNat mq), vI (Int32.ofNat (mq - cap)), vI (Int32.ofNat (cap + max (mq - cap) (cap + 2)))] [(.int (Int32.ofNat (cap + max (mq - cap) (cap + 2))))]) _
  exact Rch.fin (Q := Q_ncap Z ta va cap mq cs h0 n0) X120 (v := some (.int (Int32.ofNat (cap + max (mq - cap) (cap + 2))))) (fun h => by rw [Bd.returns] at h; cases h) (BodyLoose.notSynchronized Bd) (fun fs hr => retI X120 hx Bd.returns (dq (dg dnc 30 rfl)) hr) (by rw [e120]; exact ⟨rfl, N119, rfl⟩) (by decide) (by decide)
theorem dcy : dxs jdk_65_method_121_code [(0, .iload_n 1, 1), (1, .aload_n 0, 1), (2, .arraylength, 1), (3, .if_icmp .ne 11, 3), (14, .iload_n 1, 1), (15, .newarray .byte, 2), (17, .astore_n 2, 1), (18, .aload_n 0, 1), (19, .iconst 0, 1), (20, .aload_n 2, 1), (21, .iconst 0, 1), (22, .aload_n 0, 1), (23, .arraylength, 1), (24, .iload_n 1, 1), (25, .invokestatic 304, 3), (28, .invokestatic 150, 3), (31, .aload_n 2, 1), (32, .areturn, 1)] = true := by decide +kernel
theorem pn_cpyB : plainFor (⟨"java/util/Arrays", "copyOf", "([BI)[B"⟩ : MethodName) = true := plainFor_of_name (by first | (simp [plainName, overriddenIn]; done) | decide +kernel)
theorem ef_cpyB (m : MethodId) (x0 : Addr) (x1 : Int32) : entryFrame m #[(.ref x0), (.int x1)] 3 = mkF m 0 #[vR x0, vI x1, .unset] [] := by first | (simp [entryFrame, mkF, argsToLocals, Value.category]; done) | rfl
def Q_cpyB (Z : State) (va : Addr) (cap mn : Nat) (cs : List Int32) (h0 : Heap) (n0 : Nat) (v : Option Value) (h : Heap) (L : List Loc) : Prop := ∃ b, v = some (.ref b) ∧ Fr n0 L ∧ Ext h0 h ∧ h0.size ≤ b ∧ Vc Z h b mn cs
set_option maxRecDepth 65536 in
set_option maxHeartbeats 40000000 in
theorem rm_cpyB (l : Launch) (Z : State) (a0 : Array Value) (hw : ∀ d ∈ tables_1, d.before a0 Z = true) (ws : List Jvm.Cond) (va : Addr) (cap mn : Nat) (cs : List Int32) (h0 : Heap) (n0 : Nat) (Z0 : n0 ≤ h0.size) (V : Vc Z h0 va cap cs) (hlt : cap < mn) (h40 : mn ≤ 40) (hle : cs.length ≤ cap) :
    MetFree l mN22 (head1 (Jvm.Cond.code mN22 jdk_65_method_121_code 3 (some (.array .byte)) :: ws) rO17) (fun a U => a = #[(.ref va), (.int (Int32.ofNat mn))] ∧ Z.Warmed39 U.vm ∧ U.heap = h0) (fun _ _ _ _ _ => True) (fun _ U o U' => ∃ v L, o = .returned v ∧ Q_cpyB Z va cap mn cs h0 n0 v U'.heap L ∧ FrameEnd U o U' L rO17.cells rO17.slots) := by
  refine MetFree.of_bodySF pn_cpyB hisR ?_
  intro p e s m args below meth c s₁ Bd hml0 hP hK
  obtain ⟨rfl, hZ, hh⟩ := hP
  have hx := Bd.exec
  have hby := Bd.bytes
  have dq := @hb _ _ hby
  have hml : c.maxLocals = 3 := hml0
  have hown : s.vm.findClass "java/util/Arrays" = some m.cls := findClass_of_methodNamed Bd.named
  have X0 : Stand p l e rO17 s m #[(.ref va), (.int (Int32.ofNat mn))] below meth c s₁ [] 0 0 := Stand.of_body Bd
  have e0 : s₁.heap = h0 := by rw [← hh, Bd.state]; rfl
  have N0 := Fr.nil n0
  show Rch p e below s₁ _ _
  refine Rch.cast (ef_cpyB m va (Int32.ofNat mn)) ?_
  show Rch p e below s₁ (mkF m 0 #[vR va, vI (Int32.ofNat mn), .unset] []) _
  obtain ⟨EV, kv, VA⟩ := id V
  have c1 : (Int32.ofNat cap).toNatClampNeg = cap := ofN_clamp (by omega)
  have c2 : (Int32.ofNat mn).toNatClampNeg = mn := ofN_clamp (by omega)
  refine R1 (XS.iloadN X0.here hx rfl (dq (dg dcy 0 rfl)) rfl) ?_
  refine R1 (XS.aloadN X0.here hx rfl (dq (dg dcy 1 rfl)) rfl rfl) ?_
  show Rch p e below s₁ (mkF m 2 #[vR va, vI (Int32.ofNat mn), .unset] [(.ref va), (.int (Int32.ofNat mn))]) _
  refine R0_ (alenA X0 hx hZ e0 VA.arh (g := (mkF m 2 #[vR va, vI (Int32.ofNat mn), .unset] [(.ref va), (.int (Int32.ofNat mn))])) rfl rfl (dq (dg dcy 2 rfl))) ?_
  show Rch p e below s₁ (mkF m 3 #[vR va, vI (Int32.ofNat mn), .unset] [(.int (Int32.ofNat cap)), (.int (Int32.ofNat mn))]) _
  refine R1 (XS.icmpYes X0.here hx rfl (pc0 := 3) (pc' := 14) rfl (dq (dg dcy 3 rfl)) rfl (feq (ofN_neq (a := mn) (b := cap) (by omega) (by omega) (by omega))).2 (by decide) (by decide)) ?_
  refine R1 (XS.iloadN X0.here hx rfl (dq (dg dcy 4 rfl)) rfl) ?_
  show Rch p e below s₁ (mkF m 15 #[vR va, vI (Int32.ofNat mn), .unset] [(.int (Int32.ofNat mn))]) _
  obtain ⟨T121, h121, k121, X121, e121, E121, A121, Q121, st121⟩ := newPE X0 hx hZ (wq hw 20 rfl) e0 (g := (mkF m 15 #[vR va, vI (Int32.ofNat mn), .unset] [(.int (Int32.ofNat mn))])) rfl (dq (dg dcy 5 rfl)) rfl (ofN_neg (by omega)) (cap := 40) (by rw [c2]; exact h40) (by decide) (by decide) (by decide) (ad := "[B") (by decide)
  obtain ⟨a121, g121⟩ : ∃ z, z = h0.size := ⟨_, rfl⟩
  rw [← g121] at A121 Q121 st121
  have Ex122 : Ext h0 h121 := E121
  have le123 : h0.size ≤ a121 := Nat.le_of_eq g121.symm
  refine R0_ st121 ?_
  show Rch p e below T121 (mkF m 17 #[vR va, vI (Int32.ofNat mn), .unset] [(.ref a121)]) _
  have VC121 : Vc Z h121 a121 mn [] := ⟨Q121, k121, Arv.new A121 (ofN_neg (by omega))⟩
  refine R1 (XS.astoreN X121.here hx rfl (dq (dg dcy 6 rfl)) rfl rfl (l' := #[vR va, vI (Int32.ofNat mn), vR a121]) rfl) ?_
  refine R1 (XS.aloadN X121.here hx rfl (dq (dg dcy 7 rfl)) rfl rfl) ?_
  refine R1 (XS.iconst X121.here hx rfl (dq (dg dcy 8 rfl)) ) ?_
  refine R1 (XS.aloadN X121.here hx rfl (dq (dg dcy 9 rfl)) rfl rfl) ?_
  refine R1 (XS.iconst X121.here hx rfl (dq (dg dcy 10 rfl)) ) ?_
  refine R1 (XS.aloadN X121.here hx rfl (dq (dg dcy 11 rfl)) rfl rfl) ?_
  show Rch p e below T121 (mkF m 23 #[vR va, vI (Int32.ofNat mn), vR a121] [(.ref va), (.int (0 : Int32)), (.ref a121), (.int (0 : Int32)), (.ref va)]) _
  refine R0_ (alenA X121 hx hZ e121 (VA.ext Ex122).arh (g := (mkF m 23 #[vR va, vI (Int32.ofNat mn), vR a121] [(.ref va), (.int (0 : Int32)), (.ref a121), (.int (0 : Int32)), (.ref va)])) rfl rfl (dq (dg dcy 12 rfl))) ?_
  show Rch p e below T121 (mkF m 24 #[vR va, vI (Int32.ofNat mn), vR a121] [(.int (Int32.ofNat cap)), (.int (0 : Int32)), (.ref a121), (.int (0 : Int32)), (.ref va)]) _
  refine R1 (XS.iloadN X121.here hx rfl (dq (dg dcy 13 rfl)) rfl) ?_
  show Rch p e below T121 (mkF m 25 #[vR va, vI (Int32.ofNat mn), vR a121] [(.int (Int32.ofNat mn)), (.int (Int32.ofNat cap)), (.int (0 : Int32)), (.ref a121), (.int (0 : Int32)), (.ref va)]) _
  obtain ⟨_, _, ⟨T124, L124, k124, n124⟩, -, X124, ⟨Lc124, hQ124, l124, y124, z124⟩, st124⟩ := Jvm.LawKit.callS X121 hx (y := mN19) hown (mw hZ hw 214 rfl) (mw hZ hw 215 rfl) (mw hZ hw 207 rfl) (mw hZ hw 216 rfl) (by decide) (backOf (W := 4) (rm_minN l Z a0 hw [] cap mn h121 n0 (Nat.le_trans Z0 Ex122.1) (by omega) (by omega)) hZ (wq hw 216 rfl) (wq hw 207 rfl) (by decide) (by decide)) (g := (mkF m 25 #[vR va, vI (Int32.ofNat mn), vR a121] [(.int (Int32.ofNat mn)), (.int (Int32.ofNat cap)), (.int (0 : Int32)), (.ref a121), (.int (0 : Int32)), (.ref va)])) rfl (by rw [hml]; rfl) (argsL := [(.int (Int32.ofNat cap)), (.int (Int32.ofNat mn))]) (rest := [(.int (0 : Int32)), (.ref a121), (.int (0 : Int32)), (.ref va)]) (lenOf pd_13 rfl) rfl (w0 rfl) (dq (dg dcy 14 rfl)) (fun _ _ => ⟨rfl, e121, (by decide : 1 + 0 ≤ _), (by decide : 40 + 0 ≤ _)⟩)
  dsimp only [Pt.U, Pt.locs, Pt.cells, Pt.slots] at X124 l124 y124 z124 st124 hQ124
  subst l124 y124 z124
  obtain ⟨rfl, Nq124, e124⟩ := hQ124
  have N124 := Fr.app N0 Nq124
  refine R0_ st124 ?_
  show Rch p e below T124 (mkF m 28 #[vR va, vI (Int32.ofNat mn), vR a121] [(.int (Int32.ofNat cap)), (.int (0 : Int32)), (.ref a121), (.int (0 : Int32)), (.ref va)]) _
  obtain ⟨EB, kb, VB⟩ := id VC121
  obtain ⟨T125, h125, L125, X125, e125, N125, K125, V125, st125⟩ := cpA X124 hx hZ hown (wq hw 217 rfl) (wq hw 191 rfl) (wq hw 189 rfl) (wq hw 190 rfl) e124 (VA.ext Ex122) (VB.pad (pad_rep [] (.int 0) (Int32.ofNat cap).toNatClampNeg)) (Or.inl ⟨rfl, rfl⟩) (by decide) (by decide) (ofN_neg (by omega)) (by show 0 + _ ≤ _; omega) (by show 0 + _ ≤ _; rw [c1, c2]; omega) (us := _) (sp := (0 : Int32)) (dp := (0 : Int32)) (nn := (Int32.ofNat cap)) rfl (by simp) N124 (Nat.le_trans Z0 le123) (g := (mkF m 28 #[vR va, vI (Int32.ofNat mn), vR a121] [(.int (Int32.ofNat cap)), (.int (0 : Int32)), (.ref a121), (.int (0 : Int32)), (.ref va)])) rfl (by rw [hml]; rfl) rfl (dq (dg dcy 15 rfl)) (by decide) (W := 0) (w0 rfl) (by decide)
  have Ex126 : Ext h0 h125 := extKeep1 Ex122 K125 le123
  refine R0_ st125 ?_
  show Rch p e below T125 (mkF m 31 #[vR va, vI (Int32.ofNat mn), vR a121] []) _
  have V9 : Vc Z h125 a121 mn cs := ⟨EB.keep K125, kb, Arv.pad V125 (cp_pad (by rw [byt_len, c1]; exact hle))⟩
  refine R1 (XS.aloadN X125.here hx rfl (dq (dg dcy 16 rfl)) rfl rfl) ?_
  show Rch p e below T125 (mkF m 32 #[vR va, vI (Int32.ofNat mn), vR a121] [(.ref a121)]) _
  exact Rch.fin (Q := Q_cpyB Z va cap mn cs h0 n0) X125 (v := some (.ref a121)) (fun h => by rw [Bd.returns] at h; cases h) (BodyLoose.notSynchronized Bd) (fun fs hr => retR X125 hx Bd.returns rfl rfl (dq (dg dcy 17 rfl)) hr) (by rw [e125]; exact ⟨a121, rfl, N125, Ex126, le123, V9⟩) (by decide) (by decide)
theorem den : dxs jdk_68_method_9_code [(0, .aload_n 0, 1), (1, .getfield 15, 3), (4, .arraylength, 1), (5, .aload_n 0, 1), (6, .getfield 22, 3), (9, .ishr, 1), (10, .istore_n 2, 1), (11, .iload_n 1, 1), (12, .iload_n 2, 1), (13, .isub, 1), (14, .ifCond .le 24, 3), (17, .aload_n 0, 1), (18, .aload_n 0, 1), (19, .getfield 15, 3), (22, .aload_n 0, 1), (23, .iload_n 1, 1), (24, .invokevirtual 104, 3), (27, .aload_n 0, 1), (28, .getfield 22, 3), (31, .ishl, 1), (32, .invokestatic 108, 3), (35, .putfield 15, 3), (38, .return_, 1)] = true := by decide +kernel
theorem pn_ensN : plainFor (⟨"java/lang/AbstractStringBuilder", "ensureCapacityInternal", "(I)V"⟩ : MethodName) = true := plainFor_of_name (by first | (simp [plainName, overriddenIn]; done) | decide +kernel)
def Q_ensN (Z : State) (ta va : Addr) (cap mq : Nat) (cs : List Int32) (h0 : Heap) (n0 : Nat) (v : Option Value) (h : Heap) (L : List Loc) : Prop := ∃ va2 cap2, v = none ∧ Fr n0 L ∧ Keep h0 h [ta] ∧ (va2 = va ∨ h0.size ≤ va2) ∧ Sc Z h ta va2 cap2 cs ∧ mq ≤ cap2
set_option maxRecDepth 65536 in
set_option maxHeartbeats 40000000 in
theorem rm_ensN (l : Launch) (Z : State) (a0 : Array Value) (hw : ∀ d ∈ tables_1, d.before a0 Z = true) (ws : List Jvm.Cond) (ta va : Addr) (cap mq : Nat) (cs : List Int32) (h0 : Heap) (n0 : Nat) (Z0 : n0 ≤ h0.size) (hthis : n0 ≤ ta) (B : Sc Z h0 ta va cap cs) (hq : mq ≤ 20) :
    MetFree l mN23 (head1 (Jvm.Cond.code mN23 jdk_68_method_9_code 3 none :: ws) rO18) (fun a U => a = #[(.ref ta), (.int (Int32.ofNat mq))] ∧ Z.Warmed39 U.vm ∧ U.heap = h0) (fun _ _ _ _ _ => True) (fun _ U o U' => ∃ v L, o = .returned v ∧ Q_ensN Z ta va cap mq cs h0 n0 v U'.heap L ∧ FrameEnd U o U' L rO18.cells rO18.slots) := by
  refine MetFree.of_bodySF pn_ensN hisR ?_
  intro p e s m args below meth c s₁ Bd hml0 hP hK
  obtain ⟨rfl, hZ, hh⟩ := hP
  have hx := Bd.exec
  have hby := Bd.bytes
  have dq := @hb _ _ hby
  have hml : c.maxLocals = 3 := hml0
  have hown : s.vm.findClass "java/lang/AbstractStringBuilder" = some m.cls := findClass_of_methodNamed Bd.named
  have X0 : Stand p l e rO18 s m #[(.ref ta), (.int (Int32.ofNat mq))] below meth c s₁ [] 0 0 := Stand.of_body Bd
  have e0 : s₁.heap = h0 := by rw [← hh, Bd.state]; rfl
  have N0 := Fr.nil n0
  show Rch p e below s₁ _ _
  refine Rch.cast (ef_cpyB m ta (Int32.ofNat mq)) ?_
  show Rch p e below s₁ (mkF m 0 #[vR ta, vI (Int32.ofNat mq), .unset] []) _
  obtain ⟨EV, kv, VA⟩ := id B.2.1
  have hle := B.2.2.1
  have hcp := B.2.2.2
  refine R1 (XS.aloadN X0.here hx rfl (dq (dg den 0 rfl)) rfl rfl) ?_
  show Rch p e below s₁ (mkF m 1 #[vR ta, vI (Int32.ofNat mq), .unset] [(.ref ta)]) _
  obtain ⟨T127, X127, e127, st127⟩ := getF X0 hx hZ hown (host := "") (Or.inl (wq hw 56 rfl)) Via.refl e0 B.1.2.1 (g := (mkF m 1 #[vR ta, vI (Int32.ofNat mq), .unset] [(.ref ta)])) rfl rfl (dq (dg den 1 rfl))
  refine R0_ st127 ?_
  show Rch p e below T127 (mkF m 4 #[vR ta, vI (Int32.ofNat mq), .unset] [(.ref va)]) _
  refine R0_ (alenA X127 hx hZ e127 VA.arh (g := (mkF m 4 #[vR ta, vI (Int32.ofNat mq), .unset] [(.ref va)])) rfl rfl (dq (dg den 2 rfl))) ?_
  show Rch p e below T127 (mkF m 5 #[vR ta, vI (Int32.ofNat mq), .unset] [(.int (Int32.ofNat cap))]) _
  refine R1 (XS.aloadN X127.here hx rfl (dq (dg den 3 rfl)) rfl rfl) ?_
  show Rch p e below T127 (mkF m 6 #[vR ta, vI (Int32.ofNat mq), .unset] [(.ref ta), (.int (Int32.ofNat cap))]) _
  obtain ⟨T128, X128, e128, st128⟩ := getF X127 hx hZ hown (host := "") (Or.inl (wq hw 58 rfl)) Via.refl e127 B.1.2.2.1 (g := (mkF m 6 #[vR ta, vI (Int32.ofNat mq), .unset] [(.ref ta), (.int (Int32.ofNat cap))])) rfl rfl (dq (dg den 4 rfl))
  refine R0_ st128 ?_
  show Rch p e below T128 (mkF m 9 #[vR ta, vI (Int32.ofNat mq), .unset] [(.int (0 : Int32)), (.int (Int32.ofNat cap))]) _
  refine R1 (XT.ishr X128.here hx rfl (dq (dg den 5 rfl)) rfl) ?_
  show Rch p e below T128 (mkF m 10 #[vR ta, vI (Int32.ofNat mq), .unset] [(.int ((Int32.ofNat cap) >>> ((0 : Int32) &&& 31)))]) _
  rw [shr0]
  show Rch p e below T128 (mkF m 10 #[vR ta, vI (Int32.ofNat mq), .unset] [(.int (Int32.ofNat cap))]) _
  refine R1 (XS.istoreN X128.here hx rfl (dq (dg den 6 rfl)) rfl (l' := #[vR ta, vI (Int32.ofNat mq), vI (Int32.ofNat cap)]) rfl) ?_
  refine R1 (XS.iloadN X128.here hx rfl (dq (dg den 7 rfl)) rfl) ?_
  refine R1 (XS.iloadN X128.here hx rfl (dq (dg den 8 rfl)) rfl) ?_
  refine R1 (XS.isub X128.here hx rfl (dq (dg den 9 rfl)) rfl) ?_
  show Rch p e below T128 (mkF m 14 #[vR ta, vI (Int32.ofNat mq), vI (Int32.ofNat cap)] [(.int ((Int32.ofNat mq) - (Int32.ofNat cap)))]) _
  by_cases hg : mq ≤ cap
  · skip
    refine R1 (XS.ifYes X128.here hx rfl (pc0 := 14) (pc' := 38) rfl (dq (dg den 10 rfl)) rfl ((if0 _ _).trans (flt (ofN_subLe hg (by omega))).2.2.2) (by decide) (by decide)) ?_
    show Rch p e below T128 (mkF m 38 #[vR ta, vI (Int32.ofNat mq), vI (Int32.ofNat cap)] []) _
    exact Rch.fin (Q := Q_ensN Z ta va cap mq cs h0 n0) X128 (v := none) (fun _ => rfl) (BodyLoose.notSynchronized Bd) (fun fs hr => X128.returnOut hx Bd.returns (dq (dg den 22 rfl)) hr) (by rw [e128]; exact ⟨va, cap, rfl, N0, (Keep.refl _ _), Or.inl rfl, B, hg⟩) (by decide) (by decide)
  · skip
    have hlt : cap < mq := Nat.lt_of_not_le hg
    refine R1 (XS.ifNo X128.here hx rfl (dq (dg den 10 rfl)) rfl ((if0 _ _).trans (tlt (ofN_subLt hlt (by omega))).2.2.2)) ?_
    refine R1 (XS.aloadN X128.here hx rfl (dq (dg den 11 rfl)) rfl rfl) ?_
    refine R1 (XS.aloadN X128.here hx rfl (dq (dg den 12 rfl)) rfl rfl) ?_
    show Rch p e below T128 (mkF m 19 #[vR ta, vI (Int32.ofNat mq), vI (Int32.ofNat cap)] [(.ref ta), (.ref ta)]) _
    obtain ⟨T129, X129, e129, st129⟩ := getF X128 hx hZ hown (host := "") (Or.inl (wq hw 56 rfl)) Via.refl e128 B.1.2.1 (g := (mkF m 19 #[vR ta, vI (Int32.ofNat mq), vI (Int32.ofNat cap)] [(.ref ta), (.ref ta)])) rfl rfl (dq (dg den 13 rfl))
    refine R0_ st129 ?_
    show Rch p e below T129 (mkF m 22 #[vR ta, vI (Int32.ofNat mq), vI (Int32.ofNat cap)] [(.ref va), (.ref ta)]) _
    refine R1 (XS.aloadN X129.here hx rfl (dq (dg den 14 rfl)) rfl rfl) ?_
    refine R1 (XS.iloadN X129.here hx rfl (dq (dg den 15 rfl)) rfl) ?_
    show Rch p e below T129 (mkF m 24 #[vR ta, vI (Int32.ofNat mq), vI (Int32.ofNat cap)] [(.int (Int32.ofNat mq)), (.ref ta), (.ref va), (.ref ta)]) _
    obtain ⟨ce130, q130, q130'⟩ := ((Ins.self B.1.1)).cell
    obtain ⟨_, _, ⟨T130, L130, k130, n130⟩, -, X130, ⟨Lc130, hQ130, l130, y130, z130⟩, st130⟩ := X129.privateBack hx (y := mN21) hown (mw hZ hw 196 rfl) (mw hZ hw 197 rfl) (selSelf (mw hZ hw 199 rfl) (mw hZ hw 197 rfl) (Cond.privateMethod_at (mvP hZ (wq hw 198 rfl) (args := #[]))) (by decide)) (Cond.privateMethod_at (mvP hZ (wq hw 198 rfl) (args := #[]))) (mw hZ hw 200 rfl) (by decide) (backOf (W := 2) (rm_ncap l Z a0 hw [] ta va cap mq cs h0 n0 Z0 B hlt hq) hZ (wq hw 200 rfl) (wq hw 52 rfl) (by decide) (by decide)) (g := (mkF m 24 #[vR ta, vI (Int32.ofNat mq), vI (Int32.ofNat cap)] [(.int (Int32.ofNat mq)), (.ref ta), (.ref va), (.ref ta)])) rfl (by rw [hml]; rfl) (Steps.refl _) (a := ta) (by rw [e129]; exact q130) q130' (argsL := [(.int (Int32.ofNat mq))]) (rest := [(.ref va), (.ref ta)]) (lenOf pd_7 rfl) rfl (w0 rfl) (dq (dg den 16 rfl)) (fun _ _ => ⟨rfl, e129, (by decide : 0 + 0 ≤ _), (by decide : 0 + 0 ≤ _)⟩)
    dsimp only [Pt.U, Pt.locs, Pt.cells, Pt.slots] at X130 l130 y130 z130 st130 hQ130
    subst l130 y130 z130
    obtain ⟨rfl, Nq130, e130⟩ := hQ130
    have N130 := Fr.app N0 Nq130
    refine R2 st130 ?_
    show Rch p e below T130 (mkF m 27 #[vR ta, vI (Int32.ofNat mq), vI (Int32.ofNat cap)] [(.int (Int32.ofNat (cap + max (mq - cap) (cap + 2)))), (.ref va), (.ref ta)]) _
    refine R1 (XS.aloadN X130.here hx rfl (dq (dg den 17 rfl)) rfl rfl) ?_
    show Rch p e below T130 (mkF m 28 #[vR ta, vI (Int32.ofNat mq), vI (Int32.ofNat cap)] [(.ref ta), (.int (Int32.ofNat (cap + max (mq - cap) (cap + 2)))), (.ref va), (.ref ta)]) _
    obtain ⟨T131, X131, e131, st131⟩ := getF X130 hx hZ hown (host := "") (Or.inl (wq hw 58 rfl)) Via.refl e130 B.1.2.2.1 (g := (mkF m 28 #[vR ta, vI (Int32.ofNat mq), vI (Int32.ofNat cap)] [(.ref ta), (.int (Int32.ofNat (cap + max (mq - cap) (cap + 2)))), (.ref va), (.ref ta)])) rfl rfl (dq (dg den 18 rfl))
    refine R0_ st131 ?_
    show Rch p e below T131 (mkF m 31 #[vR ta, vI (Int32.ofNat mq), vI (Int32.ofNat cap)] [(.int (0 : Int32)), (.int (Int32.ofNat (cap + max (mq - cap) (cap + 2)))), (.ref va), (.ref ta)]) _
    refine R1 (XT.ishl X131.here hx rfl (dq (dg den 19 rfl)) rfl) ?_
    show Rch p e below T131 (mkF m 32 #[vR ta, vI (Int32.ofNat mq), vI (Int32.ofNat cap)] [(.int ((Int32.ofNat (cap + max (mq - cap) (cap + 2))) <<< ((0 : Int32) &&& 31))), (.ref va), (.ref ta)]) _
    rw [shl0]
    show Rch p e below T131 (mkF m 32 #[vR ta, vI (Int32.ofNat mq), vI (Int32.ofNat cap)] [(.int (Int32.ofNat (cap + max (mq - cap) (cap + 2)))), (.ref va), (.ref ta)]) _
    have hb2 : cap < cap + max (mq - cap) (cap + 2) ∧ cap + max (mq - cap) (cap + 2) ≤ 40 ∧ mq ≤ cap + max (mq - cap) (cap + 2) ∧ (cap + max (mq - cap) (cap + 2)) ≤ 40 := by omega
    obtain ⟨_, _, ⟨T132, L132, k132, n132⟩, -, X132, ⟨Lc132, hQ132, l132, y132, z132⟩, st132⟩ := Jvm.LawKit.callS X131 hx (y := mN22) hown (mw hZ hw 211 rfl) (mw hZ hw 212 rfl) (mw hZ hw 117 rfl) (mw hZ hw 213 rfl) (by decide) (backOf (W := 1) (rm_cpyB l Z a0 hw [] va cap (cap + max (mq - cap) (cap + 2)) cs h0 n0 Z0 B.2.1 hb2.1 hb2.2.1 B.2.2.1) hZ (wq hw 213 rfl) (wq hw 117 rfl) (by decide) (by decide)) (g := (mkF m 32 #[vR ta, vI (Int32.ofNat mq), vI (Int32.ofNat cap)] [(.int (Int32.ofNat (cap + max (mq - cap) (cap + 2)))), (.ref va), (.ref ta)])) rfl (by rw [hml]; rfl) (argsL := [(.ref va), (.int (Int32.ofNat (cap + max (mq - cap) (cap + 2))))]) (rest := [(.ref ta)]) (lenOf pd_15 rfl) rfl (w0 rfl) (dq (dg den 20 rfl)) (fun _ _ => ⟨rfl, e131, (by decide : 0 + 1 ≤ _), (by decide : 0 + 40 ≤ _)⟩)
    dsimp only [Pt.U, Pt.locs, Pt.cells, Pt.slots] at X132 l132 y132 z132 st132 hQ132
    subst l132 y132 z132
    obtain ⟨b132, rfl, Nq132, E132, le132_, V132⟩ := hQ132
    have N132 := Fr.app N130 Nq132
    have KK134 : Keep h0 T132.heap [ta] := (Keep.refl _ _).ext E132
    refine R0_ st132 ?_
    show Rch p e below T132 (mkF m 35 #[vR ta, vI (Int32.ofNat mq), vI (Int32.ofNat cap)] [(.ref b132), (.ref ta)]) _
    have B2 := B.ext E132
    obtain ⟨T135, h135, X135, e135, W135, st135⟩ := putF X132 hx hZ hown (host := "") (Or.inl (wq hw 56 rfl)) Via.refl rfl B2.1.2.1 B2.1.1 (Or.inl (wq hw 57 rfl)) (wq hw 32 rfl) (ty := (.array .byte)) (by decide) rfl rfl (g := (mkF m 35 #[vR ta, vI (Int32.ofNat mq), vI (Int32.ofNat cap)] [(.ref b132), (.ref ta)])) rfl rfl (dq (dg den 21 rfl))
    have KK136 : Keep h0 h135 [ta] := KK134.wr W135 (Or.inl (by simp))
    have N135 := Fr.snoc X135 N132 hthis
    refine R0_ st135 ?_
    show Rch p e below T135 (mkF m 38 #[vR ta, vI (Int32.ofNat mq), vI (Int32.ofNat cap)] []) _
    exact Rch.fin (Q := Q_ensN Z ta va cap mq cs h0 n0) X135 (v := none) (fun _ => rfl) (BodyLoose.notSynchronized Bd) (fun fs hr => X135.returnOut hx Bd.returns (dq (dg den 22 rfl)) hr) (by rw [e135]; exact ⟨b132, cap + max (mq - cap) (cap + 2), rfl, N135, KK136, Or.inr le132_, sc_wrV hw B2 V132 (by omega) hb2.2.2.2 W135, hb2.2.2.1⟩) (by decide) (by decide)
theorem dsb : dxs jdk_68_method_2_code [(0, .aload_n 0, 1), (1, .invokespecial 3, 3), (4, .getstatic 18, 3), (7, .ifCond .eq 18, 3), (10, .aload_n 0, 1), (11, .iload_n 1, 1), (12, .newarray .byte, 2), (14, .putfield 15, 3), (17, .aload_n 0, 1), (18, .iconst 0, 1), (19, .putfield 22, 3), (22, .goto 16, 3), (38, .return_, 1)] = true := by decide +kernel
theorem pn_asbI : plainFor (⟨"java/lang/AbstractStringBuilder", "<init>", "(I)V"⟩ : MethodName) = true := plainFor_of_name (by first | (simp [plainName, overriddenIn]; done) | decide +kernel)
def Q_asbI (Z : State) (ta : Addr) (mn : Nat) (h0 : Heap) (n0 : Nat) (v : Option Value) (h : Heap) (L : List Loc) : Prop := ∃ va, v = none ∧ Fr n0 L ∧ Keep h0 h [ta] ∧ h0.size ≤ va ∧ Sc Z h ta va mn []
set_option maxRecDepth 65536 in
set_option maxHeartbeats 40000000 in
theorem rm_asbI (l : Launch) (Z : State) (a0 : Array Value) (hw : ∀ d ∈ tables_1, d.before a0 Z = true) (ws : List Jvm.Cond) (ta : Addr) (mn : Nat) (h0 : Heap) (n0 : Nat) (Z0 : n0 ≤ h0.size) (hthis : n0 ≤ ta) (E1 : Exa Z h0 ta "java/lang/StringBuilder") (F1 : Fld Z h0 ta "java/lang/AbstractStringBuilder" "value" "[B" .null) (F2 : Fld Z h0 ta "java/lang/AbstractStringBuilder" "coder" "B" (.int 0)) (F3 : Fld Z h0 ta "java/lang/AbstractStringBuilder" "count" "I" (.int 0)) (h8 : mn ≤ 8) (CS : Cmp Z h0) :
    MetFree l mN24 (head1 (Jvm.Cond.code mN24 jdk_68_method_2_code 2 none :: ws) rO19) (fun a U => a = #[(.ref ta), (.int (Int32.ofNat mn))] ∧ Z.Warmed39 U.vm ∧ U.heap = h0) (fun _ _ _ _ _ => True) (fun _ U o U' => ∃ v L, o = .returned v ∧ Q_asbI Z ta mn h0 n0 v U'.heap L ∧ FrameEnd U o U' L rO19.cells rO19.slots) := by
  refine MetFree.of_bodySF pn_asbI hisR ?_
  intro p e s m args below meth c s₁ Bd hml0 hP hK
  obtain ⟨rfl, hZ, hh⟩ := hP
  have hx := Bd.exec
  have hby := Bd.bytes
  have dq := @hb _ _ hby
  have hml : c.maxLocals = 2 := hml0
  have hown : s.vm.findClass "java/lang/AbstractStringBuilder" = some m.cls := findClass_of_methodNamed Bd.named
  have X0 : Stand p l e rO19 s m #[(.ref ta), (.int (Int32.ofNat mn))] below meth c s₁ [] 0 0 := Stand.of_body Bd
  have e0 : s₁.heap = h0 := by rw [← hh, Bd.state]; rfl
  have N0 := Fr.nil n0
  show Rch p e below s₁ _ _
  refine Rch.cast (ef_getc m ta (Int32.ofNat mn)) ?_
  show Rch p e below s₁ (mkF m 0 #[vR ta, vI (Int32.ofNat mn)] []) _
  obtain ⟨zc, Sz, hzc⟩ := id CS
  refine R1 (XS.aloadN X0.here hx rfl (dq (dg dsb 0 rfl)) rfl rfl) ?_
  show Rch p e below s₁ (mkF m 1 #[vR ta, vI (Int32.ofNat mn)] [(.ref ta)]) _
  obtain ⟨T137, X137, e137, st137⟩ := initO X0 hx hZ hown (wq hw 54 rfl) (wq hw 17 rfl) (wq hw 18 rfl) e0 (g := (mkF m 1 #[vR ta, vI (Int32.ofNat mn)] [(.ref ta)])) rfl (by rw [hml]; rfl) rfl (dq (dg dsb 1 rfl)) (by decide) (W := 0) (w0 rfl) (by decide)
  refine R0_ st137 ?_
  show Rch p e below T137 (mkF m 4 #[vR ta, vI (Int32.ofNat mn)] []) _
  obtain ⟨T138, X138, e138, st138⟩ := getS2 X137 hx hZ hown (host := "") (Or.inl (wq hw 55 rfl)) Via.refl e137 Sz (g := (mkF m 4 #[vR ta, vI (Int32.ofNat mn)] [])) rfl (dq (dg dsb 2 rfl))
  refine R0_ st138 ?_
  show Rch p e below T138 (mkF m 7 #[vR ta, vI (Int32.ofNat mn)] [(.int zc)]) _
  refine R1 (XS.ifNo X138.here hx rfl (dq (dg dsb 3 rfl)) rfl ((if0 _ _).trans (feq hzc).1)) ?_
  refine R1 (XS.aloadN X138.here hx rfl (dq (dg dsb 4 rfl)) rfl rfl) ?_
  refine R1 (XS.iloadN X138.here hx rfl (dq (dg dsb 5 rfl)) rfl) ?_
  show Rch p e below T138 (mkF m 12 #[vR ta, vI (Int32.ofNat mn)] [(.int (Int32.ofNat mn)), (.ref ta)]) _
  obtain ⟨T139, h139, k139, X139, e139, E139, A139, Q139, st139⟩ := newPE X138 hx hZ (wq hw 20 rfl) e138 (g := (mkF m 12 #[vR ta, vI (Int32.ofNat mn)] [(.int (Int32.ofNat mn)), (.ref ta)])) rfl (dq (dg dsb 6 rfl)) rfl (ofN_neg (by omega)) (cap := 8) (by rw [ofN_clamp (by omega)]; exact h8) (by decide) (by decide) (by decide) (ad := "[B") (by decide)
  obtain ⟨a139, g139⟩ : ∃ z, z = h0.size := ⟨_, rfl⟩
  rw [← g139] at A139 Q139 st139
  have Ex140 : Ext h0 h139 := E139
  have KK141 : Keep h0 h139 [ta] := (Keep.refl _ _).ext E139
  have le142 : h0.size ≤ a139 := Nat.le_of_eq g139.symm
  refine R0_ st139 ?_
  show Rch p e below T139 (mkF m 14 #[vR ta, vI (Int32.ofNat mn)] [(.ref a139), (.ref ta)]) _
  have VC139 : Vc Z h139 a139 mn [] := ⟨Q139, k139, Arv.new A139 (ofN_neg (by omega))⟩
  obtain ⟨T143, h143, X143, e143, W143, st143⟩ := putF X139 hx hZ hown (host := "") (Or.inl (wq hw 56 rfl)) Via.refl e139 (F1.ext Ex140) (E1.ext Ex140) (Or.inl (wq hw 57 rfl)) (wq hw 32 rfl) (ty := (.array .byte)) (by decide) rfl rfl (g := (mkF m 14 #[vR ta, vI (Int32.ofNat mn)] [(.ref a139), (.ref ta)])) rfl rfl (dq (dg dsb 7 rfl))
  have KK144 : Keep h0 h143 [ta] := KK141.wr W143 (Or.inl (by simp))
  have N143 := Fr.snoc X143 N0 hthis
  refine R0_ st143 ?_
  show Rch p e below T143 (mkF m 17 #[vR ta, vI (Int32.ofNat mn)] []) _
  refine R1 (XS.aloadN X143.here hx rfl (dq (dg dsb 8 rfl)) rfl rfl) ?_
  refine R1 (XS.iconst X143.here hx rfl (dq (dg dsb 9 rfl)) ) ?_
  show Rch p e below T143 (mkF m 19 #[vR ta, vI (Int32.ofNat mn)] [(.int (0 : Int32)), (.ref ta)]) _
  obtain ⟨T145, h145, X145, e145, W145, st145⟩ := putF X143 hx hZ hown (host := "") (Or.inl (wq hw 58 rfl)) Via.refl e143 ((F2.ext Ex140).other W143 (Or.inr (Ne.symm (sb_vc hw)))) ((E1.ext Ex140).wr W143) (Or.inl (wq hw 59 rfl)) (wq hw 32 rfl) (ty := .byte) (by decide) rfl rfl (g := (mkF m 19 #[vR ta, vI (Int32.ofNat mn)] [(.int (0 : Int32)), (.ref ta)])) rfl rfl (dq (dg dsb 10 rfl))
  have KK146 : Keep h0 h145 [ta] := KK144.wr W145 (Or.inl (by simp))
  have N145 := Fr.snoc X145 N143 hthis
  refine R0_ st145 ?_
  show Rch p e below T145 (mkF m 22 #[vR ta, vI (Int32.ofNat mn)] []) _
  refine R1 (XS.goto X145.here hx rfl (pc0 := 22) (pc' := 38) rfl (dq (dg dsb 11 rfl)) (by decide) (by decide)) ?_
  show Rch p e below T145 (mkF m 38 #[vR ta, vI (Int32.ofNat mn)] []) _
  have ne : a139 ≠ ta := Ne.symm ((E1.ext Ex140).ne VC139.1 (by decide))
  exact Rch.fin (Q := Q_asbI Z ta mn h0 n0) X145 (v := none) (fun _ => rfl) (BodyLoose.notSynchronized Bd) (fun fs hr => X145.returnOut hx Bd.returns (dq (dg dsb 12 rfl)) hr) (by rw [e145]; exact ⟨a139, rfl, N145, KK146, le142, ⟨((E1.ext Ex140).wr W143).wr W145, ((F1.ext Ex140).same W143).other W145 (Or.inr (sb_vc hw)), ((F2.ext Ex140).other W143 (Or.inr (Ne.symm (sb_vc hw)))).same W145, ((F3.ext Ex140).other W143 (Or.inr (Ne.symm (sb_vn hw)))).other W145 (Or.inr (Ne.symm (sb_cn hw)))⟩, (VC139.other W143 ne).other W145 ne, Nat.zero_le _, Nat.le_trans h8 (by decide)⟩) (by decide) (by decide)
theorem dbi : dxs jdk_67_method_2_code [(0, .aload_n 0, 1), (1, .iload_n 1, 1), (2, .invokespecial 1, 3), (5, .return_, 1)] = true := by decide +kernel
theorem pn_sbI : plainFor (⟨"java/lang/StringBuilder", "<init>", "(I)V"⟩ : MethodName) = true := plainFor_of_name (by first | (simp [plainName, overriddenIn]; done) | decide +kernel)
def Q_sbI (Z : State) (ta : Addr) (mn : Nat) (h0 : Heap) (n0 : Nat) (v : Option Value) (h : Heap) (L : List Loc) : Prop := ∃ va, v = none ∧ Fr n0 L ∧ Keep h0 h [ta] ∧ h0.size ≤ va ∧ Sc Z h ta va mn []
set_option maxRecDepth 65536 in
set_option maxHeartbeats 40000000 in
theorem rm_sbI (l : Launch) (Z : State) (a0 : Array Value) (hw : ∀ d ∈ tables_1, d.before a0 Z = true) (ws : List Jvm.Cond) (ta : Addr) (mn : Nat) (h0 : Heap) (n0 : Nat) (Z0 : n0 ≤ h0.size) (hthis : n0 ≤ ta) (E1 : Exa Z h0 ta "java/lang/StringBuilder") (F1 : Fld Z h0 ta "java/lang/AbstractStringBuilder" "value" "[B" .null) (F2 : Fld Z h0 ta "java/lang/AbstractStringBuilder" "coder" "B" (.int 0)) (F3 : Fld Z h0 ta "java/lang/AbstractStringBuilder" "count" "I" (.int 0)) (h8 : mn ≤ 8) (CS : Cmp Z h0) :
    MetFree l mN25 (head1 (Jvm.Cond.code mN25 jdk_67_method_2_code 2 none :: ws) rO20) (fun a U => a = #[(.ref ta), (.int (Int32.ofNat mn))] ∧ Z.Warmed39 U.vm ∧ U.heap = h0) (fun _ _ _ _ _ => True) (fun _ U o U' => ∃ v L, o = .returned v ∧ Q_sbI Z ta mn h0 n0 v U'.heap L ∧ FrameEnd U o U' L rO20.cells rO20.slots) := by
  refine MetFree.of_bodySF pn_sbI hisR ?_
  intro p e s m args below meth c s₁ Bd hml0 hP hK
  obtain ⟨rfl, hZ, hh⟩ := hP
  have hx := Bd.exec
  have hby := Bd.bytes
  have dq := @hb _ _ hby
  have hml : c.maxLocals = 2 := hml0
  have hown : s.vm.findClass "java/lang/StringBuilder" = some m.cls := findClass_of_methodNamed Bd.named
  have X0 : Stand p l e rO20 s m #[(.ref ta), (.int (Int32.ofNat mn))] below meth c s₁ [] 0 0 := Stand.of_body Bd
  have e0 : s₁.heap = h0 := by rw [← hh, Bd.state]; rfl
  have N0 := Fr.nil n0
  show Rch p e below s₁ _ _
  refine Rch.cast (ef_getc m ta (Int32.ofNat mn)) ?_
  show Rch p e below s₁ (mkF m 0 #[vR ta, vI (Int32.ofNat mn)] []) _
  refine R1 (XS.aloadN X0.here hx rfl (dq (dg dbi 0 rfl)) rfl rfl) ?_
  refine R1 (XS.iloadN X0.here hx rfl (dq (dg dbi 1 rfl)) rfl) ?_
  show Rch p e below s₁ (mkF m 2 #[vR ta, vI (Int32.ofNat mn)] [(.int (Int32.ofNat mn)), (.ref ta)]) _
  obtain ⟨_, _, ⟨T147, L147, k147, n147⟩, -, X147, ⟨Lc147, hQ147, l147, y147, z147⟩, st147⟩ := X0.specialBack hx (y := mN24) rfl hown (mw hZ hw 48 rfl) (mw hZ hw 49 rfl) (mw hZ hw 53 rfl) (by decide) (backOf (W := 0) (rm_asbI l Z a0 hw [] ta mn h0 n0 Z0 hthis E1 F1 F2 F3 h8 CS) hZ (wq hw 53 rfl) (wq hw 52 rfl) (by decide) (by decide)) (g := (mkF m 2 #[vR ta, vI (Int32.ofNat mn)] [(.int (Int32.ofNat mn)), (.ref ta)])) rfl (by rw [hml]; rfl) (Steps.refl _) (a := ta) (argsL := [(.int (Int32.ofNat mn))]) (rest := []) (lenOf pd_16 rfl) rfl (w0 rfl) (dq (dg dbi 2 rfl)) (fun _ _ => ⟨rfl, e0, (by decide : 0 + 1 ≤ _), (by decide : 0 + 8 ≤ _)⟩)
  dsimp only [Pt.U, Pt.locs, Pt.cells, Pt.slots] at X147 l147 y147 z147 st147 hQ147
  subst l147 y147 z147
  obtain ⟨va147, rfl, Nq147, K147, le147_, B147⟩ := hQ147
  have N147 := Fr.app N0 Nq147
  have KK148 : Keep h0 T147.heap [ta] := (Keep.refl _ _).trans K147 (allS (Or.inl (by simp)) all0)
  refine R2 st147 ?_
  show Rch p e below T147 (mkF m 5 #[vR ta, vI (Int32.ofNat mn)] []) _
  exact Rch.fin (Q := Q_sbI Z ta mn h0 n0) X147 (v := none) (fun _ => rfl) (BodyLoose.notSynchronized Bd) (fun fs hr => X147.returnOut hx Bd.returns (dq (dg dbi 3 rfl)) hr) ⟨va147, rfl, N147, KK148, le147_, B147⟩ (by decide) (by decide)
theorem dis : dxs jdk_68_method_68_code [(0, .getstatic 18, 3), (3, .ifCond .eq 14, 3), (6, .aload_n 0, 1), (7, .getfield 22, 3), (10, .ifCond .ne 7, 3), (13, .iconst 1, 1), (14, .goto 4, 3), (18, .ireturn, 1)] = true := by decide +kernel
theorem pn_islB : plainFor (⟨"java/lang/AbstractStringBuilder", "isLatin1", "()Z"⟩ : MethodName) = true := plainFor_of_name (by first | (simp [plainName, overriddenIn]; done) | decide +kernel)
def Q_islB (Z : State) (ta va : Addr) (cap : Nat) (cs : List Int32) (h0 : Heap) (n0 : Nat) (v : Option Value) (h : Heap) (L : List Loc) : Prop := v = some (.int 1) ∧ Fr n0 L ∧ h = h0
set_option maxRecDepth 65536 in
set_option maxHeartbeats 40000000 in
theorem rm_islB (l : Launch) (Z : State) (a0 : Array Value) (hw : ∀ d ∈ tables_1, d.before a0 Z = true) (ws : List Jvm.Cond) (ta va : Addr) (cap : Nat) (cs : List Int32) (h0 : Heap) (n0 : Nat) (Z0 : n0 ≤ h0.size) (B : Sc Z h0 ta va cap cs) (CS : Cmp Z h0) :
    MetFree l mN26 (head1 (Jvm.Cond.code mN26 jdk_68_method_68_code 1 (some .boolean) :: ws) rO0) (fun a U => a = #[(.ref ta)] ∧ Z.Warmed39 U.vm ∧ U.heap = h0) (fun _ _ _ _ _ => True) (fun _ U o U' => ∃ v L, o = .returned v ∧ Q_islB Z ta va cap cs h0 n0 v U'.heap L ∧ FrameEnd U o U' L rO0.cells rO0.slots) := by
  refine MetFree.of_bodySF pn_islB hisR ?_
  intro p e s m args below meth c s₁ Bd hml0 hP hK
  obtain ⟨rfl, hZ, hh⟩ := hP
  have hx := Bd.exec
  have hby := Bd.bytes
  have dq := @hb _ _ hby
  have hml : c.maxLocals = 1 := hml0
  have hown : s.vm.findClass "java/lang/AbstractStringBuilder" = some m.cls := findClass_of_methodNamed Bd.named
  have X0 : Stand p l e rO0 s m #[(.ref ta)] below meth c s₁ [] 0 0 := Stand.of_body Bd
  have e0 : s₁.heap = h0 := by rw [← hh, Bd.state]; rfl
  have N0 := Fr.nil n0
  show Rch p e below s₁ _ _
  refine Rch.cast (ef_ulen m ta) ?_
  show Rch p e below s₁ (mkF m 0 #[vR ta] []) _
  obtain ⟨zc, Sz, hzc⟩ := id CS
  obtain ⟨T149, X149, e149, st149⟩ := getS2 X0 hx hZ hown (host := "") (Or.inl (wq hw 55 rfl)) Via.refl e0 Sz (g := (mkF m 0 #[vR ta] [])) rfl (dq (dg dis 0 rfl))
  refine R0_ st149 ?_
  show Rch p e below T149 (mkF m 3 #[vR ta] [(.int zc)]) _
  refine R1 (XS.ifNo X149.here hx rfl (dq (dg dis 1 rfl)) rfl ((if0 _ _).trans (feq hzc).1)) ?_
  refine R1 (XS.aloadN X149.here hx rfl (dq (dg dis 2 rfl)) rfl rfl) ?_
  show Rch p e below T149 (mkF m 7 #[vR ta] [(.ref ta)]) _
  obtain ⟨T150, X150, e150, st150⟩ := getF X149 hx hZ hown (host := "") (Or.inl (wq hw 58 rfl)) Via.refl e149 B.1.2.2.1 (g := (mkF m 7 #[vR ta] [(.ref ta)])) rfl rfl (dq (dg dis 3 rfl))
  refine R0_ st150 ?_
  show Rch p e below T150 (mkF m 10 #[vR ta] [(.int (0 : Int32))]) _
  refine R1 (XS.ifNo X150.here hx rfl (dq (dg dis 4 rfl)) rfl (by decide : ifCond.holds .ne (0 : Int32) = false)) ?_
  refine R1 (XS.iconst X150.here hx rfl (dq (dg dis 5 rfl)) ) ?_
  refine R1 (XS.goto X150.here hx rfl (pc0 := 14) (pc' := 18) rfl (dq (dg dis 6 rfl)) (by decide) (by decide)) ?_
  show Rch p e below T150 (mkF m 18 #[vR ta] [(.int (1 : Int32))]) _
  exact Rch.fin (Q := Q_islB Z ta va cap cs h0 n0) X150 (v := some (.int (1 : Int32))) (fun h => by rw [Bd.returns] at h; cases h) (BodyLoose.notSynchronized Bd) (fun fs hr => retN X150 hx (t := .boolean) Bd.returns (by simp) (dq (dg dis 7 rfl)) hr) (by rw [e150]; exact ⟨rfl, N0, rfl⟩) (by decide) (by decide)
theorem dgv : dxs jdk_68_method_64_code [(0, .aload_n 0, 1), (1, .getfield 15, 3), (4, .areturn, 1)] = true := by decide +kernel
theorem pn_gval : plainFor (⟨"java/lang/AbstractStringBuilder", "getValue", "()[B"⟩ : MethodName) = true := plainFor_of_name (by first | (simp [plainName, overriddenIn]; done) | decide +kernel)
def Q_gval (Z : State) (ta va : Addr) (cap : Nat) (cs : List Int32) (h0 : Heap) (n0 : Nat) (v : Option Value) (h : Heap) (L : List Loc) : Prop := v = some (.ref va) ∧ Fr n0 L ∧ h = h0
set_option maxRecDepth 65536 in
set_option maxHeartbeats 40000000 in
theorem rm_gval (l : Launch) (Z : State) (a0 : Array Value) (hw : ∀ d ∈ tables_1, d.before a0 Z = true) (ws : List Jvm.Cond) (ta va : Addr) (cap : Nat) (cs : List Int32) (h0 : Heap) (n0 : Nat) (Z0 : n0 ≤ h0.size) (B : Sc Z h0 ta va cap cs) :
    MetFree l mN27 (head1 (Jvm.Cond.code mN27 jdk_68_method_64_code 1 (some (.array .byte)) :: ws) rO0) (fun a U => a = #[(.ref ta)] ∧ Z.Warmed39 U.vm ∧ U.heap = h0) (fun _ _ _ _ _ => True) (fun _ U o U' => ∃ v L, o = .returned v ∧ Q_gval Z ta va cap cs h0 n0 v U'.heap L ∧ FrameEnd U o U' L rO0.cells rO0.slots) := by
  refine MetFree.of_bodySF pn_gval hisR ?_
  intro p e s m args below meth c s₁ Bd hml0 hP hK
  obtain ⟨rfl, hZ, hh⟩ := hP
  have hx := Bd.exec
  have hby := Bd.bytes
  have dq := @hb _ _ hby
  have hml : c.maxLocals = 1 := hml0
  have hown : s.vm.findClass "java/lang/AbstractStringBuilder" = some m.cls := findClass_of_methodNamed Bd.named
  have X0 : Stand p l e rO0 s m #[(.ref ta)] below meth c s₁ [] 0 0 := Stand.of_body Bd
  have e0 : s₁.heap = h0 := by rw [← hh, Bd.state]; rfl
  have N0 := Fr.nil n0
  show Rch p e below s₁ _ _
  refine Rch.cast (ef_ulen m ta) ?_
  show Rch p e below s₁ (mkF m 0 #[vR ta] []) _
  refine R1 (XS.aloadN X0.here hx rfl (dq (dg dgv 0 rfl)) rfl rfl) ?_
  show Rch p e below s₁ (mkF m 1 #[vR ta] [(.ref ta)]) _
  obtain ⟨T151, X151, e151, st151⟩ := getF X0 hx hZ hown (host := "") (Or.inl (wq hw 56 rfl)) Via.refl e0 B.1.2.1 (g := (mkF m 1 #[vR ta] [(.ref ta)])) rfl rfl (dq (dg dgv 1 rfl))
  refine R0_ st151 ?_
  show Rch p e below T151 (mkF m 4 #[vR ta] [(.ref va)]) _
  exact Rch.fin (Q := Q_gval Z ta va cap cs h0 n0) X151 (v := some (.ref va)) (fun h => by rw [Bd.returns] at h; cases h) (BodyLoose.notSynchronized Bd) (fun fs hr => retR X151 hx Bd.returns rfl rfl (dq (dg dgv 2 rfl)) hr) (by rw [e151]; exact ⟨rfl, N0, rfl⟩) (by decide) (by decide)
theorem dal : dxs jdk_68_method_6_code [(0, .aload_n 0, 1), (1, .getfield 79, 3), (4, .ireturn, 1)] = true := by decide +kernel
theorem pn_alen : plainFor (⟨"java/lang/AbstractStringBuilder", "length", "()I"⟩ : MethodName) = true := plainFor_of_name (by first | (simp [plainName, overriddenIn]; done) | decide +kernel)
def Q_alen (Z : State) (ta va : Addr) (cap : Nat) (cs : List Int32) (h0 : Heap) (n0 : Nat) (v : Option Value) (h : Heap) (L : List Loc) : Prop := v = some (.int (Int32.ofNat cs.length)) ∧ Fr n0 L ∧ h = h0
set_option maxRecDepth 65536 in
set_option maxHeartbeats 40000000 in
theorem rm_alen (l : Launch) (Z : State) (a0 : Array Value) (hw : ∀ d ∈ tables_1, d.before a0 Z = true) (ws : List Jvm.Cond) (ta va : Addr) (cap : Nat) (cs : List Int32) (h0 : Heap) (n0 : Nat) (Z0 : n0 ≤ h0.size) (B : Sc Z h0 ta va cap cs) :
    MetFree l mN28 (head1 (Jvm.Cond.code mN28 jdk_68_method_6_code 1 (some .int) :: ws) rO0) (fun a U => a = #[(.ref ta)] ∧ Z.Warmed39 U.vm ∧ U.heap = h0) (fun _ _ _ _ _ => True) (fun _ U o U' => ∃ v L, o = .returned v ∧ Q_alen Z ta va cap cs h0 n0 v U'.heap L ∧ FrameEnd U o U' L rO0.cells rO0.slots) := by
  refine MetFree.of_bodySF pn_alen hisR ?_
  intro p e s m args below meth c s₁ Bd hml0 hP hK
  obtain ⟨rfl, hZ, hh⟩ := hP
  have hx := Bd.exec
  have hby := Bd.bytes
  have dq := @hb _ _ hby
  have hml : c.maxLocals = 1 := hml0
  have hown : s.vm.findClass "java/lang/AbstractStringBuilder" = some m.cls := findClass_of_methodNamed Bd.named
  have X0 : Stand p l e rO0 s m #[(.ref ta)] below meth c s₁ [] 0 0 := Stand.of_body Bd
  have e0 : s₁.heap = h0 := by rw [← hh, Bd.state]; rfl
  have N0 := Fr.nil n0
  show Rch p e below s₁ _ _
  refine Rch.cast (ef_ulen m ta) ?_
  show Rch p e below s₁ (mkF m 0 #[vR ta] []) _
  refine R1 (XS.aloadN X0.here hx rfl (dq (dg dal 0 rfl)) rfl rfl) ?_
  show Rch p e below s₁ (mkF m 1 #[vR ta] [(.ref ta)]) _
  obtain ⟨T152, X152, e152, st152⟩ := getF X0 hx hZ hown (host := "") (Or.inl (wq hw 70 rfl)) Via.refl e0 B.1.2.2.2 (g := (mkF m 1 #[vR ta] [(.ref ta)])) rfl rfl (dq (dg dal 1 rfl))
  refine R0_ st152 ?_
  show Rch p e below T152 (mkF m 4 #[vR ta] [(.int (Int32.ofNat cs.length))]) _
  exact Rch.fin (Q := Q_alen Z ta va cap cs h0 n0) X152 (v := some (.int (Int32.ofNat cs.length))) (fun h => by rw [Bd.returns] at h; cases h) (BodyLoose.notSynchronized Bd) (fun fs hr => retI X152 hx Bd.returns (dq (dg dal 2 rfl)) hr) (by rw [e152]; exact ⟨rfl, N0, rfl⟩) (by decide) (by decide)
theorem dbl : dxs jdk_67_method_93_code [(0, .aload_n 0, 1), (1, .invokespecial 343, 3), (4, .ireturn, 1)] = true := by decide +kernel
theorem pn_blen : plainFor (⟨"java/lang/StringBuilder", "length", "()I"⟩ : MethodName) = true := plainFor_of_name (by first | (simp [plainName, overriddenIn]; done) | decide +kernel)
def Q_blen (Z : State) (ta va : Addr) (cap : Nat) (cs : List Int32) (h0 : Heap) (n0 : Nat) (v : Option Value) (h : Heap) (L : List Loc) : Prop := v = some (.int (Int32.ofNat cs.length)) ∧ Fr n0 L ∧ h = h0
set_option maxRecDepth 65536 in
set_option maxHeartbeats 40000000 in
theorem rm_blen (l : Launch) (Z : State) (a0 : Array Value) (hw : ∀ d ∈ tables_1, d.before a0 Z = true) (ws : List Jvm.Cond) (ta va : Addr) (cap : Nat) (cs : List Int32) (h0 : Heap) (n0 : Nat) (Z0 : n0 ≤ h0.size) (B : Sc Z h0 ta va cap cs) :
    MetFree l mN29 (head1 (Jvm.Cond.code mN29 jdk_67_method_93_code 1 (some .int) :: ws) rO21) (fun a U => a = #[(.ref ta)] ∧ Z.Warmed39 U.vm ∧ U.heap = h0) (fun _ _ _ _ _ => True) (fun _ U o U' => ∃ v L, o = .returned v ∧ Q_blen Z ta va cap cs h0 n0 v U'.heap L ∧ FrameEnd U o U' L rO21.cells rO21.slots) := by
  refine MetFree.of_bodySF pn_blen hisR ?_
  intro p e s m args below meth c s₁ Bd hml0 hP hK
  obtain ⟨rfl, hZ, hh⟩ := hP
  have hx := Bd.exec
  have hby := Bd.bytes
  have dq := @hb _ _ hby
  have hml : c.maxLocals = 1 := hml0
  have hown : s.vm.findClass "java/lang/StringBuilder" = some m.cls := findClass_of_methodNamed Bd.named
  have X0 : Stand p l e rO21 s m #[(.ref ta)] below meth c s₁ [] 0 0 := Stand.of_body Bd
  have e0 : s₁.heap = h0 := by rw [← hh, Bd.state]; rfl
  have N0 := Fr.nil n0
  show Rch p e below s₁ _ _
  refine Rch.cast (ef_ulen m ta) ?_
  show Rch p e below s₁ (mkF m 0 #[vR ta] []) _
  refine R1 (XS.aloadN X0.here hx rfl (dq (dg dbl 0 rfl)) rfl rfl) ?_
  show Rch p e below s₁ (mkF m 1 #[vR ta] [(.ref ta)]) _
  obtain ⟨_, _, ⟨T153, L153, k153, n153⟩, -, X153, ⟨Lc153, hQ153, l153, y153, z153⟩, st153⟩ := superBack X0 hx hZ (y := mN28) hown (wq hw 112 rfl) (same_of (wq hw 108 rfl) (wq hw 80 rfl) rfl (by decide)) (wq hw 108 rfl) (wq hw 67 rfl) (by decide) (backOf (W := 0) (rm_alen l Z a0 hw [] ta va cap cs h0 n0 Z0 B) hZ (wq hw 113 rfl) (wq hw 52 rfl) (by decide) (by decide)) e0 (Ins.self B.1.1) (g := (mkF m 1 #[vR ta] [(.ref ta)])) rfl (by rw [hml]; rfl) (wq hw 113 rfl) (argsL := []) (rest := []) (lenOf pd_17 rfl) rfl (w0 rfl) (dq (dg dbl 1 rfl)) (fun _ _ => ⟨rfl, e0, (by decide : 0 + 0 ≤ _), (by decide : 0 + 0 ≤ _)⟩)
  dsimp only [Pt.U, Pt.locs, Pt.cells, Pt.slots] at X153 l153 y153 z153 st153 hQ153
  subst l153 y153 z153
  obtain ⟨rfl, Nq153, e153⟩ := hQ153
  have N153 := Fr.app N0 Nq153
  refine R2 st153 ?_
  show Rch p e below T153 (mkF m 4 #[vR ta] [(.int (Int32.ofNat cs.length))]) _
  exact Rch.fin (Q := Q_blen Z ta va cap cs h0 n0) X153 (v := some (.int (Int32.ofNat cs.length))) (fun h => by rw [Bd.returns] at h; cases h) (BodyLoose.notSynchronized Bd) (fun fs hr => retI X153 hx Bd.returns (dq (dg dbl 2 rfl)) hr) (by rw [e153]; exact ⟨rfl, N153, rfl⟩) (by decide) (by decide)
theorem dco : dxs jdk_42_method_152_code [(0, .getstatic 38, 3), (3, .ifCond .eq 10, 3), (6, .aload_n 0, 1), (7, .getfield 15, 3), (10, .goto 4, 3), (14, .ireturn, 1)] = true := by decide +kernel
theorem pn_cod : plainFor (⟨"java/lang/String", "coder", "()B"⟩ : MethodName) = true := plainFor_of_name (by first | (simp [plainName, overriddenIn]; done) | decide +kernel)
def Q_cod (Z : State) (x tb : Addr) (ds : List Int32) (h0 : Heap) (n0 : Nat) (v : Option Value) (h : Heap) (L : List Loc) : Prop := v = some (.int 0) ∧ Fr n0 L ∧ h = h0
set_option maxRecDepth 65536 in
set_option maxHeartbeats 40000000 in
theorem rm_cod (l : Launch) (Z : State) (a0 : Array Value) (hw : ∀ d ∈ tables_1, d.before a0 Z = true) (ws : List Jvm.Cond) (x tb : Addr) (ds : List Int32) (h0 : Heap) (n0 : Nat) (Z0 : n0 ≤ h0.size) (S : Lt Z h0 x tb ds) (CS : Cmp Z h0) :
    MetFree l mN30 (head1 (Jvm.Cond.code mN30 jdk_42_method_152_code 1 (some .byte) :: ws) rO0) (fun a U => a = #[(.ref x)] ∧ Z.Warmed39 U.vm ∧ U.heap = h0) (fun _ _ _ _ _ => True) (fun _ U o U' => ∃ v L, o = .returned v ∧ Q_cod Z x tb ds h0 n0 v U'.heap L ∧ FrameEnd U o U' L rO0.cells rO0.slots) := by
  refine MetFree.of_bodySF pn_cod hisR ?_
  intro p e s m args below meth c s₁ Bd hml0 hP hK
  obtain ⟨rfl, hZ, hh⟩ := hP
  have hx := Bd.exec
  have hby := Bd.bytes
  have dq := @hb _ _ hby
  have hml : c.maxLocals = 1 := hml0
  have hown : s.vm.findClass "java/lang/String" = some m.cls := findClass_of_methodNamed Bd.named
  have X0 : Stand p l e rO0 s m #[(.ref x)] below meth c s₁ [] 0 0 := Stand.of_body Bd
  have e0 : s₁.heap = h0 := by rw [← hh, Bd.state]; rfl
  have N0 := Fr.nil n0
  show Rch p e below s₁ _ _
  refine Rch.cast (ef_ulen m x) ?_
  show Rch p e below s₁ (mkF m 0 #[vR x] []) _
  obtain ⟨zc, Sz, hzc⟩ := id CS
  obtain ⟨T154, X154, e154, st154⟩ := getS2 X0 hx hZ hown (host := "") (Or.inl (wq hw 44 rfl)) Via.refl e0 Sz (g := (mkF m 0 #[vR x] [])) rfl (dq (dg dco 0 rfl))
  refine R0_ st154 ?_
  show Rch p e below T154 (mkF m 3 #[vR x] [(.int zc)]) _
  refine R1 (XS.ifNo X154.here hx rfl (dq (dg dco 1 rfl)) rfl ((if0 _ _).trans (feq hzc).1)) ?_
  refine R1 (XS.aloadN X154.here hx rfl (dq (dg dco 2 rfl)) rfl rfl) ?_
  show Rch p e below T154 (mkF m 7 #[vR x] [(.ref x)]) _
  obtain ⟨T155, X155, e155, st155⟩ := getF X154 hx hZ hown (host := "") (Or.inl (wq hw 26 rfl)) Via.refl e154 S.2.2.1 (g := (mkF m 7 #[vR x] [(.ref x)])) rfl rfl (dq (dg dco 3 rfl))
  refine R0_ st155 ?_
  show Rch p e below T155 (mkF m 10 #[vR x] [(.int (0 : Int32))]) _
  refine R1 (XS.goto X155.here hx rfl (pc0 := 10) (pc' := 14) rfl (dq (dg dco 4 rfl)) (by decide) (by decide)) ?_
  show Rch p e below T155 (mkF m 14 #[vR x] [(.int (0 : Int32))]) _
  exact Rch.fin (Q := Q_cod Z x tb ds h0 n0) X155 (v := some (.int (0 : Int32))) (fun h => by rw [Bd.returns] at h; cases h) (BodyLoose.notSynchronized Bd) (fun fs hr => retN X155 hx (t := .byte) Bd.returns (by simp) (dq (dg dco 5 rfl)) hr) (by rw [e155]; exact ⟨rfl, N0, rfl⟩) (by decide) (by decide)
theorem dsl : dxs jdk_42_method_54_code [(0, .aload_n 0, 1), (1, .getfield 9, 3), (4, .arraylength, 1), (5, .aload_n 0, 1), (6, .invokevirtual 335, 3), (9, .ishr, 1), (10, .ireturn, 1)] = true := by decide +kernel
theorem pn_slen : plainFor (⟨"java/lang/String", "length", "()I"⟩ : MethodName) = true := plainFor_of_name (by first | (simp [plainName, overriddenIn]; done) | decide +kernel)
def Q_slen (Z : State) (x tb : Addr) (ds : List Int32) (h0 : Heap) (n0 : Nat) (v : Option Value) (h : Heap) (L : List Loc) : Prop := v = some (.int (Int32.ofNat ds.length)) ∧ Fr n0 L ∧ h = h0
set_option maxRecDepth 65536 in
set_option maxHeartbeats 40000000 in
theorem rm_slen (l : Launch) (Z : State) (a0 : Array Value) (hw : ∀ d ∈ tables_1, d.before a0 Z = true) (ws : List Jvm.Cond) (x tb : Addr) (ds : List Int32) (h0 : Heap) (n0 : Nat) (Z0 : n0 ≤ h0.size) (S : Lt Z h0 x tb ds) (CS : Cmp Z h0) :
    MetFree l mN31 (head1 (Jvm.Cond.code mN31 jdk_42_method_54_code 1 (some .int) :: ws) rO22) (fun a U => a = #[(.ref x)] ∧ Z.Warmed39 U.vm ∧ U.heap = h0) (fun _ _ _ _ _ => True) (fun _ U o U' => ∃ v L, o = .returned v ∧ Q_slen Z x tb ds h0 n0 v U'.heap L ∧ FrameEnd U o U' L rO22.cells rO22.slots) := by
  refine MetFree.of_bodySF pn_slen hisR ?_
  intro p e s m args below meth c s₁ Bd hml0 hP hK
  obtain ⟨rfl, hZ, hh⟩ := hP
  have hx := Bd.exec
  have hby := Bd.bytes
  have dq := @hb _ _ hby
  have hml : c.maxLocals = 1 := hml0
  have hown : s.vm.findClass "java/lang/String" = some m.cls := findClass_of_methodNamed Bd.named
  have X0 : Stand p l e rO22 s m #[(.ref x)] below meth c s₁ [] 0 0 := Stand.of_body Bd
  have e0 : s₁.heap = h0 := by rw [← hh, Bd.state]; rfl
  have N0 := Fr.nil n0
  show Rch p e below s₁ _ _
  refine Rch.cast (ef_ulen m x) ?_
  show Rch p e below s₁ (mkF m 0 #[vR x] []) _
  obtain ⟨E1, G1, G2, kb, V1⟩ := id S
  refine R1 (XS.aloadN X0.here hx rfl (dq (dg dsl 0 rfl)) rfl rfl) ?_
  show Rch p e below s₁ (mkF m 1 #[vR x] [(.ref x)]) _
  obtain ⟨T156, X156, e156, st156⟩ := getF X0 hx hZ hown (host := "") (Or.inl (wq hw 25 rfl)) Via.refl e0 G1 (g := (mkF m 1 #[vR x] [(.ref x)])) rfl rfl (dq (dg dsl 1 rfl))
  refine R0_ st156 ?_
  show Rch p e below T156 (mkF m 4 #[vR x] [(.ref tb)]) _
  refine R0_ (alenA X156 hx hZ e156 V1.arh (g := (mkF m 4 #[vR x] [(.ref tb)])) rfl rfl (dq (dg dsl 2 rfl))) ?_
  show Rch p e below T156 (mkF m 5 #[vR x] [(.int (Int32.ofNat ds.length))]) _
  refine R1 (XS.aloadN X156.here hx rfl (dq (dg dsl 3 rfl)) rfl rfl) ?_
  show Rch p e below T156 (mkF m 6 #[vR x] [(.ref x), (.int (Int32.ofNat ds.length))]) _
  obtain ⟨cq157, kq157, q157a, q157b, q157c⟩ := isOf hZ e156 E1
  obtain ⟨_, _, ⟨T157, L157, k157, n157⟩, -, X157, ⟨Lc157, hQ157, l157, y157, z157⟩, st157⟩ := X156.virtualBack hx (y := mN30) (z := mN30) hown (mw hZ hw 39 rfl) (mw hZ hw 40 rfl) (notFace_of_selects (args := #[]) (mw hZ hw 42 rfl)) (mw hZ hw 42 rfl) (mw hZ hw 41 rfl) (by decide) (backOf (W := 1) (rm_cod l Z a0 hw [] x tb ds h0 n0 Z0 S CS) hZ (wq hw 43 rfl) (wq hw 7 rfl) (by decide) (by decide)) q157a q157c (g := (mkF m 6 #[vR x] [(.ref x), (.int (Int32.ofNat ds.length))])) rfl (by rw [hml]; rfl) (Steps.refl _) (argsL := []) (rest := [(.int (Int32.ofNat ds.length))]) (lenOf pd_18 rfl) rfl (w0 rfl) (dq (dg dsl 4 rfl)) (fun _ _ => ⟨rfl, e156, (by decide : 0 + 0 ≤ _), (by decide : 0 + 0 ≤ _)⟩)
  dsimp only [Pt.U, Pt.locs, Pt.cells, Pt.slots] at X157 l157 y157 z157 st157 hQ157
  subst l157 y157 z157
  obtain ⟨rfl, Nq157, e157⟩ := hQ157
  have N157 := Fr.app N0 Nq157
  refine R2 st157 ?_
  show Rch p e below T157 (mkF m 9 #[vR x] [(.int (0 : Int32)), (.int (Int32.ofNat ds.length))]) _
  refine R1 (XT.ishr X157.here hx rfl (dq (dg dsl 5 rfl)) rfl) ?_
  show Rch p e below T157 (mkF m 10 #[vR x] [(.int ((Int32.ofNat ds.length) >>> ((0 : Int32) &&& 31)))]) _
  rw [shr0]
  show Rch p e below T157 (mkF m 10 #[vR x] [(.int (Int32.ofNat ds.length))]) _
  exact Rch.fin (Q := Q_slen Z x tb ds h0 n0) X157 (v := some (.int (Int32.ofNat ds.length))) (fun h => by rw [Bd.returns] at h; cases h) (BodyLoose.notSynchronized Bd) (fun fs hr => retI X157 hx Bd.returns (dq (dg dsl 6 rfl)) hr) (by rw [e157]; exact ⟨rfl, N157, rfl⟩) (by decide) (by decide)
theorem dif : dxs jdk_68_method_71_code [(0, .getstatic 18, 3), (3, .ifCond .eq 18, 3), (6, .aload_n 0, 1), (7, .getfield 22, 3), (10, .aload_n 1, 1), (11, .invokevirtual 40, 3), (14, .if_icmp .eq 7, 3), (21, .return_, 1)] = true := by decide +kernel
theorem pn_infl : plainFor (⟨"java/lang/AbstractStringBuilder", "inflateIfNeededFor", "(Ljava/lang/String;)V"⟩ : MethodName) = true := plainFor_of_name (by first | (simp [plainName, overriddenIn]; done) | decide +kernel)
def Q_infl (Z : State) (ta va x tb : Addr) (cap : Nat) (cs ds : List Int32) (h0 : Heap) (n0 : Nat) (v : Option Value) (h : Heap) (L : List Loc) : Prop := v = none ∧ Fr n0 L ∧ h = h0
set_option maxRecDepth 65536 in
set_option maxHeartbeats 40000000 in
theorem rm_infl (l : Launch) (Z : State) (a0 : Array Value) (hw : ∀ d ∈ tables_1, d.before a0 Z = true) (ws : List Jvm.Cond) (ta va x tb : Addr) (cap : Nat) (cs ds : List Int32) (h0 : Heap) (n0 : Nat) (Z0 : n0 ≤ h0.size) (B : Sc Z h0 ta va cap cs) (S : Lt Z h0 x tb ds) (CS : Cmp Z h0) :
    MetFree l mN32 (head1 (Jvm.Cond.code mN32 jdk_68_method_71_code 2 none :: ws) rO22) (fun a U => a = #[(.ref ta), (.ref x)] ∧ Z.Warmed39 U.vm ∧ U.heap = h0) (fun _ _ _ _ _ => True) (fun _ U o U' => ∃ v L, o = .returned v ∧ Q_infl Z ta va x tb cap cs ds h0 n0 v U'.heap L ∧ FrameEnd U o U' L rO22.cells rO22.slots) := by
  refine MetFree.of_bodySF pn_infl hisR ?_
  intro p e s m args below meth c s₁ Bd hml0 hP hK
  obtain ⟨rfl, hZ, hh⟩ := hP
  have hx := Bd.exec
  have hby := Bd.bytes
  have dq := @hb _ _ hby
  have hml : c.maxLocals = 2 := hml0
  have hown : s.vm.findClass "java/lang/AbstractStringBuilder" = some m.cls := findClass_of_methodNamed Bd.named
  have X0 : Stand p l e rO22 s m #[(.ref ta), (.ref x)] below meth c s₁ [] 0 0 := Stand.of_body Bd
  have e0 : s₁.heap = h0 := by rw [← hh, Bd.state]; rfl
  have N0 := Fr.nil n0
  show Rch p e below s₁ _ _
  refine Rch.cast (ef_new1e m ta x) ?_
  show Rch p e below s₁ (mkF m 0 #[vR ta, vR x] []) _
  obtain ⟨zc, Sz, hzc⟩ := id CS
  obtain ⟨T158, X158, e158, st158⟩ := getS2 X0 hx hZ hown (host := "") (Or.inl (wq hw 55 rfl)) Via.refl e0 Sz (g := (mkF m 0 #[vR ta, vR x] [])) rfl (dq (dg dif 0 rfl))
  refine R0_ st158 ?_
  show Rch p e below T158 (mkF m 3 #[vR ta, vR x] [(.int zc)]) _
  refine R1 (XS.ifNo X158.here hx rfl (dq (dg dif 1 rfl)) rfl ((if0 _ _).trans (feq hzc).1)) ?_
  refine R1 (XS.aloadN X158.here hx rfl (dq (dg dif 2 rfl)) rfl rfl) ?_
  show Rch p e below T158 (mkF m 7 #[vR ta, vR x] [(.ref ta)]) _
  obtain ⟨T159, X159, e159, st159⟩ := getF X158 hx hZ hown (host := "") (Or.inl (wq hw 58 rfl)) Via.refl e158 B.1.2.2.1 (g := (mkF m 7 #[vR ta, vR x] [(.ref ta)])) rfl rfl (dq (dg dif 3 rfl))
  refine R0_ st159 ?_
  show Rch p e below T159 (mkF m 10 #[vR ta, vR x] [(.int (0 : Int32))]) _
  refine R1 (XS.aloadN X159.here hx rfl (dq (dg dif 4 rfl)) rfl rfl) ?_
  show Rch p e below T159 (mkF m 11 #[vR ta, vR x] [(.ref x), (.int (0 : Int32))]) _
  obtain ⟨cq160, kq160, q160a, q160b, q160c⟩ := isOf hZ e159 S.1
  obtain ⟨_, _, ⟨T160, L160, k160, n160⟩, -, X160, ⟨Lc160, hQ160, l160, y160, z160⟩, st160⟩ := X159.virtualBack hx (y := mN30) (z := mN30) hown (mw hZ hw 182 rfl) (mw hZ hw 40 rfl) (notFace_of_selects (args := #[]) (mw hZ hw 42 rfl)) (mw hZ hw 42 rfl) (mw hZ hw 41 rfl) (by decide) (backOf (W := 1) (rm_cod l Z a0 hw [] x tb ds h0 n0 Z0 S CS) hZ (wq hw 43 rfl) (wq hw 7 rfl) (by decide) (by decide)) q160a q160c (g := (mkF m 11 #[vR ta, vR x] [(.ref x), (.int (0 : Int32))])) rfl (by rw [hml]; rfl) (Steps.refl _) (argsL := []) (rest := [(.int (0 : Int32))]) (lenOf pd_18 rfl) rfl (w0 rfl) (dq (dg dif 5 rfl)) (fun _ _ => ⟨rfl, e159, (by decide : 0 + 0 ≤ _), (by decide : 0 + 0 ≤ _)⟩)
  dsimp only [Pt.U, Pt.locs, Pt.cells, Pt.slots] at X160 l160 y160 z160 st160 hQ160
  subst l160 y160 z160
  obtain ⟨rfl, Nq160, e160⟩ := hQ160
  have N160 := Fr.app N0 Nq160
  refine R2 st160 ?_
  show Rch p e below T160 (mkF m 14 #[vR ta, vR x] [(.int (0 : Int32)), (.int (0 : Int32))]) _
  refine R1 (XS.icmpYes X160.here hx rfl (pc0 := 14) (pc' := 21) rfl (dq (dg dif 6 rfl)) rfl (by decide : if_icmp.holds .eq (0 : Int32) (0 : Int32) = true) (by decide) (by decide)) ?_
  show Rch p e below T160 (mkF m 21 #[vR ta, vR x] []) _
  exact Rch.fin (Q := Q_infl Z ta va x tb cap cs ds h0 n0) X160 (v := none) (fun _ => rfl) (BodyLoose.notSynchronized Bd) (fun fs hr => X160.returnOut hx Bd.returns (dq (dg dif 7 rfl)) hr) (by rw [e160]; exact ⟨rfl, N160, rfl⟩) (by decide) (by decide)
theorem dgb : dxs jdk_42_method_147_code [(0, .aload_n 0, 1), (1, .invokevirtual 335, 3), (4, .iload_n 3, 1), (5, .if_icmp .ne 23, 3), (8, .aload_n 0, 1), (9, .getfield 9, 3), (12, .iconst 0, 1), (13, .aload_n 1, 1), (14, .iload_n 2, 1), (15, .iload_n 3, 1), (16, .ishl, 1), (17, .aload_n 0, 1), (18, .getfield 9, 3), (21, .arraylength, 1), (22, .invokestatic 212, 3), (25, .goto 18, 3), (43, .return_, 1)] = true := by decide +kernel
theorem pn_getB : plainFor (⟨"java/lang/String", "getBytes", "([BIB)V"⟩ : MethodName) = true := plainFor_of_name (by first | (simp [plainName, overriddenIn]; done) | decide +kernel)
theorem ef_getB (m : MethodId) (x0 : Addr) (x1 : Addr) (x2 : Int32) (x3 : Int32) : entryFrame m #[(.ref x0), (.ref x1), (.int x2), (.int x3)] 4 = mkF m 0 #[vR x0, vR x1, vI x2, vI x3] [] := by first | (simp [entryFrame, mkF, argsToLocals, Value.category]; done) | rfl
def Q_getB (Z : State) (x tb va : Addr) (cap : Nat) (cs ds : List Int32) (h0 : Heap) (n0 : Nat) (v : Option Value) (h : Heap) (L : List Loc) : Prop := v = none ∧ Fr n0 L ∧ Keep h0 h [va] ∧ Vc Z h va cap (cs ++ ds)
set_option maxRecDepth 65536 in
set_option maxHeartbeats 40000000 in
theorem rm_getB (l : Launch) (Z : State) (a0 : Array Value) (hw : ∀ d ∈ tables_1, d.before a0 Z = true) (ws : List Jvm.Cond) (x tb va : Addr) (cap : Nat) (cs ds : List Int32) (h0 : Heap) (n0 : Nat) (Z0 : n0 ≤ h0.size) (S : Lt Z h0 x tb ds) (V : Vc Z h0 va cap cs) (hva : n0 ≤ va) (hfit : cs.length + ds.length ≤ cap) (h40 : cap ≤ 40) (CS : Cmp Z h0) :
    MetFree l mN33 (head1 (Jvm.Cond.code mN33 jdk_42_method_147_code 4 none :: ws) rO23) (fun a U => a = #[(.ref x), (.ref va), (.int (Int32.ofNat cs.length)), (.int (0 : Int32))] ∧ Z.Warmed39 U.vm ∧ U.heap = h0) (fun _ _ _ _ _ => True) (fun _ U o U' => ∃ v L, o = .returned v ∧ Q_getB Z x tb va cap cs ds h0 n0 v U'.heap L ∧ FrameEnd U o U' L rO23.cells rO23.slots) := by
  refine MetFree.of_bodySF pn_getB hisR ?_
  intro p e s m args below meth c s₁ Bd hml0 hP hK
  obtain ⟨rfl, hZ, hh⟩ := hP
  have hx := Bd.exec
  have hby := Bd.bytes
  have dq := @hb _ _ hby
  have hml : c.maxLocals = 4 := hml0
  have hown : s.vm.findClass "java/lang/String" = some m.cls := findClass_of_methodNamed Bd.named
  have X0 : Stand p l e rO23 s m #[(.ref x), (.ref va), (.int (Int32.ofNat cs.length)), (.int (0 : Int32))] below meth c s₁ [] 0 0 := Stand.of_body Bd
  have e0 : s₁.heap = h0 := by rw [← hh, Bd.state]; rfl
  have N0 := Fr.nil n0
  show Rch p e below s₁ _ _
  refine Rch.cast (ef_getB m x va (Int32.ofNat cs.length) (0 : Int32)) ?_
  show Rch p e below s₁ (mkF m 0 #[vR x, vR va, vI (Int32.ofNat cs.length), vI (0 : Int32)] []) _
  obtain ⟨E1, G1, G2, kb, V1⟩ := id S
  obtain ⟨EV, kv, VA⟩ := id V
  refine R1 (XS.aloadN X0.here hx rfl (dq (dg dgb 0 rfl)) rfl rfl) ?_
  show Rch p e below s₁ (mkF m 1 #[vR x, vR va, vI (Int32.ofNat cs.length), vI (0 : Int32)] [(.ref x)]) _
  obtain ⟨cq161, kq161, q161a, q161b, q161c⟩ := isOf hZ e0 E1
  obtain ⟨_, _, ⟨T161, L161, k161, n161⟩, -, X161, ⟨Lc161, hQ161, l161, y161, z161⟩, st161⟩ := X0.virtualBack hx (y := mN30) (z := mN30) hown (mw hZ hw 39 rfl) (mw hZ hw 40 rfl) (notFace_of_selects (args := #[]) (mw hZ hw 42 rfl)) (mw hZ hw 42 rfl) (mw hZ hw 41 rfl) (by decide) (backOf (W := 0) (rm_cod l Z a0 hw [] x tb ds h0 n0 Z0 S CS) hZ (wq hw 43 rfl) (wq hw 7 rfl) (by decide) (by decide)) q161a q161c (g := (mkF m 1 #[vR x, vR va, vI (Int32.ofNat cs.length), vI (0 : Int32)] [(.ref x)])) rfl (by rw [hml]; rfl) (Steps.refl _) (argsL := []) (rest := []) (lenOf pd_18 rfl) rfl (w0 rfl) (dq (dg dgb 1 rfl)) (fun _ _ => ⟨rfl, e0, (by decide : 0 + 0 ≤ _), (by decide : 0 + 0 ≤ _)⟩)
  dsimp only [Pt.U, Pt.locs, Pt.cells, Pt.slots] at X161 l161 y161 z161 st161 hQ161
  subst l161 y161 z161
  obtain ⟨rfl, Nq161, e161⟩ := hQ161
  have N161 := Fr.app N0 Nq161
  refine R2 st161 ?_
  show Rch p e below T161 (mkF m 4 #[vR x, vR va, vI (Int32.ofNat cs.length), vI (0 : Int32)] [(.int (0 : Int32))]) _
  refine R1 (XS.iloadN X161.here hx rfl (dq (dg dgb 2 rfl)) rfl) ?_
  refine R1 (XS.icmpNo X161.here hx rfl (dq (dg dgb 3 rfl)) rfl (by decide : if_icmp.holds .ne (0 : Int32) (0 : Int32) = false)) ?_
  refine R1 (XS.aloadN X161.here hx rfl (dq (dg dgb 4 rfl)) rfl rfl) ?_
  show Rch p e below T161 (mkF m 9 #[vR x, vR va, vI (Int32.ofNat cs.length), vI (0 : Int32)] [(.ref x)]) _
  obtain ⟨T162, X162, e162, st162⟩ := getF X161 hx hZ hown (host := "") (Or.inl (wq hw 25 rfl)) Via.refl e161 G1 (g := (mkF m 9 #[vR x, vR va, vI (Int32.ofNat cs.length), vI (0 : Int32)] [(.ref x)])) rfl rfl (dq (dg dgb 5 rfl))
  refine R0_ st162 ?_
  show Rch p e below T162 (mkF m 12 #[vR x, vR va, vI (Int32.ofNat cs.length), vI (0 : Int32)] [(.ref tb)]) _
  refine R1 (XS.iconst X162.here hx rfl (dq (dg dgb 6 rfl)) ) ?_
  refine R1 (XS.aloadN X162.here hx rfl (dq (dg dgb 7 rfl)) rfl rfl) ?_
  refine R1 (XS.iloadN X162.here hx rfl (dq (dg dgb 8 rfl)) rfl) ?_
  refine R1 (XS.iloadN X162.here hx rfl (dq (dg dgb 9 rfl)) rfl) ?_
  refine R1 (XT.ishl X162.here hx rfl (dq (dg dgb 10 rfl)) rfl) ?_
  show Rch p e below T162 (mkF m 17 #[vR x, vR va, vI (Int32.ofNat cs.length), vI (0 : Int32)] [(.int ((Int32.ofNat cs.length) <<< ((0 : Int32) &&& 31))), (.ref va), (.int (0 : Int32)), (.ref tb)]) _
  rw [shl0]
  show Rch p e below T162 (mkF m 17 #[vR x, vR va, vI (Int32.ofNat cs.length), vI (0 : Int32)] [(.int (Int32.ofNat cs.length)), (.ref va), (.int (0 : Int32)), (.ref tb)]) _
  refine R1 (XS.aloadN X162.here hx rfl (dq (dg dgb 11 rfl)) rfl rfl) ?_
  show Rch p e below T162 (mkF m 18 #[vR x, vR va, vI (Int32.ofNat cs.length), vI (0 : Int32)] [(.ref x), (.int (Int32.ofNat cs.length)), (.ref va), (.int (0 : Int32)), (.ref tb)]) _
  obtain ⟨T163, X163, e163, st163⟩ := getF X162 hx hZ hown (host := "") (Or.inl (wq hw 25 rfl)) Via.refl e162 G1 (g := (mkF m 18 #[vR x, vR va, vI (Int32.ofNat cs.length), vI (0 : Int32)] [(.ref x), (.int (Int32.ofNat cs.length)), (.ref va), (.int (0 : Int32)), (.ref tb)])) rfl rfl (dq (dg dgb 12 rfl))
  refine R0_ st163 ?_
  show Rch p e below T163 (mkF m 21 #[vR x, vR va, vI (Int32.ofNat cs.length), vI (0 : Int32)] [(.ref tb), (.int (Int32.ofNat cs.length)), (.ref va), (.int (0 : Int32)), (.ref tb)]) _
  refine R0_ (alenA X163 hx hZ e163 V1.arh (g := (mkF m 21 #[vR x, vR va, vI (Int32.ofNat cs.length), vI (0 : Int32)] [(.ref tb), (.int (Int32.ofNat cs.length)), (.ref va), (.int (0 : Int32)), (.ref tb)])) rfl rfl (dq (dg dgb 13 rfl))) ?_
  show Rch p e below T163 (mkF m 22 #[vR x, vR va, vI (Int32.ofNat cs.length), vI (0 : Int32)] [(.int (Int32.ofNat ds.length)), (.int (Int32.ofNat cs.length)), (.ref va), (.int (0 : Int32)), (.ref tb)]) _
  have c1 : (Int32.ofNat cs.length).toNatClampNeg = cs.length := ofN_clamp (by omega)
  have c2 : (Int32.ofNat ds.length).toNatClampNeg = ds.length := ofN_clamp (by omega)
  have c3 : (Int32.ofNat cap).toNatClampNeg = cap := ofN_clamp (by omega)
  obtain ⟨T164, h164, L164, X164, e164, N164, K164, V164, st164⟩ := cpA X163 hx hZ hown (wq hw 188 rfl) (wq hw 191 rfl) (wq hw 189 rfl) (wq hw 190 rfl) e163 V1 (VA.pad (pad_rep (byt cs) (.int 0) ds.length)) (Or.inl ⟨rfl, rfl⟩) (by decide) (ofN_neg (by omega)) (ofN_neg (by omega)) (by show 0 + _ ≤ _; omega) (by rw [c1, c2, c3]; exact hfit) (us := _) (sp := (0 : Int32)) (dp := (Int32.ofNat cs.length)) (nn := (Int32.ofNat ds.length)) rfl (by rw [c1, c2]; simp [byt_len]) N161 hva (g := (mkF m 22 #[vR x, vR va, vI (Int32.ofNat cs.length), vI (0 : Int32)] [(.int (Int32.ofNat ds.length)), (.int (Int32.ofNat cs.length)), (.ref va), (.int (0 : Int32)), (.ref tb)])) rfl (by rw [hml]; rfl) rfl (dq (dg dgb 14 rfl)) (by decide) (W := 0) (w0 rfl) (by decide)
  have KK165 : Keep h0 h164 [va] := (Keep.refl _ _).trans K164 (allS (Or.inl (by simp)) all0)
  refine R0_ st164 ?_
  show Rch p e below T164 (mkF m 25 #[vR x, vR va, vI (Int32.ofNat cs.length), vI (0 : Int32)] []) _
  have hx9 : (Int32.ofNat cs.length).toNatClampNeg = (byt cs).length := by rw [c1, byt_len]
  have hm9 : (Int32.ofNat ds.length).toNatClampNeg = (byt ds).length := by rw [c2, byt_len]
  rw [ap_pad hx9 hm9 (byt_len ds), ← byt_app] at V164
  refine R1 (XS.goto X164.here hx rfl (pc0 := 25) (pc' := 43) rfl (dq (dg dgb 15 rfl)) (by decide) (by decide)) ?_
  show Rch p e below T164 (mkF m 43 #[vR x, vR va, vI (Int32.ofNat cs.length), vI (0 : Int32)] []) _
  exact Rch.fin (Q := Q_getB Z x tb va cap cs ds h0 n0) X164 (v := none) (fun _ => rfl) (BodyLoose.notSynchronized Bd) (fun fs hr => X164.returnOut hx Bd.returns (dq (dg dgb 16 rfl)) hr) (by rw [e164]; exact ⟨rfl, N164, KK165, EV.keep K164, kv, V164⟩) (by decide) (by decide)
theorem dps : dxs jdk_68_method_73_code [(0, .aload_n 0, 1), (1, .aload_n 2, 1), (2, .invokevirtual 397, 3), (5, .aload_n 2, 1), (6, .aload_n 0, 1), (7, .getfield 15, 3), (10, .iload_n 1, 1), (11, .aload_n 0, 1), (12, .getfield 22, 3), (15, .invokevirtual 399, 3), (18, .return_, 1)] = true := by decide +kernel
theorem pn_psa : plainFor (⟨"java/lang/AbstractStringBuilder", "putStringAt", "(ILjava/lang/String;)V"⟩ : MethodName) = true := plainFor_of_name (by first | (simp [plainName, overriddenIn]; done) | decide +kernel)
theorem ef_psa (m : MethodId) (x0 : Addr) (x1 : Int32) (x2 : Addr) : entryFrame m #[(.ref x0), (.int x1), (.ref x2)] 3 = mkF m 0 #[vR x0, vI x1, vR x2] [] := by first | (simp [entryFrame, mkF, argsToLocals, Value.category]; done) | rfl
def Q_psa (Z : State) (ta va x tb : Addr) (cap : Nat) (cs ds : List Int32) (h0 : Heap) (n0 : Nat) (v : Option Value) (h : Heap) (L : List Loc) : Prop := v = none ∧ Fr n0 L ∧ Keep h0 h [va] ∧ Vc Z h va cap (cs ++ ds)
set_option maxRecDepth 65536 in
set_option maxHeartbeats 40000000 in
theorem rm_psa (l : Launch) (Z : State) (a0 : Array Value) (hw : ∀ d ∈ tables_1, d.before a0 Z = true) (ws : List Jvm.Cond) (ta va x tb : Addr) (cap : Nat) (cs ds : List Int32) (h0 : Heap) (n0 : Nat) (Z0 : n0 ≤ h0.size) (B : Sc Z h0 ta va cap cs) (S : Lt Z h0 x tb ds) (hva : n0 ≤ va) (hfit : cs.length + ds.length ≤ cap) (CS : Cmp Z h0) :
    MetFree l mN34 (head1 (Jvm.Cond.code mN34 jdk_68_method_73_code 3 none :: ws) rO24) (fun a U => a = #[(.ref ta), (.int (Int32.ofNat cs.length)), (.ref x)] ∧ Z.Warmed39 U.vm ∧ U.heap = h0) (fun _ _ _ _ _ => True) (fun _ U o U' => ∃ v L, o = .returned v ∧ Q_psa Z ta va x tb cap cs ds h0 n0 v U'.heap L ∧ FrameEnd U o U' L rO24.cells rO24.slots) := by
  refine MetFree.of_bodySF pn_psa hisR ?_
  intro p e s m args below meth c s₁ Bd hml0 hP hK
  obtain ⟨rfl, hZ, hh⟩ := hP
  have hx := Bd.exec
  have hby := Bd.bytes
  have dq := @hb _ _ hby
  have hml : c.maxLocals = 3 := hml0
  have hown : s.vm.findClass "java/lang/AbstractStringBuilder" = some m.cls := findClass_of_methodNamed Bd.named
  have X0 : Stand p l e rO24 s m #[(.ref ta), (.int (Int32.ofNat cs.length)), (.ref x)] below meth c s₁ [] 0 0 := Stand.of_body Bd
  have e0 : s₁.heap = h0 := by rw [← hh, Bd.state]; rfl
  have N0 := Fr.nil n0
  show Rch p e below s₁ _ _
  refine Rch.cast (ef_psa m ta (Int32.ofNat cs.length) x) ?_
  show Rch p e below s₁ (mkF m 0 #[vR ta, vI (Int32.ofNat cs.length), vR x] []) _
  refine R1 (XS.aloadN X0.here hx rfl (dq (dg dps 0 rfl)) rfl rfl) ?_
  refine R1 (XS.aloadN X0.here hx rfl (dq (dg dps 1 rfl)) rfl rfl) ?_
  show Rch p e below s₁ (mkF m 2 #[vR ta, vI (Int32.ofNat cs.length), vR x] [(.ref x), (.ref ta)]) _
  obtain ⟨ce166, q166, q166'⟩ := ((Ins.self B.1.1)).cell
  obtain ⟨_, _, ⟨T166, L166, k166, n166⟩, -, X166, ⟨Lc166, hQ166, l166, y166, z166⟩, st166⟩ := X0.privateBack hx (y := mN32) hown (mw hZ hw 177 rfl) (mw hZ hw 178 rfl) (selSelf (mw hZ hw 180 rfl) (mw hZ hw 178 rfl) (Cond.privateMethod_at (mvP hZ (wq hw 179 rfl) (args := #[]))) (by decide)) (Cond.privateMethod_at (mvP hZ (wq hw 179 rfl) (args := #[]))) (mw hZ hw 181 rfl) (by decide) (backOf (W := 0) (rm_infl l Z a0 hw [] ta va x tb cap cs ds h0 n0 Z0 B S CS) hZ (wq hw 181 rfl) (wq hw 52 rfl) (by decide) (by decide)) (g := (mkF m 2 #[vR ta, vI (Int32.ofNat cs.length), vR x] [(.ref x), (.ref ta)])) rfl (by rw [hml]; rfl) (Steps.refl _) (a := ta) (by rw [e0]; exact q166) q166' (argsL := [(.ref x)]) (rest := []) (lenOf pd_19 rfl) rfl (w0 rfl) (dq (dg dps 2 rfl)) (fun _ _ => ⟨rfl, e0, (by decide : 0 + 0 ≤ _), (by decide : 0 + 0 ≤ _)⟩)
  dsimp only [Pt.U, Pt.locs, Pt.cells, Pt.slots] at X166 l166 y166 z166 st166 hQ166
  subst l166 y166 z166
  obtain ⟨rfl, Nq166, e166⟩ := hQ166
  have N166 := Fr.app N0 Nq166
  refine R2 st166 ?_
  show Rch p e below T166 (mkF m 5 #[vR ta, vI (Int32.ofNat cs.length), vR x] []) _
  refine R1 (XS.aloadN X166.here hx rfl (dq (dg dps 3 rfl)) rfl rfl) ?_
  refine R1 (XS.aloadN X166.here hx rfl (dq (dg dps 4 rfl)) rfl rfl) ?_
  show Rch p e below T166 (mkF m 7 #[vR ta, vI (Int32.ofNat cs.length), vR x] [(.ref ta), (.ref x)]) _
  obtain ⟨T167, X167, e167, st167⟩ := getF X166 hx hZ hown (host := "") (Or.inl (wq hw 56 rfl)) Via.refl e166 B.1.2.1 (g := (mkF m 7 #[vR ta, vI (Int32.ofNat cs.length), vR x] [(.ref ta), (.ref x)])) rfl rfl (dq (dg dps 5 rfl))
  refine R0_ st167 ?_
  show Rch p e below T167 (mkF m 10 #[vR ta, vI (Int32.ofNat cs.length), vR x] [(.ref va), (.ref x)]) _
  refine R1 (XS.iloadN X167.here hx rfl (dq (dg dps 6 rfl)) rfl) ?_
  refine R1 (XS.aloadN X167.here hx rfl (dq (dg dps 7 rfl)) rfl rfl) ?_
  show Rch p e below T167 (mkF m 12 #[vR ta, vI (Int32.ofNat cs.length), vR x] [(.ref ta), (.int (Int32.ofNat cs.length)), (.ref va), (.ref x)]) _
  obtain ⟨T168, X168, e168, st168⟩ := getF X167 hx hZ hown (host := "") (Or.inl (wq hw 58 rfl)) Via.refl e167 B.1.2.2.1 (g := (mkF m 12 #[vR ta, vI (Int32.ofNat cs.length), vR x] [(.ref ta), (.int (Int32.ofNat cs.length)), (.ref va), (.ref x)])) rfl rfl (dq (dg dps 8 rfl))
  refine R0_ st168 ?_
  show Rch p e below T168 (mkF m 15 #[vR ta, vI (Int32.ofNat cs.length), vR x] [(.int (0 : Int32)), (.int (Int32.ofNat cs.length)), (.ref va), (.ref x)]) _
  obtain ⟨cq169, kq169, q169a, q169b, q169c⟩ := isOf hZ e168 S.1
  obtain ⟨_, _, ⟨T169, L169, k169, n169⟩, -, X169, ⟨Lc169, hQ169, l169, y169, z169⟩, st169⟩ := X168.virtualBack hx (y := mN33) (z := mN33) hown (mw hZ hw 183 rfl) (mw hZ hw 184 rfl) (notFace_of_selects (args := #[]) (mw hZ hw 186 rfl)) (mw hZ hw 186 rfl) (mw hZ hw 185 rfl) (by decide) (backOf (W := 0) (rm_getB l Z a0 hw [] x tb va cap cs ds h0 n0 Z0 S B.2.1 hva hfit (by have q := B.2.2.2; omega) CS) hZ (wq hw 187 rfl) (wq hw 7 rfl) (by decide) (by decide)) q169a q169c (g := (mkF m 15 #[vR ta, vI (Int32.ofNat cs.length), vR x] [(.int (0 : Int32)), (.int (Int32.ofNat cs.length)), (.ref va), (.ref x)])) rfl (by rw [hml]; rfl) (Steps.refl _) (argsL := [(.ref va), (.int (Int32.ofNat cs.length)), (.int (0 : Int32))]) (rest := []) (lenOf pd_20 rfl) rfl (w0 rfl) (dq (dg dps 9 rfl)) (fun _ _ => ⟨rfl, e168, (by decide : 0 + 0 ≤ _), (by decide : 0 + 0 ≤ _)⟩)
  dsimp only [Pt.U, Pt.locs, Pt.cells, Pt.slots] at X169 l169 y169 z169 st169 hQ169
  subst l169 y169 z169
  obtain ⟨rfl, Nq169, K169, V169⟩ := hQ169
  have N169 := Fr.app N166 Nq169
  have KK170 : Keep h0 T169.heap [va] := (Keep.refl _ _).trans K169 (allS (Or.inl (by simp)) all0)
  refine R2 st169 ?_
  show Rch p e below T169 (mkF m 18 #[vR ta, vI (Int32.ofNat cs.length), vR x] []) _
  exact Rch.fin (Q := Q_psa Z ta va x tb cap cs ds h0 n0) X169 (v := none) (fun _ => rfl) (BodyLoose.notSynchronized Bd) (fun fs hr => X169.returnOut hx Bd.returns (dq (dg dps 10 rfl)) hr) ⟨rfl, N169, KK170, V169⟩ (by decide) (by decide)
theorem dap : dxs jdk_68_method_22_code [(0, .aload_n 1, 1), (1, .ifnonnull 8, 3), (9, .aload_n 1, 1), (10, .invokevirtual 32, 3), (13, .istore_n 2, 1), (14, .aload_n 0, 1), (15, .aload_n 0, 1), (16, .getfield 79, 3), (19, .iload_n 2, 1), (20, .iadd, 1), (21, .invokevirtual 100, 3), (24, .aload_n 0, 1), (25, .aload_n 0, 1), (26, .getfield 79, 3), (29, .aload_n 1, 1), (30, .invokevirtual 208, 3), (33, .aload_n 0, 1), (34, .dup, 1), (35, .getfield 79, 3), (38, .iload_n 2, 1), (39, .iadd, 1), (40, .putfield 79, 3), (43, .aload_n 0, 1), (44, .areturn, 1)] = true := by decide +kernel
theorem pn_asbApp : plainFor (⟨"java/lang/AbstractStringBuilder", "append", "(Ljava/lang/String;)Ljava/lang/AbstractStringBuilder;"⟩ : MethodName) = true := plainFor_of_name (by first | (simp [plainName, overriddenIn]; done) | decide +kernel)
theorem ef_asbApp (m : MethodId) (x0 : Addr) (x1 : Addr) : entryFrame m #[(.ref x0), (.ref x1)] 3 = mkF m 0 #[vR x0, vR x1, .unset] [] := by first | (simp [entryFrame, mkF, argsToLocals, Value.category]; done) | rfl
def Q_asbApp (Z : State) (ta va x tb : Addr) (cap : Nat) (cs ds : List Int32) (h0 : Heap) (n0 : Nat) (v : Option Value) (h : Heap) (L : List Loc) : Prop := ∃ va2 cap2, v = some (.ref ta) ∧ Fr n0 L ∧ Keep h0 h [ta, va] ∧ (va2 = va ∨ h0.size ≤ va2) ∧ Sc Z h ta va2 cap2 (cs ++ ds)
set_option maxRecDepth 65536 in
set_option maxHeartbeats 40000000 in
theorem rm_asbApp (l : Launch) (Z : State) (a0 : Array Value) (hw : ∀ d ∈ tables_1, d.before a0 Z = true) (ws : List Jvm.Cond) (ta va x tb : Addr) (cap : Nat) (cs ds : List Int32) (h0 : Heap) (n0 : Nat) (Z0 : n0 ≤ h0.size) (B : Sc Z h0 ta va cap cs) (S : Lt Z h0 x tb ds) (hthis : n0 ≤ ta) (hva : n0 ≤ va) (hfit : cs.length + ds.length ≤ 20) (CS : Cmp Z h0) :
    MetFree l mN35 (head1 (Jvm.Cond.code mN35 jdk_68_method_22_code 3 (some (.object "java/lang/AbstractStringBuilder")) :: ws) rO25) (fun a U => a = #[(.ref ta), (.ref x)] ∧ Z.Warmed39 U.vm ∧ U.heap = h0) (fun _ _ _ _ _ => True) (fun _ U o U' => ∃ v L, o = .returned v ∧ Q_asbApp Z ta va x tb cap cs ds h0 n0 v U'.heap L ∧ FrameEnd U o U' L rO25.cells rO25.slots) := by
  refine MetFree.of_bodySF pn_asbApp hisR ?_
  intro p e s m args below meth c s₁ Bd hml0 hP hK
  obtain ⟨rfl, hZ, hh⟩ := hP
  have hx := Bd.exec
  have hby := Bd.bytes
  have dq := @hb _ _ hby
  have hml : c.maxLocals = 3 := hml0
  have hown : s.vm.findClass "java/lang/AbstractStringBuilder" = some m.cls := findClass_of_methodNamed Bd.named
  have X0 : Stand p l e rO25 s m #[(.ref ta), (.ref x)] below meth c s₁ [] 0 0 := Stand.of_body Bd
  have e0 : s₁.heap = h0 := by rw [← hh, Bd.state]; rfl
  have N0 := Fr.nil n0
  show Rch p e below s₁ _ _
  refine Rch.cast (ef_asbApp m ta x) ?_
  show Rch p e below s₁ (mkF m 0 #[vR ta, vR x, .unset] []) _
  refine R1 (XS.aloadN X0.here hx rfl (dq (dg dap 0 rfl)) rfl rfl) ?_
  refine R1 (XT.ifnonnullYes X0.here hx rfl (pc0 := 1) (pc' := 9) rfl (dq (dg dap 1 rfl)) rfl (by decide) (by decide)) ?_
  refine R1 (XS.aloadN X0.here hx rfl (dq (dg dap 2 rfl)) rfl rfl) ?_
  show Rch p e below s₁ (mkF m 10 #[vR ta, vR x, .unset] [(.ref x)]) _
  obtain ⟨cq171, kq171, q171a, q171b, q171c⟩ := isOf hZ e0 S.1
  obtain ⟨_, _, ⟨T171, L171, k171, n171⟩, -, X171, ⟨Lc171, hQ171, l171, y171, z171⟩, st171⟩ := X0.virtualBack hx (y := mN31) (z := mN31) hown (mw hZ hw 171 rfl) (mw hZ hw 35 rfl) (notFace_of_selects (args := #[]) (mw hZ hw 37 rfl)) (mw hZ hw 37 rfl) (mw hZ hw 36 rfl) (by decide) (backOf (W := 0) (rm_slen l Z a0 hw [] x tb ds h0 n0 Z0 S CS) hZ (wq hw 38 rfl) (wq hw 7 rfl) (by decide) (by decide)) q171a q171c (g := (mkF m 10 #[vR ta, vR x, .unset] [(.ref x)])) rfl (by rw [hml]; rfl) (Steps.refl _) (argsL := []) (rest := []) (lenOf pd_17 rfl) rfl (w0 rfl) (dq (dg dap 3 rfl)) (fun _ _ => ⟨rfl, e0, (by decide : 0 + 0 ≤ _), (by decide : 0 + 0 ≤ _)⟩)
  dsimp only [Pt.U, Pt.locs, Pt.cells, Pt.slots] at X171 l171 y171 z171 st171 hQ171
  subst l171 y171 z171
  obtain ⟨rfl, Nq171, e171⟩ := hQ171
  have N171 := Fr.app N0 Nq171
  refine R2 st171 ?_
  show Rch p e below T171 (mkF m 13 #[vR ta, vR x, .unset] [(.int (Int32.ofNat ds.length))]) _
  refine R1 (XS.istoreN X171.here hx rfl (dq (dg dap 4 rfl)) rfl (l' := #[vR ta, vR x, vI (Int32.ofNat ds.length)]) rfl) ?_
  refine R1 (XS.aloadN X171.here hx rfl (dq (dg dap 5 rfl)) rfl rfl) ?_
  refine R1 (XS.aloadN X171.here hx rfl (dq (dg dap 6 rfl)) rfl rfl) ?_
  show Rch p e below T171 (mkF m 16 #[vR ta, vR x, vI (Int32.ofNat ds.length)] [(.ref ta), (.ref ta)]) _
  obtain ⟨T172, X172, e172, st172⟩ := getF X171 hx hZ hown (host := "") (Or.inl (wq hw 70 rfl)) Via.refl e171 B.1.2.2.2 (g := (mkF m 16 #[vR ta, vR x, vI (Int32.ofNat ds.length)] [(.ref ta), (.ref ta)])) rfl rfl (dq (dg dap 7 rfl))
  refine R0_ st172 ?_
  show Rch p e below T172 (mkF m 19 #[vR ta, vR x, vI (Int32.ofNat ds.length)] [(.int (Int32.ofNat cs.length)), (.ref ta)]) _
  refine R1 (XS.iloadN X172.here hx rfl (dq (dg dap 8 rfl)) rfl) ?_
  refine R1 (XS.iadd X172.here hx rfl (dq (dg dap 9 rfl)) rfl) ?_
  show Rch p e below T172 (mkF m 21 #[vR ta, vR x, vI (Int32.ofNat ds.length)] [(.int ((Int32.ofNat cs.length) + (Int32.ofNat ds.length))), (.ref ta)]) _
  rw [ofN_add]
  show Rch p e below T172 (mkF m 21 #[vR ta, vR x, vI (Int32.ofNat ds.length)] [(.int (Int32.ofNat (cs.length + ds.length))), (.ref ta)]) _
  obtain ⟨ce173, q173, q173'⟩ := ((Ins.self B.1.1)).cell
  obtain ⟨_, _, ⟨T173, L173, k173, n173⟩, -, X173, ⟨Lc173, hQ173, l173, y173, z173⟩, st173⟩ := X172.privateBack hx (y := mN23) hown (mw hZ hw 72 rfl) (mw hZ hw 73 rfl) (selSelf (mw hZ hw 75 rfl) (mw hZ hw 73 rfl) (Cond.privateMethod_at (mvP hZ (wq hw 74 rfl) (args := #[]))) (by decide)) (Cond.privateMethod_at (mvP hZ (wq hw 74 rfl) (args := #[]))) (mw hZ hw 76 rfl) (by decide) (backOf (W := 0) (rm_ensN l Z a0 hw [] ta va cap (cs.length + ds.length) cs h0 n0 Z0 hthis B hfit) hZ (wq hw 76 rfl) (wq hw 52 rfl) (by decide) (by decide)) (g := (mkF m 21 #[vR ta, vR x, vI (Int32.ofNat ds.length)] [(.int (Int32.ofNat (cs.length + ds.length))), (.ref ta)])) rfl (by rw [hml]; rfl) (Steps.refl _) (a := ta) (by rw [e172]; exact q173) q173' (argsL := [(.int (Int32.ofNat (cs.length + ds.length)))]) (rest := []) (lenOf pd_16 rfl) rfl (w0 rfl) (dq (dg dap 10 rfl)) (fun _ _ => ⟨rfl, e172, (by decide : 0 + 1 ≤ _), (by decide : 0 + 40 ≤ _)⟩)
  dsimp only [Pt.U, Pt.locs, Pt.cells, Pt.slots] at X173 l173 y173 z173 st173 hQ173
  subst l173 y173 z173
  obtain ⟨va2, cap2, rfl, Nq173, K173, hor, B2, hc2⟩ := hQ173
  have N173 := Fr.app N171 Nq173
  have KK174 : Keep h0 T173.heap [ta, va] := (Keep.refl _ _).trans K173 (allS (Or.inl (by simp)) all0)
  refine R2 st173 ?_
  show Rch p e below T173 (mkF m 24 #[vR ta, vR x, vI (Int32.ofNat ds.length)] []) _
  refine R1 (XS.aloadN X173.here hx rfl (dq (dg dap 11 rfl)) rfl rfl) ?_
  refine R1 (XS.aloadN X173.here hx rfl (dq (dg dap 12 rfl)) rfl rfl) ?_
  show Rch p e below T173 (mkF m 26 #[vR ta, vR x, vI (Int32.ofNat ds.length)] [(.ref ta), (.ref ta)]) _
  have S2 := lt_keepB hw S K173 B.1.1
  have CS2 := Cmp.keep1 CS K173 (exa_ns B.1.1)
  have z0 : h0.size ≤ T173.heap.size := KK174.1
  have hv2 : n0 ≤ va2 := le_or (k := 0) hor hva Z0
  have hin : va2 ∈ [ta, va] ∨ h0.size ≤ va2 := hor.elim (fun q => Or.inl (by rw [q]; simp)) Or.inr
  obtain ⟨T175, X175, e175, st175⟩ := getF X173 hx hZ hown (host := "") (Or.inl (wq hw 70 rfl)) Via.refl rfl B2.1.2.2.2 (g := (mkF m 26 #[vR ta, vR x, vI (Int32.ofNat ds.length)] [(.ref ta), (.ref ta)])) rfl rfl (dq (dg dap 13 rfl))
  refine R0_ st175 ?_
  show Rch p e below T175 (mkF m 29 #[vR ta, vR x, vI (Int32.ofNat ds.length)] [(.int (Int32.ofNat cs.length)), (.ref ta)]) _
  refine R1 (XS.aloadN X175.here hx rfl (dq (dg dap 14 rfl)) rfl rfl) ?_
  show Rch p e below T175 (mkF m 30 #[vR ta, vR x, vI (Int32.ofNat ds.length)] [(.ref x), (.int (Int32.ofNat cs.length)), (.ref ta)]) _
  obtain ⟨ce176, q176, q176'⟩ := ((Ins.self B2.1.1)).cell
  obtain ⟨_, _, ⟨T176, L176, k176, n176⟩, -, X176, ⟨Lc176, hQ176, l176, y176, z176⟩, st176⟩ := X175.privateBack hx (y := mN34) hown (mw hZ hw 172 rfl) (mw hZ hw 173 rfl) (selSelf (mw hZ hw 175 rfl) (mw hZ hw 173 rfl) (Cond.privateMethod_at (mvP hZ (wq hw 174 rfl) (args := #[]))) (by decide)) (Cond.privateMethod_at (mvP hZ (wq hw 174 rfl) (args := #[]))) (mw hZ hw 176 rfl) (by decide) (backOf (W := 0) (rm_psa l Z a0 hw [] ta va2 x tb cap2 cs ds T173.heap n0 (Nat.le_trans Z0 z0) B2 S2 hv2 hc2 CS2) hZ (wq hw 176 rfl) (wq hw 52 rfl) (by decide) (by decide)) (g := (mkF m 30 #[vR ta, vR x, vI (Int32.ofNat ds.length)] [(.ref x), (.int (Int32.ofNat cs.length)), (.ref ta)])) rfl (by rw [hml]; rfl) (Steps.refl _) (a := ta) (by rw [e175]; exact q176) q176' (argsL := [(.int (Int32.ofNat cs.length)), (.ref x)]) (rest := []) (lenOf pd_21 rfl) rfl (w0 rfl) (dq (dg dap 15 rfl)) (fun _ _ => ⟨rfl, e175, (by decide : 1 + 0 ≤ _), (by decide : 40 + 0 ≤ _)⟩)
  dsimp only [Pt.U, Pt.locs, Pt.cells, Pt.slots] at X176 l176 y176 z176 st176 hQ176
  subst l176 y176 z176
  obtain ⟨rfl, Nq176, K176, V176⟩ := hQ176
  have N176 := Fr.app N173 Nq176
  refine R2 st176 ?_
  show Rch p e below T176 (mkF m 33 #[vR ta, vR x, vI (Int32.ofNat ds.length)] []) _
  have KK176 : Keep h0 T176.heap [ta, va] := KK174.trans K176 (allS hin all0)
  refine R1 (XS.aloadN X176.here hx rfl (dq (dg dap 16 rfl)) rfl rfl) ?_
  refine R1 (XS.dup X176.here hx rfl (dq (dg dap 17 rfl)) rfl rfl) ?_
  show Rch p e below T176 (mkF m 35 #[vR ta, vR x, vI (Int32.ofNat ds.length)] [(.ref ta), (.ref ta)]) _
  have G2 := B2.1.keep K176 (ninS B2.ne nin0)
  obtain ⟨T177, X177, e177, st177⟩ := getF X176 hx hZ hown (host := "") (Or.inl (wq hw 70 rfl)) Via.refl rfl G2.2.2.2 (g := (mkF m 35 #[vR ta, vR x, vI (Int32.ofNat ds.length)] [(.ref ta), (.ref ta)])) rfl rfl (dq (dg dap 18 rfl))
  refine R0_ st177 ?_
  show Rch p e below T177 (mkF m 38 #[vR ta, vR x, vI (Int32.ofNat ds.length)] [(.int (Int32.ofNat cs.length)), (.ref ta)]) _
  refine R1 (XS.iloadN X177.here hx rfl (dq (dg dap 19 rfl)) rfl) ?_
  refine R1 (XS.iadd X177.here hx rfl (dq (dg dap 20 rfl)) rfl) ?_
  show Rch p e below T177 (mkF m 40 #[vR ta, vR x, vI (Int32.ofNat ds.length)] [(.int ((Int32.ofNat cs.length) + (Int32.ofNat ds.length))), (.ref ta)]) _
  rw [ofN_add]
  show Rch p e below T177 (mkF m 40 #[vR ta, vR x, vI (Int32.ofNat ds.length)] [(.int (Int32.ofNat (cs.length + ds.length))), (.ref ta)]) _
  obtain ⟨T178, h178, X178, e178, W178, st178⟩ := putF X177 hx hZ hown (host := "") (Or.inl (wq hw 70 rfl)) Via.refl e177 G2.2.2.2 G2.1 (Or.inl (wq hw 71 rfl)) (wq hw 32 rfl) (ty := .int) (by decide) rfl rfl (g := (mkF m 40 #[vR ta, vR x, vI (Int32.ofNat ds.length)] [(.int (Int32.ofNat (cs.length + ds.length))), (.ref ta)])) rfl rfl (dq (dg dap 21 rfl))
  have KK179 : Keep h0 h178 [ta, va] := KK176.wr W178 (Or.inl (by simp))
  have N178 := Fr.snoc X178 N176 hthis
  refine R0_ st178 ?_
  show Rch p e below T178 (mkF m 43 #[vR ta, vR x, vI (Int32.ofNat ds.length)] []) _
  refine R1 (XS.aloadN X178.here hx rfl (dq (dg dap 22 rfl)) rfl rfl) ?_
  show Rch p e below T178 (mkF m 44 #[vR ta, vR x, vI (Int32.ofNat ds.length)] [(.ref ta)]) _
  have la : cs.length + ds.length = (cs ++ ds).length := by simp
  rw [la] at W178
  exact Rch.fin (Q := Q_asbApp Z ta va x tb cap cs ds h0 n0) X178 (v := some (.ref ta)) (fun h => by rw [Bd.returns] at h; cases h) (BodyLoose.notSynchronized Bd) (fun fs hr => retR X178 hx Bd.returns rfl rfl (dq (dg dap 23 rfl)) hr) (by rw [e178]; exact ⟨va2, cap2, rfl, N178, KK179, hor, sf_wrN hw G2 W178, V176.other W178 (Ne.symm B2.ne), by omega, B2.2.2.2⟩) (by decide) (by decide)
theorem dbp : dxs jdk_67_method_7_code [(0, .aload_n 0, 1), (1, .aload_n 1, 1), (2, .invokespecial 29, 3), (5, .pop, 1), (6, .aload_n 0, 1), (7, .areturn, 1)] = true := by decide +kernel
theorem pn_sbApp : plainFor (⟨"java/lang/StringBuilder", "append", "(Ljava/lang/String;)Ljava/lang/StringBuilder;"⟩ : MethodName) = true := plainFor_of_name (by first | (simp [plainName, overriddenIn]; done) | decide +kernel)
def Q_sbApp (Z : State) (ta va x tb : Addr) (cap : Nat) (cs ds : List Int32) (h0 : Heap) (n0 : Nat) (v : Option Value) (h : Heap) (L : List Loc) : Prop := ∃ va2 cap2, v = some (.ref ta) ∧ Fr n0 L ∧ Keep h0 h [ta, va] ∧ (va2 = va ∨ h0.size ≤ va2) ∧ Sc Z h ta va2 cap2 (cs ++ ds)
set_option maxRecDepth 65536 in
set_option maxHeartbeats 40000000 in
theorem rm_sbApp (l : Launch) (Z : State) (a0 : Array Value) (hw : ∀ d ∈ tables_1, d.before a0 Z = true) (ws : List Jvm.Cond) (ta va x tb : Addr) (cap : Nat) (cs ds : List Int32) (h0 : Heap) (n0 : Nat) (Z0 : n0 ≤ h0.size) (B : Sc Z h0 ta va cap cs) (S : Lt Z h0 x tb ds) (hthis : n0 ≤ ta) (hva : n0 ≤ va) (hfit : cs.length + ds.length ≤ 20) (CS : Cmp Z h0) :
    MetFree l mN36 (head1 (Jvm.Cond.code mN36 jdk_67_method_7_code 2 (some (.object "java/lang/StringBuilder")) :: ws) rO26) (fun a U => a = #[(.ref ta), (.ref x)] ∧ Z.Warmed39 U.vm ∧ U.heap = h0) (fun _ _ _ _ _ => True) (fun _ U o U' => ∃ v L, o = .returned v ∧ Q_sbApp Z ta va x tb cap cs ds h0 n0 v U'.heap L ∧ FrameEnd U o U' L rO26.cells rO26.slots) := by
  refine MetFree.of_bodySF pn_sbApp hisR ?_
  intro p e s m args below meth c s₁ Bd hml0 hP hK
  obtain ⟨rfl, hZ, hh⟩ := hP
  have hx := Bd.exec
  have hby := Bd.bytes
  have dq := @hb _ _ hby
  have hml : c.maxLocals = 2 := hml0
  have hown : s.vm.findClass "java/lang/StringBuilder" = some m.cls := findClass_of_methodNamed Bd.named
  have X0 : Stand p l e rO26 s m #[(.ref ta), (.ref x)] below meth c s₁ [] 0 0 := Stand.of_body Bd
  have e0 : s₁.heap = h0 := by rw [← hh, Bd.state]; rfl
  have N0 := Fr.nil n0
  show Rch p e below s₁ _ _
  refine Rch.cast (ef_new1e m ta x) ?_
  show Rch p e below s₁ (mkF m 0 #[vR ta, vR x] []) _
  refine R1 (XS.aloadN X0.here hx rfl (dq (dg dbp 0 rfl)) rfl rfl) ?_
  refine R1 (XS.aloadN X0.here hx rfl (dq (dg dbp 1 rfl)) rfl rfl) ?_
  show Rch p e below s₁ (mkF m 2 #[vR ta, vR x] [(.ref x), (.ref ta)]) _
  obtain ⟨_, _, ⟨T180, L180, k180, n180⟩, -, X180, ⟨Lc180, hQ180, l180, y180, z180⟩, st180⟩ := superBack X0 hx hZ (y := mN35) hown (wq hw 167 rfl) (same_of (wq hw 168 rfl) (wq hw 80 rfl) rfl (by decide)) (wq hw 168 rfl) (wq hw 67 rfl) (by decide) (backOf (W := 0) (rm_asbApp l Z a0 hw [] ta va x tb cap cs ds h0 n0 Z0 B S hthis hva hfit CS) hZ (wq hw 170 rfl) (wq hw 52 rfl) (by decide) (by decide)) e0 (Ins.self B.1.1) (g := (mkF m 2 #[vR ta, vR x] [(.ref x), (.ref ta)])) rfl (by rw [hml]; rfl) (wq hw 170 rfl) (argsL := [(.ref x)]) (rest := []) (lenOf pd_22 rfl) rfl (w0 rfl) (dq (dg dbp 2 rfl)) (fun _ _ => ⟨rfl, e0, (by decide : 0 + 1 ≤ _), (by decide : 0 + 40 ≤ _)⟩)
  dsimp only [Pt.U, Pt.locs, Pt.cells, Pt.slots] at X180 l180 y180 z180 st180 hQ180
  subst l180 y180 z180
  obtain ⟨va2, cap2, rfl, Nq180, K180, hor, B180⟩ := hQ180
  have N180 := Fr.app N0 Nq180
  have KK181 : Keep h0 T180.heap [ta, va] := (Keep.refl _ _).trans K180 (allS (Or.inl (by simp)) (allS (Or.inl (by simp)) all0))
  refine R2 st180 ?_
  show Rch p e below T180 (mkF m 5 #[vR ta, vR x] [(.ref ta)]) _
  refine R1 (XT.pop X180.here hx rfl (dq (dg dbp 3 rfl)) rfl rfl) ?_
  refine R1 (XS.aloadN X180.here hx rfl (dq (dg dbp 4 rfl)) rfl rfl) ?_
  show Rch p e below T180 (mkF m 7 #[vR ta, vR x] [(.ref ta)]) _
  exact Rch.fin (Q := Q_sbApp Z ta va x tb cap cs ds h0 n0) X180 (v := some (.ref ta)) (fun h => by rw [Bd.returns] at h; cases h) (BodyLoose.notSynchronized Bd) (fun fs hr => retR X180 hx Bd.returns rfl rfl (dq (dg dbp 5 rfl)) hr) ⟨va2, cap2, rfl, N180, KK181, hor, B180⟩ (by decide) (by decide)
theorem dcc : dxs jdk_68_method_31_code [(0, .aload_n 0, 1), (1, .aload_n 0, 1), (2, .getfield 79, 3), (5, .iconst 1, 1), (6, .iadd, 1), (7, .invokevirtual 100, 3), (10, .aload_n 0, 1), (11, .invokevirtual 83, 3), (14, .ifCond .eq 31, 3), (17, .iload_n 1, 1), (18, .invokestatic 191, 3), (21, .ifCond .eq 24, 3), (24, .aload_n 0, 1), (25, .getfield 15, 3), (28, .aload_n 0, 1), (29, .dup, 1), (30, .getfield 79, 3), (33, .dup_x1, 1), (34, .iconst 1, 1), (35, .iadd, 1), (36, .putfield 79, 3), (39, .iload_n 1, 1), (40, .i2b, 1), (41, .bastore, 1), (42, .goto 33, 3), (75, .aload_n 0, 1), (76, .areturn, 1)] = true := by decide +kernel
theorem pn_asbAppC : plainFor (⟨"java/lang/AbstractStringBuilder", "append", "(C)Ljava/lang/AbstractStringBuilder;"⟩ : MethodName) = true := plainFor_of_name (by first | (simp [plainName, overriddenIn]; done) | decide +kernel)
def Q_asbAppC (Z : State) (ta va : Addr) (cap : Nat) (cs : List Int32) (ch : Int32) (h0 : Heap) (n0 : Nat) (v : Option Value) (h : Heap) (L : List Loc) : Prop := ∃ va2 cap2, v = some (.ref ta) ∧ Fr n0 L ∧ Keep h0 h [ta, va] ∧ (va2 = va ∨ h0.size ≤ va2) ∧ Sc Z h ta va2 cap2 (cs ++ [ch])
set_option maxRecDepth 65536 in
set_option maxHeartbeats 40000000 in
theorem rm_asbAppC (l : Launch) (Z : State) (a0 : Array Value) (hw : ∀ d ∈ tables_1, d.before a0 Z = true) (ws : List Jvm.Cond) (ta va : Addr) (cap : Nat) (cs : List Int32) (ch : Int32) (h0 : Heap) (n0 : Nat) (Z0 : n0 ≤ h0.size) (B : Sc Z h0 ta va cap cs) (hthis : n0 ≤ ta) (hva : n0 ≤ va) (hfit : cs.length + 1 ≤ 20) (hch : ¬ (255 : Int32) < ch) (CS : Cmp Z h0) :
    MetFree l mN37 (head1 (Jvm.Cond.code mN37 jdk_68_method_31_code 2 (some (.object "java/lang/AbstractStringBuilder")) :: ws) rO25) (fun a U => a = #[(.ref ta), (.int ch)] ∧ Z.Warmed39 U.vm ∧ U.heap = h0) (fun _ _ _ _ _ => True) (fun _ U o U' => ∃ v L, o = .returned v ∧ Q_asbAppC Z ta va cap cs ch h0 n0 v U'.heap L ∧ FrameEnd U o U' L rO25.cells rO25.slots) := by
  refine MetFree.of_bodySF pn_asbAppC hisR ?_
  intro p e s m args below meth c s₁ Bd hml0 hP hK
  obtain ⟨rfl, hZ, hh⟩ := hP
  have hx := Bd.exec
  have hby := Bd.bytes
  have dq := @hb _ _ hby
  have hml : c.maxLocals = 2 := hml0
  have hown : s.vm.findClass "java/lang/AbstractStringBuilder" = some m.cls := findClass_of_methodNamed Bd.named
  have X0 : Stand p l e rO25 s m #[(.ref ta), (.int ch)] below meth c s₁ [] 0 0 := Stand.of_body Bd
  have e0 : s₁.heap = h0 := by rw [← hh, Bd.state]; rfl
  have N0 := Fr.nil n0
  show Rch p e below s₁ _ _
  refine Rch.cast (ef_getc m ta ch) ?_
  show Rch p e below s₁ (mkF m 0 #[vR ta, vI ch] []) _
  refine R1 (XS.aloadN X0.here hx rfl (dq (dg dcc 0 rfl)) rfl rfl) ?_
  refine R1 (XS.aloadN X0.here hx rfl (dq (dg dcc 1 rfl)) rfl rfl) ?_
  show Rch p e below s₁ (mkF m 2 #[vR ta, vI ch] [(.ref ta), (.ref ta)]) _
  obtain ⟨T182, X182, e182, st182⟩ := getF X0 hx hZ hown (host := "") (Or.inl (wq hw 70 rfl)) Via.refl e0 B.1.2.2.2 (g := (mkF m 2 #[vR ta, vI ch] [(.ref ta), (.ref ta)])) rfl rfl (dq (dg dcc 2 rfl))
  refine R0_ st182 ?_
  show Rch p e below T182 (mkF m 5 #[vR ta, vI ch] [(.int (Int32.ofNat cs.length)), (.ref ta)]) _
  refine R1 (XS.iconst X182.here hx rfl (dq (dg dcc 3 rfl)) ) ?_
  refine R1 (XS.iadd X182.here hx rfl (dq (dg dcc 4 rfl)) rfl) ?_
  show Rch p e below T182 (mkF m 7 #[vR ta, vI ch] [(.int ((Int32.ofNat cs.length) + (1 : Int32))), (.ref ta)]) _
  rw [add1n]
  show Rch p e below T182 (mkF m 7 #[vR ta, vI ch] [(.int (Int32.ofNat (cs.length + 1))), (.ref ta)]) _
  obtain ⟨ce183, q183, q183'⟩ := ((Ins.self B.1.1)).cell
  obtain ⟨_, _, ⟨T183, L183, k183, n183⟩, -, X183, ⟨Lc183, hQ183, l183, y183, z183⟩, st183⟩ := X182.privateBack hx (y := mN23) hown (mw hZ hw 72 rfl) (mw hZ hw 73 rfl) (selSelf (mw hZ hw 75 rfl) (mw hZ hw 73 rfl) (Cond.privateMethod_at (mvP hZ (wq hw 74 rfl) (args := #[]))) (by decide)) (Cond.privateMethod_at (mvP hZ (wq hw 74 rfl) (args := #[]))) (mw hZ hw 76 rfl) (by decide) (backOf (W := 0) (rm_ensN l Z a0 hw [] ta va cap (cs.length + 1) cs h0 n0 Z0 hthis B hfit) hZ (wq hw 76 rfl) (wq hw 52 rfl) (by decide) (by decide)) (g := (mkF m 7 #[vR ta, vI ch] [(.int (Int32.ofNat (cs.length + 1))), (.ref ta)])) rfl (by rw [hml]; rfl) (Steps.refl _) (a := ta) (by rw [e182]; exact q183) q183' (argsL := [(.int (Int32.ofNat (cs.length + 1)))]) (rest := []) (lenOf pd_16 rfl) rfl (w0 rfl) (dq (dg dcc 5 rfl)) (fun _ _ => ⟨rfl, e182, (by decide : 0 + 1 ≤ _), (by decide : 0 + 40 ≤ _)⟩)
  dsimp only [Pt.U, Pt.locs, Pt.cells, Pt.slots] at X183 l183 y183 z183 st183 hQ183
  subst l183 y183 z183
  obtain ⟨va2, cap2, rfl, Nq183, K183, hor, B2, hc2⟩ := hQ183
  have N183 := Fr.app N0 Nq183
  have KK184 : Keep h0 T183.heap [ta, va] := (Keep.refl _ _).trans K183 (allS (Or.inl (by simp)) all0)
  refine R2 st183 ?_
  show Rch p e below T183 (mkF m 10 #[vR ta, vI ch] []) _
  refine R1 (XS.aloadN X183.here hx rfl (dq (dg dcc 6 rfl)) rfl rfl) ?_
  show Rch p e below T183 (mkF m 11 #[vR ta, vI ch] [(.ref ta)]) _
  have CS2 := Cmp.keep1 CS K183 (exa_ns B.1.1)
  have z0 : h0.size ≤ T183.heap.size := KK184.1
  have hv2 : n0 ≤ va2 := le_or (k := 0) hor hva Z0
  have hin : va2 ∈ [ta, va] ∨ h0.size ≤ va2 := hor.elim (fun q => Or.inl (by rw [q]; simp)) Or.inr
  obtain ⟨cq185, kq185, q185a, q185b, q185c⟩ := isOf hZ rfl B2.1.1
  obtain ⟨_, _, ⟨T185, L185, k185, n185⟩, -, X185, ⟨Lc185, hQ185, l185, y185, z185⟩, st185⟩ := X183.virtualBack hx (y := mN26) (z := mN26) hown (mw hZ hw 77 rfl) (mw hZ hw 78 rfl) (notFace_of_selects (args := #[]) (mw hZ hw 80 rfl)) (mw hZ hw 80 rfl) (mw hZ hw 79 rfl) (by decide) (backOf (W := 0) (rm_islB l Z a0 hw [] ta va2 cap2 cs T183.heap n0 (Nat.le_trans Z0 z0) B2 CS2) hZ (wq hw 81 rfl) (wq hw 52 rfl) (by decide) (by decide)) q185a q185c (g := (mkF m 11 #[vR ta, vI ch] [(.ref ta)])) rfl (by rw [hml]; rfl) (Steps.refl _) (argsL := []) (rest := []) (lenOf pd_5 rfl) rfl (w0 rfl) (dq (dg dcc 7 rfl)) (fun _ _ => ⟨rfl, rfl, (by decide : 1 + 0 ≤ _), (by decide : 40 + 0 ≤ _)⟩)
  dsimp only [Pt.U, Pt.locs, Pt.cells, Pt.slots] at X185 l185 y185 z185 st185 hQ185
  subst l185 y185 z185
  obtain ⟨rfl, Nq185, e185⟩ := hQ185
  have N185 := Fr.app N183 Nq185
  refine R2 st185 ?_
  show Rch p e below T185 (mkF m 14 #[vR ta, vI ch] [(.int (1 : Int32))]) _
  refine R1 (XS.ifNo X185.here hx rfl (dq (dg dcc 8 rfl)) rfl (by decide : ifCond.holds .eq (1 : Int32) = false)) ?_
  refine R1 (XS.iloadN X185.here hx rfl (dq (dg dcc 9 rfl)) rfl) ?_
  show Rch p e below T185 (mkF m 18 #[vR ta, vI ch] [(.int ch)]) _
  obtain ⟨_, _, ⟨T186, L186, k186, n186⟩, -, X186, ⟨Lc186, hQ186, l186, y186, z186⟩, st186⟩ := Jvm.LawKit.callS X185 hx (y := mN17) hown (mw hZ hw 82 rfl) (mw hZ hw 83 rfl) (mw hZ hw 84 rfl) (mw hZ hw 85 rfl) (by decide) (backOf (W := 0) (rm_canEnc l Z a0 hw [] ch T183.heap n0 (Nat.le_trans Z0 z0) hch) hZ (wq hw 85 rfl) (wq hw 84 rfl) (by decide) (by decide)) (g := (mkF m 18 #[vR ta, vI ch] [(.int ch)])) rfl (by rw [hml]; rfl) (argsL := [(.int ch)]) (rest := []) (lenOf pd_23 rfl) rfl (w0 rfl) (dq (dg dcc 10 rfl)) (fun _ _ => ⟨rfl, e185, (by decide : 1 + 0 ≤ _), (by decide : 40 + 0 ≤ _)⟩)
  dsimp only [Pt.U, Pt.locs, Pt.cells, Pt.slots] at X186 l186 y186 z186 st186 hQ186
  subst l186 y186 z186
  obtain ⟨rfl, Nq186, e186⟩ := hQ186
  have N186 := Fr.app N185 Nq186
  refine R0_ st186 ?_
  show Rch p e below T186 (mkF m 21 #[vR ta, vI ch] [(.int (1 : Int32))]) _
  refine R1 (XS.ifNo X186.here hx rfl (dq (dg dcc 11 rfl)) rfl (by decide : ifCond.holds .eq (1 : Int32) = false)) ?_
  refine R1 (XS.aloadN X186.here hx rfl (dq (dg dcc 12 rfl)) rfl rfl) ?_
  show Rch p e below T186 (mkF m 25 #[vR ta, vI ch] [(.ref ta)]) _
  obtain ⟨T187, X187, e187, st187⟩ := getF X186 hx hZ hown (host := "") (Or.inl (wq hw 56 rfl)) Via.refl e186 B2.1.2.1 (g := (mkF m 25 #[vR ta, vI ch] [(.ref ta)])) rfl rfl (dq (dg dcc 13 rfl))
  refine R0_ st187 ?_
  show Rch p e below T187 (mkF m 28 #[vR ta, vI ch] [(.ref va2)]) _
  refine R1 (XS.aloadN X187.here hx rfl (dq (dg dcc 14 rfl)) rfl rfl) ?_
  refine R1 (XS.dup X187.here hx rfl (dq (dg dcc 15 rfl)) rfl rfl) ?_
  show Rch p e below T187 (mkF m 30 #[vR ta, vI ch] [(.ref ta), (.ref ta), (.ref va2)]) _
  obtain ⟨T188, X188, e188, st188⟩ := getF X187 hx hZ hown (host := "") (Or.inl (wq hw 70 rfl)) Via.refl e187 B2.1.2.2.2 (g := (mkF m 30 #[vR ta, vI ch] [(.ref ta), (.ref ta), (.ref va2)])) rfl rfl (dq (dg dcc 16 rfl))
  refine R0_ st188 ?_
  show Rch p e below T188 (mkF m 33 #[vR ta, vI ch] [(.int (Int32.ofNat cs.length)), (.ref ta), (.ref va2)]) _
  refine R1 (XT.dupX1 X188.here hx rfl (dq (dg dcc 17 rfl)) rfl rfl rfl) ?_
  refine R1 (XS.iconst X188.here hx rfl (dq (dg dcc 18 rfl)) ) ?_
  refine R1 (XS.iadd X188.here hx rfl (dq (dg dcc 19 rfl)) rfl) ?_
  show Rch p e below T188 (mkF m 36 #[vR ta, vI ch] [(.int ((Int32.ofNat cs.length) + (1 : Int32))), (.ref ta), (.int (Int32.ofNat cs.length)), (.ref va2)]) _
  rw [add1n]
  show Rch p e below T188 (mkF m 36 #[vR ta, vI ch] [(.int (Int32.ofNat (cs.length + 1))), (.ref ta), (.int (Int32.ofNat cs.length)), (.ref va2)]) _
  obtain ⟨T189, h189, X189, e189, W189, st189⟩ := putF X188 hx hZ hown (host := "") (Or.inl (wq hw 70 rfl)) Via.refl e188 B2.1.2.2.2 B2.1.1 (Or.inl (wq hw 71 rfl)) (wq hw 32 rfl) (ty := .int) (by decide) rfl rfl (g := (mkF m 36 #[vR ta, vI ch] [(.int (Int32.ofNat (cs.length + 1))), (.ref ta), (.int (Int32.ofNat cs.length)), (.ref va2)])) rfl rfl (dq (dg dcc 20 rfl))
  have KK190 : Keep h0 h189 [ta, va] := KK184.wr W189 (Or.inl (by simp))
  have N189 := Fr.snoc X189 N186 hthis
  refine R0_ st189 ?_
  show Rch p e below T189 (mkF m 39 #[vR ta, vI ch] [(.int (Int32.ofNat cs.length)), (.ref va2)]) _
  have G2 := sf_wrN hw B2.1 W189
  have V2 := B2.2.1.other W189 (Ne.symm B2.ne)
  refine R1 (XS.iloadN X189.here hx rfl (dq (dg dcc 21 rfl)) rfl) ?_
  refine R1 (XT.i2b X189.here hx rfl (dq (dg dcc 22 rfl)) rfl) ?_
  show Rch p e below T189 (mkF m 41 #[vR ta, vI ch] [(.int (ch.toInt8.toInt32)), (.int (Int32.ofNat cs.length)), (.ref va2)]) _
  obtain ⟨EV, kv, VA⟩ := id V2
  have hcp2 := B2.2.2.2
  have l1 : (byt cs).length = cs.length := byt_len cs
  obtain ⟨T191, h191, L191, sl191, X191, e191, W191, V191, N191, st191⟩ := stBv X189 hx hZ e189 (VA.pad (pad_rep (byt cs) (.int 0) 1)) N189 hv2 (j := (Int32.ofNat cs.length)) ⟨ofN_neg (by omega), ofN_lt (by omega) (by omega)⟩ cs.length (ofN_clamp (by omega)) (by simp [byt_len]) (g := (mkF m 41 #[vR ta, vI ch] [(.int (ch.toInt8.toInt32)), (.int (Int32.ofNat cs.length)), (.ref va2)])) rfl rfl (dq (dg dcc 23 rfl))
  have KK191 : Keep h0 h191 [ta, va] := KK190.wr W191 hin
  refine R0_ st191 ?_
  show Rch p e below T191 (mkF m 42 #[vR ta, vI ch] []) _
  have V9 : Vc Z h191 va2 cap2 (cs ++ [ch]) := ⟨EV.wr W191, kv, by rw [nar_byte, set_last l1] at V191; rw [byt_app]; exact V191⟩
  have G3 := G2.keep (Keep.of_wr W191) (ninS B2.ne nin0)
  have la : cs.length + 1 = (cs ++ [ch]).length := by simp
  rw [la] at G3
  refine R1 (XS.goto X191.here hx rfl (pc0 := 42) (pc' := 75) rfl (dq (dg dcc 24 rfl)) (by decide) (by decide)) ?_
  refine R1 (XS.aloadN X191.here hx rfl (dq (dg dcc 25 rfl)) rfl rfl) ?_
  show Rch p e below T191 (mkF m 76 #[vR ta, vI ch] [(.ref ta)]) _
  exact Rch.fin (Q := Q_asbAppC Z ta va cap cs ch h0 n0) X191 (v := some (.ref ta)) (fun h => by rw [Bd.returns] at h; cases h) (BodyLoose.notSynchronized Bd) (fun fs hr => retR X191 hx Bd.returns rfl rfl (dq (dg dcc 26 rfl)) hr) (by rw [e191]; exact ⟨va2, cap2, rfl, N191, KK191, hor, G3, V9, by omega, B2.2.2.2⟩) (by decide) (by decide)
theorem dbc : dxs jdk_67_method_14_code [(0, .aload_n 0, 1), (1, .iload_n 1, 1), (2, .invokespecial 50, 3), (5, .pop, 1), (6, .aload_n 0, 1), (7, .areturn, 1)] = true := by decide +kernel
theorem pn_sbAppC : plainFor (⟨"java/lang/StringBuilder", "append", "(C)Ljava/lang/StringBuilder;"⟩ : MethodName) = true := plainFor_of_name (by first | (simp [plainName, overriddenIn]; done) | decide +kernel)
def Q_sbAppC (Z : State) (ta va : Addr) (cap : Nat) (cs : List Int32) (ch : Int32) (h0 : Heap) (n0 : Nat) (v : Option Value) (h : Heap) (L : List Loc) : Prop := ∃ va2 cap2, v = some (.ref ta) ∧ Fr n0 L ∧ Keep h0 h [ta, va] ∧ (va2 = va ∨ h0.size ≤ va2) ∧ Sc Z h ta va2 cap2 (cs ++ [ch])
set_option maxRecDepth 65536 in
set_option maxHeartbeats 40000000 in
theorem rm_sbAppC (l : Launch) (Z : State) (a0 : Array Value) (hw : ∀ d ∈ tables_1, d.before a0 Z = true) (ws : List Jvm.Cond) (ta va : Addr) (cap : Nat) (cs : List Int32) (ch : Int32) (h0 : Heap) (n0 : Nat) (Z0 : n0 ≤ h0.size) (B : Sc Z h0 ta va cap cs) (hthis : n0 ≤ ta) (hva : n0 ≤ va) (hfit : cs.length + 1 ≤ 20) (hch : ¬ (255 : Int32) < ch) (CS : Cmp Z h0) :
    MetFree l mN38 (head1 (Jvm.Cond.code mN38 jdk_67_method_14_code 2 (some (.object "java/lang/StringBuilder")) :: ws) rO27) (fun a U => a = #[(.ref ta), (.int ch)] ∧ Z.Warmed39 U.vm ∧ U.heap = h0) (fun _ _ _ _ _ => True) (fun _ U o U' => ∃ v L, o = .returned v ∧ Q_sbAppC Z ta va cap cs ch h0 n0 v U'.heap L ∧ FrameEnd U o U' L rO27.cells rO27.slots) := by
  refine MetFree.of_bodySF pn_sbAppC hisR ?_
  intro p e s m args below meth c s₁ Bd hml0 hP hK
  obtain ⟨rfl, hZ, hh⟩ := hP
  have hx := Bd.exec
  have hby := Bd.bytes
  have dq := @hb _ _ hby
  have hml : c.maxLocals = 2 := hml0
  have hown : s.vm.findClass "java/lang/StringBuilder" = some m.cls := findClass_of_methodNamed Bd.named
  have X0 : Stand p l e rO27 s m #[(.ref ta), (.int ch)] below meth c s₁ [] 0 0 := Stand.of_body Bd
  have e0 : s₁.heap = h0 := by rw [← hh, Bd.state]; rfl
  have N0 := Fr.nil n0
  show Rch p e below s₁ _ _
  refine Rch.cast (ef_getc m ta ch) ?_
  show Rch p e below s₁ (mkF m 0 #[vR ta, vI ch] []) _
  refine R1 (XS.aloadN X0.here hx rfl (dq (dg dbc 0 rfl)) rfl rfl) ?_
  refine R1 (XS.iloadN X0.here hx rfl (dq (dg dbc 1 rfl)) rfl) ?_
  show Rch p e below s₁ (mkF m 2 #[vR ta, vI ch] [(.int ch), (.ref ta)]) _
  obtain ⟨_, _, ⟨T192, L192, k192, n192⟩, -, X192, ⟨Lc192, hQ192, l192, y192, z192⟩, st192⟩ := superBack X0 hx hZ (y := mN37) hown (wq hw 65 rfl) (same_of (wq hw 66 rfl) (wq hw 80 rfl) rfl (by decide)) (wq hw 66 rfl) (wq hw 67 rfl) (by decide) (backOf (W := 0) (rm_asbAppC l Z a0 hw [] ta va cap cs ch h0 n0 Z0 B hthis hva hfit hch CS) hZ (wq hw 69 rfl) (wq hw 52 rfl) (by decide) (by decide)) e0 (Ins.self B.1.1) (g := (mkF m 2 #[vR ta, vI ch] [(.int ch), (.ref ta)])) rfl (by rw [hml]; rfl) (wq hw 69 rfl) (argsL := [(.int ch)]) (rest := []) (lenOf pd_24 rfl) rfl (w0 rfl) (dq (dg dbc 2 rfl)) (fun _ _ => ⟨rfl, e0, (by decide : 0 + 1 ≤ _), (by decide : 0 + 40 ≤ _)⟩)
  dsimp only [Pt.U, Pt.locs, Pt.cells, Pt.slots] at X192 l192 y192 z192 st192 hQ192
  subst l192 y192 z192
  obtain ⟨va2, cap2, rfl, Nq192, K192, hor, B192⟩ := hQ192
  have N192 := Fr.app N0 Nq192
  have KK193 : Keep h0 T192.heap [ta, va] := (Keep.refl _ _).trans K192 (allS (Or.inl (by simp)) (allS (Or.inl (by simp)) all0))
  refine R2 st192 ?_
  show Rch p e below T192 (mkF m 5 #[vR ta, vI ch] [(.ref ta)]) _
  refine R1 (XT.pop X192.here hx rfl (dq (dg dbc 3 rfl)) rfl rfl) ?_
  refine R1 (XS.aloadN X192.here hx rfl (dq (dg dbc 4 rfl)) rfl rfl) ?_
  show Rch p e below T192 (mkF m 7 #[vR ta, vI ch] [(.ref ta)]) _
  exact Rch.fin (Q := Q_sbAppC Z ta va cap cs ch h0 n0) X192 (v := some (.ref ta)) (fun h => by rw [Bd.returns] at h; cases h) (BodyLoose.notSynchronized Bd) (fun fs hr => retR X192 hx Bd.returns rfl rfl (dq (dg dbc 5 rfl)) hr) ⟨va2, cap2, rfl, N192, KK193, hor, B192⟩ (by decide) (by decide)
theorem dcl2 : dxs jdk_65_method_131_code [(0, .iload_n 1, 1), (1, .iload_n 0, 1), (2, .if_icmp .ge 35, 3), (37, .return_, 1)] = true := by decide +kernel
theorem pn_chkL : plainFor (⟨"java/util/Arrays", "checkLength", "(II)V"⟩ : MethodName) = true := plainFor_of_name (by first | (simp [plainName, overriddenIn]; done) | decide +kernel)
def Q_chkL (Z : State) (x y : Int32) (h0 : Heap) (n0 : Nat) (v : Option Value) (h : Heap) (L : List Loc) : Prop := v = none ∧ Fr n0 L ∧ h = h0
set_option maxRecDepth 65536 in
set_option maxHeartbeats 40000000 in
theorem rm_chkL (l : Launch) (Z : State) (a0 : Array Value) (hw : ∀ d ∈ tables_1, d.before a0 Z = true) (ws : List Jvm.Cond) (x y : Int32) (h0 : Heap) (n0 : Nat) (Z0 : n0 ≤ h0.size) (hxy : ¬ y < x) :
    MetFree l mN39 (head1 (Jvm.Cond.code mN39 jdk_65_method_131_code 2 none :: ws) rO0) (fun a U => a = #[(.int x), (.int y)] ∧ Z.Warmed39 U.vm ∧ U.heap = h0) (fun _ _ _ _ _ => True) (fun _ U o U' => ∃ v L, o = .returned v ∧ Q_chkL Z x y h0 n0 v U'.heap L ∧ FrameEnd U o U' L rO0.cells rO0.slots) := by
  refine MetFree.of_bodySF pn_chkL hisR ?_
  intro p e s m args below meth c s₁ Bd hml0 hP hK
  obtain ⟨rfl, hZ, hh⟩ := hP
  have hx := Bd.exec
  have hby := Bd.bytes
  have dq := @hb _ _ hby
  have hml : c.maxLocals = 2 := hml0
  have X0 : Stand p l e rO0 s m #[(.int x), (.int y)] below meth c s₁ [] 0 0 := Stand.of_body Bd
  have e0 : s₁.heap = h0 := by rw [← hh, Bd.state]; rfl
  have N0 := Fr.nil n0
  show Rch p e below s₁ _ _
  refine Rch.cast (ef_schk m x y) ?_
  show Rch p e below s₁ (mkF m 0 #[vI x, vI y] []) _
  refine R1 (XS.iloadN X0.here hx rfl (dq (dg dcl2 0 rfl)) rfl) ?_
  refine R1 (XS.iloadN X0.here hx rfl (dq (dg dcl2 1 rfl)) rfl) ?_
  refine R1 (XS.icmpYes X0.here hx rfl (pc0 := 2) (pc' := 37) rfl (dq (dg dcl2 2 rfl)) rfl (flt hxy).2.1 (by decide) (by decide)) ?_
  show Rch p e below s₁ (mkF m 37 #[vI x, vI y] []) _
  exact Rch.fin (Q := Q_chkL Z x y h0 n0) X0 (v := none) (fun _ => rfl) (BodyLoose.notSynchronized Bd) (fun fs hr => X0.returnOut hx Bd.returns (dq (dg dcl2 3 rfl)) hr) (by rw [e0]; exact ⟨rfl, N0, rfl⟩) (by decide) (by decide)
theorem drb : dxs jdk_65_method_133_code [(0, .iload_n 1, 1), (1, .iload_n 2, 1), (2, .invokestatic 343, 3), (5, .iload_n 2, 1), (6, .iload_n 1, 1), (7, .isub, 1), (8, .istore_n 3, 1), (9, .iload_n 3, 1), (10, .newarray .byte, 2), (12, .astore 4, 2), (14, .aload_n 0, 1), (15, .iload_n 1, 1), (16, .aload 4, 2), (18, .iconst 0, 1), (19, .aload_n 0, 1), (20, .arraylength, 1), (21, .iload_n 1, 1), (22, .isub, 1), (23, .iload_n 3, 1), (24, .invokestatic 304, 3), (27, .invokestatic 150, 3), (30, .aload 4, 2), (32, .areturn, 1)] = true := by decide +kernel
theorem pn_corB : plainFor (⟨"java/util/Arrays", "copyOfRangeByte", "([BII)[B"⟩ : MethodName) = true := plainFor_of_name (by first | (simp [plainName, overriddenIn]; done) | decide +kernel)
def Q_corB (Z : State) (va : Addr) (cap : Nat) (cs : List Int32) (h0 : Heap) (n0 : Nat) (v : Option Value) (h : Heap) (L : List Loc) : Prop := ∃ b, v = some (.ref b) ∧ Fr n0 L ∧ Ext h0 h ∧ h0.size ≤ b ∧ Vc Z h b cs.length cs
set_option maxRecDepth 65536 in
set_option maxHeartbeats 40000000 in
theorem rm_corB (l : Launch) (Z : State) (a0 : Array Value) (hw : ∀ d ∈ tables_1, d.before a0 Z = true) (ws : List Jvm.Cond) (va : Addr) (cap : Nat) (cs : List Int32) (h0 : Heap) (n0 : Nat) (Z0 : n0 ≤ h0.size) (V : Vc Z h0 va cap cs) (hle : cs.length ≤ cap) (h40 : cap ≤ 40) :
    MetFree l mN40 (head1 (Jvm.Cond.code mN40 jdk_65_method_133_code 5 (some (.array .byte)) :: ws) rO17) (fun a U => a = #[(.ref va), (.int (0 : Int32)), (.int (Int32.ofNat cs.length))] ∧ Z.Warmed39 U.vm ∧ U.heap = h0) (fun _ _ _ _ _ => True) (fun _ U o U' => ∃ v L, o = .returned v ∧ Q_corB Z va cap cs h0 n0 v U'.heap L ∧ FrameEnd U o U' L rO17.cells rO17.slots) := by
  refine MetFree.of_bodySF pn_corB hisR ?_
  intro p e s m args below meth c s₁ Bd hml0 hP hK
  obtain ⟨rfl, hZ, hh⟩ := hP
  have hx := Bd.exec
  have hby := Bd.bytes
  have dq := @hb _ _ hby
  have hml : c.maxLocals = 5 := hml0
  have hown : s.vm.findClass "java/util/Arrays" = some m.cls := findClass_of_methodNamed Bd.named
  have X0 : Stand p l e rO17 s m #[(.ref va), (.int (0 : Int32)), (.int (Int32.ofNat cs.length))] below meth c s₁ [] 0 0 := Stand.of_body Bd
  have e0 : s₁.heap = h0 := by rw [← hh, Bd.state]; rfl
  have N0 := Fr.nil n0
  show Rch p e below s₁ _ _
  refine Rch.cast (ef_toby1 m va (0 : Int32) (Int32.ofNat cs.length)) ?_
  show Rch p e below s₁ (mkF m 0 #[vR va, vI (0 : Int32), vI (Int32.ofNat cs.length), .unset, .unset] []) _
  obtain ⟨EV, kv, VA⟩ := id V
  have c1 : (Int32.ofNat cap).toNatClampNeg = cap := ofN_clamp (by omega)
  have c2 : (Int32.ofNat cs.length).toNatClampNeg = cs.length := ofN_clamp (by omega)
  refine R1 (XS.iloadN X0.here hx rfl (dq (dg drb 0 rfl)) rfl) ?_
  refine R1 (XS.iloadN X0.here hx rfl (dq (dg drb 1 rfl)) rfl) ?_
  show Rch p e below s₁ (mkF m 2 #[vR va, vI (0 : Int32), vI (Int32.ofNat cs.length), .unset, .unset] [(.int (Int32.ofNat cs.length)), (.int (0 : Int32))]) _
  obtain ⟨_, _, ⟨T194, L194, k194, n194⟩, -, X194, ⟨Lc194, hQ194, l194, y194, z194⟩, st194⟩ := Jvm.LawKit.callS X0 hx (y := mN39) hown (mw hZ hw 221 rfl) (mw hZ hw 222 rfl) (mw hZ hw 117 rfl) (mw hZ hw 223 rfl) (by decide) (backOf (W := 0) (rm_chkL l Z a0 hw [] (0 : Int32) (Int32.ofNat cs.length) h0 n0 Z0 (ofN_neg (by omega))) hZ (wq hw 223 rfl) (wq hw 117 rfl) (by decide) (by decide)) (g := (mkF m 2 #[vR va, vI (0 : Int32), vI (Int32.ofNat cs.length), .unset, .unset] [(.int (Int32.ofNat cs.length)), (.int (0 : Int32))])) rfl (by rw [hml]; rfl) (argsL := [(.int (0 : Int32)), (.int (Int32.ofNat cs.length))]) (rest := []) (lenOf pd_2 rfl) rfl (w0 rfl) (dq (dg drb 2 rfl)) (fun _ _ => ⟨rfl, e0, (by decide : 0 + 0 ≤ _), (by decide : 0 + 0 ≤ _)⟩)
  dsimp only [Pt.U, Pt.locs, Pt.cells, Pt.slots] at X194 l194 y194 z194 st194 hQ194
  subst l194 y194 z194
  obtain ⟨rfl, Nq194, e194⟩ := hQ194
  have N194 := Fr.app N0 Nq194
  refine R0_ st194 ?_
  show Rch p e below T194 (mkF m 5 #[vR va, vI (0 : Int32), vI (Int32.ofNat cs.length), .unset, .unset] []) _
  refine R1 (XS.iloadN X194.here hx rfl (dq (dg drb 3 rfl)) rfl) ?_
  refine R1 (XS.iloadN X194.here hx rfl (dq (dg drb 4 rfl)) rfl) ?_
  refine R1 (XS.isub X194.here hx rfl (dq (dg drb 5 rfl)) rfl) ?_
  show Rch p e below T194 (mkF m 8 #[vR va, vI (0 : Int32), vI (Int32.ofNat cs.length), .unset, .unset] [(.int ((Int32.ofNat cs.length) - (0 : Int32)))]) _
  rw [sub0]
  show Rch p e below T194 (mkF m 8 #[vR va, vI (0 : Int32), vI (Int32.ofNat cs.length), .unset, .unset] [(.int (Int32.ofNat cs.length))]) _
  refine R1 (XS.istoreN X194.here hx rfl (dq (dg drb 6 rfl)) rfl (l' := #[vR va, vI (0 : Int32), vI (Int32.ofNat cs.length), vI (Int32.ofNat cs.length), .unset]) rfl) ?_
  refine R1 (XS.iloadN X194.here hx rfl (dq (dg drb 7 rfl)) rfl) ?_
  show Rch p e below T194 (mkF m 10 #[vR va, vI (0 : Int32), vI (Int32.ofNat cs.length), vI (Int32.ofNat cs.length), .unset] [(.int (Int32.ofNat cs.length))]) _
  obtain ⟨T195, h195, k195, X195, e195, E195, A195, Q195, st195⟩ := newPE X194 hx hZ (wq hw 20 rfl) e194 (g := (mkF m 10 #[vR va, vI (0 : Int32), vI (Int32.ofNat cs.length), vI (Int32.ofNat cs.length), .unset] [(.int (Int32.ofNat cs.length))])) rfl (dq (dg drb 8 rfl)) rfl (ofN_neg (by omega)) (cap := 40) (by rw [c2]; omega) (by decide) (by decide) (by decide) (ad := "[B") (by decide)
  obtain ⟨a195, g195⟩ : ∃ z, z = h0.size := ⟨_, rfl⟩
  rw [← g195] at A195 Q195 st195
  have Ex196 : Ext h0 h195 := E195
  have le197 : h0.size ≤ a195 := Nat.le_of_eq g195.symm
  refine R0_ st195 ?_
  show Rch p e below T195 (mkF m 12 #[vR va, vI (0 : Int32), vI (Int32.ofNat cs.length), vI (Int32.ofNat cs.length), .unset] [(.ref a195)]) _
  have VC195 : Vc Z h195 a195 cs.length [] := ⟨Q195, k195, Arv.new A195 (ofN_neg (by omega))⟩
  refine R1 (XS.astore X195.here hx rfl (dq (dg drb 9 rfl)) rfl rfl (l' := #[vR va, vI (0 : Int32), vI (Int32.ofNat cs.length), vI (Int32.ofNat cs.length), vR a195]) rfl) ?_
  refine R1 (XS.aloadN X195.here hx rfl (dq (dg drb 10 rfl)) rfl rfl) ?_
  refine R1 (XS.iloadN X195.here hx rfl (dq (dg drb 11 rfl)) rfl) ?_
  refine R1 (XS.aload X195.here hx rfl (dq (dg drb 12 rfl)) rfl rfl) ?_
  refine R1 (XS.iconst X195.here hx rfl (dq (dg drb 13 rfl)) ) ?_
  refine R1 (XS.aloadN X195.here hx rfl (dq (dg drb 14 rfl)) rfl rfl) ?_
  show Rch p e below T195 (mkF m 20 #[vR va, vI (0 : Int32), vI (Int32.ofNat cs.length), vI (Int32.ofNat cs.length), vR a195] [(.ref va), (.int (0 : Int32)), (.ref a195), (.int (0 : Int32)), (.ref va)]) _
  refine R0_ (alenA X195 hx hZ e195 (VA.ext Ex196).arh (g := (mkF m 20 #[vR va, vI (0 : Int32), vI (Int32.ofNat cs.length), vI (Int32.ofNat cs.length), vR a195] [(.ref va), (.int (0 : Int32)), (.ref a195), (.int (0 : Int32)), (.ref va)])) rfl rfl (dq (dg drb 15 rfl))) ?_
  show Rch p e below T195 (mkF m 21 #[vR va, vI (0 : Int32), vI (Int32.ofNat cs.length), vI (Int32.ofNat cs.length), vR a195] [(.int (Int32.ofNat cap)), (.int (0 : Int32)), (.ref a195), (.int (0 : Int32)), (.ref va)]) _
  refine R1 (XS.iloadN X195.here hx rfl (dq (dg drb 16 rfl)) rfl) ?_
  refine R1 (XS.isub X195.here hx rfl (dq (dg drb 17 rfl)) rfl) ?_
  show Rch p e below T195 (mkF m 23 #[vR va, vI (0 : Int32), vI (Int32.ofNat cs.length), vI (Int32.ofNat cs.length), vR a195] [(.int ((Int32.ofNat cap) - (0 : Int32))), (.int (0 : Int32)), (.ref a195), (.int (0 : Int32)), (.ref va)]) _
  rw [sub0]
  show Rch p e below T195 (mkF m 23 #[vR va, vI (0 : Int32), vI (Int32.ofNat cs.length), vI (Int32.ofNat cs.length), vR a195] [(.int (Int32.ofNat cap)), (.int (0 : Int32)), (.ref a195), (.int (0 : Int32)), (.ref va)]) _
  refine R1 (XS.iloadN X195.here hx rfl (dq (dg drb 18 rfl)) rfl) ?_
  show Rch p e below T195 (mkF m 24 #[vR va, vI (0 : Int32), vI (Int32.ofNat cs.length), vI (Int32.ofNat cs.length), vR a195] [(.int (Int32.ofNat cs.length)), (.int (Int32.ofNat cap)), (.int (0 : Int32)), (.ref a195), (.int (0 : Int32)), (.ref va)]) _
  obtain ⟨_, _, ⟨T198, L198, k198, n198⟩, -, X198, ⟨Lc198, hQ198, l198, y198, z198⟩, st198⟩ := Jvm.LawKit.callS X195 hx (y := mN19) hown (mw hZ hw 214 rfl) (mw hZ hw 215 rfl) (mw hZ hw 207 rfl) (mw hZ hw 216 rfl) (by decide) (backOf (W := 4) (rm_minM l Z a0 hw [] cap cs.length h195 n0 (Nat.le_trans Z0 Ex196.1) hle (by omega)) hZ (wq hw 216 rfl) (wq hw 207 rfl) (by decide) (by decide)) (g := (mkF m 24 #[vR va, vI (0 : Int32), vI (Int32.ofNat cs.length), vI (Int32.ofNat cs.length), vR a195] [(.int (Int32.ofNat cs.length)), (.int (Int32.ofNat cap)), (.int (0 : Int32)), (.ref a195), (.int (0 : Int32)), (.ref va)])) rfl (by rw [hml]; rfl) (argsL := [(.int (Int32.ofNat cap)), (.int (Int32.ofNat cs.length))]) (rest := [(.int (0 : Int32)), (.ref a195), (.int (0 : Int32)), (.ref va)]) (lenOf pd_13 rfl) rfl (w0 rfl) (dq (dg drb 19 rfl)) (fun _ _ => ⟨rfl, e195, (by decide : 1 + 0 ≤ _), (by decide : 40 + 0 ≤ _)⟩)
  dsimp only [Pt.U, Pt.locs, Pt.cells, Pt.slots] at X198 l198 y198 z198 st198 hQ198
  subst l198 y198 z198
  obtain ⟨rfl, Nq198, e198⟩ := hQ198
  have N198 := Fr.app N194 Nq198
  refine R0_ st198 ?_
  show Rch p e below T198 (mkF m 27 #[vR va, vI (0 : Int32), vI (Int32.ofNat cs.length), vI (Int32.ofNat cs.length), vR a195] [(.int (Int32.ofNat cs.length)), (.int (0 : Int32)), (.ref a195), (.int (0 : Int32)), (.ref va)]) _
  obtain ⟨EB, kb, VB⟩ := id VC195
  obtain ⟨T199, h199, L199, X199, e199, N199, K199, V199, st199⟩ := cpA X198 hx hZ hown (wq hw 217 rfl) (wq hw 191 rfl) (wq hw 189 rfl) (wq hw 190 rfl) e198 (VA.ext Ex196) (VB.pad (pad_rep [] (.int 0) (Int32.ofNat cs.length).toNatClampNeg)) (Or.inl ⟨rfl, rfl⟩) (by decide) (by decide) (ofN_neg (by omega)) (by show 0 + _ ≤ _; rw [c1, c2]; omega) (by show 0 + _ ≤ _; omega) (us := _) (sp := (0 : Int32)) (dp := (0 : Int32)) (nn := (Int32.ofNat cs.length)) rfl (by simp) N198 (Nat.le_trans Z0 le197) (g := (mkF m 27 #[vR va, vI (0 : Int32), vI (Int32.ofNat cs.length), vI (Int32.ofNat cs.length), vR a195] [(.int (Int32.ofNat cs.length)), (.int (0 : Int32)), (.ref a195), (.int (0 : Int32)), (.ref va)])) rfl (by rw [hml]; rfl) rfl (dq (dg drb 20 rfl)) (by decide) (W := 0) (w0 rfl) (by decide)
  have Ex200 : Ext h0 h199 := extKeep1 Ex196 K199 le197
  refine R0_ st199 ?_
  show Rch p e below T199 (mkF m 30 #[vR va, vI (0 : Int32), vI (Int32.ofNat cs.length), vI (Int32.ofNat cs.length), vR a195] []) _
  have V9 : Vc Z h199 a195 cs.length cs := ⟨EB.keep K199, kb, Arv.pad V199 (cp_pad (by rw [byt_len, c2]; exact Nat.le_refl _))⟩
  refine R1 (XS.aload X199.here hx rfl (dq (dg drb 21 rfl)) rfl rfl) ?_
  show Rch p e below T199 (mkF m 32 #[vR va, vI (0 : Int32), vI (Int32.ofNat cs.length), vI (Int32.ofNat cs.length), vR a195] [(.ref a195)]) _
  exact Rch.fin (Q := Q_corB Z va cap cs h0 n0) X199 (v := some (.ref a195)) (fun h => by rw [Bd.returns] at h; cases h) (BodyLoose.notSynchronized Bd) (fun fs hr => retR X199 hx Bd.returns rfl rfl (dq (dg drb 22 rfl)) hr) (by rw [e199]; exact ⟨a195, rfl, N199, Ex200, le197, V9⟩) (by decide) (by decide)
theorem dcr : dxs jdk_65_method_132_code [(0, .iload_n 1, 1), (1, .ifCond .ne 9, 3), (4, .iload_n 2, 1), (5, .aload_n 0, 1), (6, .arraylength, 1), (7, .if_icmp .eq 10, 3), (10, .aload_n 0, 1), (11, .iload_n 1, 1), (12, .iload_n 2, 1), (13, .invokestatic 339, 3), (16, .areturn, 1), (17, .aload_n 0, 1), (18, .invokevirtual 310, 3), (21, .checkcast 311, 3), (24, .areturn, 1)] = true := by decide +kernel
theorem pn_cor : plainFor (⟨"java/util/Arrays", "copyOfRange", "([BII)[B"⟩ : MethodName) = true := plainFor_of_name (by first | (simp [plainName, overriddenIn]; done) | decide +kernel)
def Q_cor (Z : State) (va : Addr) (cap : Nat) (cs : List Int32) (h0 : Heap) (n0 : Nat) (v : Option Value) (h : Heap) (L : List Loc) : Prop := ∃ b, v = some (.ref b) ∧ Fr n0 L ∧ Ext h0 h ∧ h0.size ≤ b ∧ Vc Z h b cs.length cs
set_option maxRecDepth 65536 in
set_option maxHeartbeats 40000000 in
theorem rm_cor (l : Launch) (Z : State) (a0 : Array Value) (hw : ∀ d ∈ tables_1, d.before a0 Z = true) (ws : List Jvm.Cond) (va : Addr) (cap : Nat) (cs : List Int32) (h0 : Heap) (n0 : Nat) (Z0 : n0 ≤ h0.size) (V : Vc Z h0 va cap cs) (hle : cs.length ≤ cap) (h40 : cap ≤ 40) :
    MetFree l mN41 (head1 (Jvm.Cond.code mN41 jdk_65_method_132_code 3 (some (.array .byte)) :: ws) rO28) (fun a U => a = #[(.ref va), (.int (0 : Int32)), (.int (Int32.ofNat cs.length))] ∧ Z.Warmed39 U.vm ∧ U.heap = h0) (fun _ _ _ _ _ => True) (fun _ U o U' => ∃ v L, o = .returned v ∧ Q_cor Z va cap cs h0 n0 v U'.heap L ∧ FrameEnd U o U' L rO28.cells rO28.slots) := by
  refine MetFree.of_bodySF pn_cor hisR ?_
  intro p e s m args below meth c s₁ Bd hml0 hP hK
  obtain ⟨rfl, hZ, hh⟩ := hP
  have hx := Bd.exec
  have hby := Bd.bytes
  have dq := @hb _ _ hby
  have hml : c.maxLocals = 3 := hml0
  have hown : s.vm.findClass "java/util/Arrays" = some m.cls := findClass_of_methodNamed Bd.named
  have X0 : Stand p l e rO28 s m #[(.ref va), (.int (0 : Int32)), (.int (Int32.ofNat cs.length))] below meth c s₁ [] 0 0 := Stand.of_body Bd
  have e0 : s₁.heap = h0 := by rw [← hh, Bd.state]; rfl
  have N0 := Fr.nil n0
  show Rch p e below s₁ _ _
  refine Rch.cast (ef_put m va (0 : Int32) (Int32.ofNat cs.length)) ?_
  show Rch p e below s₁ (mkF m 0 #[vR va, vI (0 : Int32), vI (Int32.ofNat cs.length)] []) _
  obtain ⟨EV, kv, VA⟩ := id V
  refine R1 (XS.iloadN X0.here hx rfl (dq (dg dcr 0 rfl)) rfl) ?_
  refine R1 (XS.ifNo X0.here hx rfl (dq (dg dcr 1 rfl)) rfl (by decide : ifCond.holds .ne (0 : Int32) = false)) ?_
  refine R1 (XS.iloadN X0.here hx rfl (dq (dg dcr 2 rfl)) rfl) ?_
  refine R1 (XS.aloadN X0.here hx rfl (dq (dg dcr 3 rfl)) rfl rfl) ?_
  show Rch p e below s₁ (mkF m 6 #[vR va, vI (0 : Int32), vI (Int32.ofNat cs.length)] [(.ref va), (.int (Int32.ofNat cs.length))]) _
  refine R0_ (alenA X0 hx hZ e0 VA.arh (g := (mkF m 6 #[vR va, vI (0 : Int32), vI (Int32.ofNat cs.length)] [(.ref va), (.int (Int32.ofNat cs.length))])) rfl rfl (dq (dg dcr 4 rfl))) ?_
  show Rch p e below s₁ (mkF m 7 #[vR va, vI (0 : Int32), vI (Int32.ofNat cs.length)] [(.int (Int32.ofNat cap)), (.int (Int32.ofNat cs.length))]) _
  by_cases hq : cs.length = cap
  · skip
    have hq2 : (Int32.ofNat cs.length) = (Int32.ofNat cap) := by rw [hq]
    refine R1 (XS.icmpYes X0.here hx rfl (pc0 := 7) (pc' := 17) rfl (dq (dg dcr 5 rfl)) rfl (teq hq2).1 (by decide) (by decide)) ?_
    refine R1 (XS.aloadN X0.here hx rfl (dq (dg dcr 11 rfl)) rfl rfl) ?_
    show Rch p e below s₁ (mkF m 18 #[vR va, vI (0 : Int32), vI (Int32.ofNat cs.length)] [(.ref va)]) _
    obtain ⟨T201, h201, X201, e201, E201, M201, A201, st201⟩ := cloneH X0 hx hZ hown (wq hw 119 rfl) (wq hw 120 rfl) (wq hw 124 rfl) (wq hw 122 rfl) (wq hw 123 rfl) (wq hw 125 rfl) e0 (VA).arh EV (g := (mkF m 18 #[vR va, vI (0 : Int32), vI (Int32.ofNat cs.length)] [(.ref va)])) rfl (by rw [hml]; rfl) rfl (dq (dg dcr 12 rfl)) (by decide) (W := 0) (cap := 40) (w0 rfl) (by decide) (by rw [ofN_clamp (by omega)]; exact h40) (by decide) (by decide)
    obtain ⟨a201, g201⟩ : ∃ z, z = h0.size := ⟨_, rfl⟩
    rw [← g201] at M201 A201 st201
    have Ex202 : Ext h0 h201 := E201
    have le203 : h0.size ≤ a201 := Nat.le_of_eq g201.symm
    refine R0_ st201 ?_
    show Rch p e below T201 (mkF m 21 #[vR va, vI (0 : Int32), vI (Int32.ofNat cs.length)] [(.ref a201)]) _
    obtain ⟨T204, X204, e204, st204⟩ := castY X201 hx hZ hown (wq hw 126 rfl) e201 (Ins.self A201) (g := (mkF m 21 #[vR va, vI (0 : Int32), vI (Int32.ofNat cs.length)] [(.ref a201)])) rfl rfl (dq (dg dcr 13 rfl))
    refine R0_ st204 ?_
    show Rch p e below T204 (mkF m 24 #[vR va, vI (0 : Int32), vI (Int32.ofNat cs.length)] [(.ref a201)]) _
    exact Rch.fin (Q := Q_cor Z va cap cs h0 n0) X204 (v := some (.ref a201)) (fun h => by rw [Bd.returns] at h; cases h) (BodyLoose.notSynchronized Bd) (fun fs hr => retR X204 hx Bd.returns rfl rfl (dq (dg dcr 14 rfl)) hr) (by rw [e204]; exact ⟨a201, rfl, N0, Ex202, le203, A201, kv, by rw [hq]; exact M201⟩) (by decide) (by decide)
  · skip
    refine R1 (XS.icmpNo X0.here hx rfl (dq (dg dcr 5 rfl)) rfl (feq (ofN_neq hq (by omega) (by omega))).1) ?_
    refine R1 (XS.aloadN X0.here hx rfl (dq (dg dcr 6 rfl)) rfl rfl) ?_
    refine R1 (XS.iloadN X0.here hx rfl (dq (dg dcr 7 rfl)) rfl) ?_
    refine R1 (XS.iloadN X0.here hx rfl (dq (dg dcr 8 rfl)) rfl) ?_
    show Rch p e below s₁ (mkF m 13 #[vR va, vI (0 : Int32), vI (Int32.ofNat cs.length)] [(.int (Int32.ofNat cs.length)), (.int (0 : Int32)), (.ref va)]) _
    obtain ⟨_, _, ⟨T205, L205, k205, n205⟩, -, X205, ⟨Lc205, hQ205, l205, y205, z205⟩, st205⟩ := Jvm.LawKit.callS X0 hx (y := mN40) hown (mw hZ hw 218 rfl) (mw hZ hw 219 rfl) (mw hZ hw 117 rfl) (mw hZ hw 220 rfl) (by decide) (backOf (W := 0) (rm_corB l Z a0 hw [] va cap cs h0 n0 Z0 V hle h40) hZ (wq hw 220 rfl) (wq hw 117 rfl) (by decide) (by decide)) (g := (mkF m 13 #[vR va, vI (0 : Int32), vI (Int32.ofNat cs.length)] [(.int (Int32.ofNat cs.length)), (.int (0 : Int32)), (.ref va)])) rfl (by rw [hml]; rfl) (argsL := [(.ref va), (.int (0 : Int32)), (.int (Int32.ofNat cs.length))]) (rest := []) (lenOf pd_25 rfl) rfl (w0 rfl) (dq (dg dcr 9 rfl)) (fun _ _ => ⟨rfl, e0, (by decide : 0 + 1 ≤ _), (by decide : 0 + 40 ≤ _)⟩)
    dsimp only [Pt.U, Pt.locs, Pt.cells, Pt.slots] at X205 l205 y205 z205 st205 hQ205
    subst l205 y205 z205
    obtain ⟨b205, rfl, Nq205, E205, le205_, V205⟩ := hQ205
    have N205 := Fr.app N0 Nq205
    have Ex206 : Ext h0 T205.heap := E205
    refine R0_ st205 ?_
    show Rch p e below T205 (mkF m 16 #[vR va, vI (0 : Int32), vI (Int32.ofNat cs.length)] [(.ref b205)]) _
    exact Rch.fin (Q := Q_cor Z va cap cs h0 n0) X205 (v := some (.ref b205)) (fun h => by rw [Bd.returns] at h; cases h) (BodyLoose.notSynchronized Bd) (fun fs hr => retR X205 hx Bd.returns rfl rfl (dq (dg dcr 10 rfl)) hr) ⟨b205, rfl, N205, Ex206, le205_, V205⟩ (by decide) (by decide)
theorem dsv : dxs jdk_42_method_150_code [(0, .aload_n 0, 1), (1, .invokespecial 1, 3), (4, .aload_n 1, 1), (5, .invokevirtual 552, 3), (8, .astore_n 3, 1), (9, .aload_n 1, 1), (10, .invokevirtual 549, 3), (13, .istore 4, 2), (15, .aload_n 1, 1), (16, .invokevirtual 1047, 3), (19, .ifCond .eq 22, 3), (22, .aload_n 0, 1), (23, .iconst 0, 1), (24, .putfield 15, 3), (27, .aload_n 0, 1), (28, .aload_n 3, 1), (29, .iconst 0, 1), (30, .iload 4, 2), (32, .invokestatic 54, 3), (35, .putfield 9, 3), (38, .goto 59, 3), (97, .return_, 1)] = true := by decide +kernel
theorem pn_siA : plainFor (⟨"java/lang/String", "<init>", "(Ljava/lang/AbstractStringBuilder;Ljava/lang/Void;)V"⟩ : MethodName) = true := plainFor_of_name (by first | (simp [plainName, overriddenIn]; done) | decide +kernel)
theorem ef_siA (m : MethodId) (x0 : Addr) (x1 : Addr) : entryFrame m #[(.ref x0), (.ref x1), .null] 5 = mkF m 0 #[vR x0, vR x1, .val .null, .unset, .unset] [] := by first | (simp [entryFrame, mkF, argsToLocals, Value.category]; done) | rfl
def Q_siA (Z : State) (ta sb va : Addr) (cap : Nat) (cs : List Int32) (h0 : Heap) (n0 : Nat) (v : Option Value) (h : Heap) (L : List Loc) : Prop := ∃ tb, v = none ∧ Fr n0 L ∧ Keep h0 h [ta] ∧ Lt Z h ta tb cs
set_option maxRecDepth 65536 in
set_option maxHeartbeats 40000000 in
theorem rm_siA (l : Launch) (Z : State) (a0 : Array Value) (hw : ∀ d ∈ tables_1, d.before a0 Z = true) (ws : List Jvm.Cond) (ta sb va : Addr) (cap : Nat) (cs : List Int32) (h0 : Heap) (n0 : Nat) (Z0 : n0 ≤ h0.size) (hthis : n0 ≤ ta) (E1 : Exa Z h0 ta "java/lang/String") (F1 : Fld Z h0 ta "java/lang/String" "value" "[B" .null) (F2 : Fld Z h0 ta "java/lang/String" "coder" "B" (.int 0)) (B : Sc Z h0 sb va cap cs) (CS : Cmp Z h0) :
    MetFree l mN42 (head1 (Jvm.Cond.code mN42 jdk_42_method_150_code 5 none :: ws) rO29) (fun a U => a = #[(.ref ta), (.ref sb), .null] ∧ Z.Warmed39 U.vm ∧ U.heap = h0) (fun _ _ _ _ _ => True) (fun _ U o U' => ∃ v L, o = .returned v ∧ Q_siA Z ta sb va cap cs h0 n0 v U'.heap L ∧ FrameEnd U o U' L rO29.cells rO29.slots) := by
  refine MetFree.of_bodySF pn_siA hisR ?_
  intro p e s m args below meth c s₁ Bd hml0 hP hK
  obtain ⟨rfl, hZ, hh⟩ := hP
  have hx := Bd.exec
  have hby := Bd.bytes
  have dq := @hb _ _ hby
  have hml : c.maxLocals = 5 := hml0
  have hown : s.vm.findClass "java/lang/String" = some m.cls := findClass_of_methodNamed Bd.named
  have hnm := (name_of_methodNamed Bd.named Bd.method).1
  have X0 : Stand p l e rO29 s m #[(.ref ta), (.ref sb), .null] below meth c s₁ [] 0 0 := Stand.of_body Bd
  have e0 : s₁.heap = h0 := by rw [← hh, Bd.state]; rfl
  have N0 := Fr.nil n0
  show Rch p e below s₁ _ _
  refine Rch.cast (ef_siA m ta sb) ?_
  show Rch p e below s₁ (mkF m 0 #[vR ta, vR sb, .val .null, .unset, .unset] []) _
  have hsl : Jvm.RoadKit.slotOf Z "java/lang/String" "value" "[B" ≠ Jvm.RoadKit.slotOf Z "java/lang/String" "coder" "B" := slot_ne (C := "java/lang/String") (Or.inr (wq hw 21 rfl)) (Or.inr (wq hw 22 rfl)) (by decide) (t := .array .byte) (t' := .byte) (by decide) (by decide)
  have ne : va ≠ ta := B.2.1.1.ne E1 (by decide)
  refine R1 (XS.aloadN X0.here hx rfl (dq (dg dsv 0 rfl)) rfl rfl) ?_
  show Rch p e below s₁ (mkF m 1 #[vR ta, vR sb, .val .null, .unset, .unset] [(.ref ta)]) _
  obtain ⟨T207, X207, e207, st207⟩ := initO X0 hx hZ hown (wq hw 16 rfl) (wq hw 17 rfl) (wq hw 18 rfl) e0 (g := (mkF m 1 #[vR ta, vR sb, .val .null, .unset, .unset] [(.ref ta)])) rfl (by rw [hml]; rfl) rfl (dq (dg dsv 1 rfl)) (by decide) (W := 0) (w0 rfl) (by decide)
  refine R0_ st207 ?_
  show Rch p e below T207 (mkF m 4 #[vR ta, vR sb, .val .null, .unset, .unset] []) _
  refine R1 (XS.aloadN X207.here hx rfl (dq (dg dsv 2 rfl)) rfl rfl) ?_
  show Rch p e below T207 (mkF m 5 #[vR ta, vR sb, .val .null, .unset, .unset] [(.ref sb)]) _
  obtain ⟨cq208, kq208, q208a, q208b, q208c⟩ := isOf hZ e207 B.1.1
  obtain ⟨_, _, ⟨T208, L208, k208, n208⟩, -, X208, ⟨Lc208, hQ208, l208, y208, z208⟩, st208⟩ := X207.virtualBack hx (y := mN27) (z := mN27) hown (mw hZ hw 101 rfl) (mw hZ hw 102 rfl) (notFace_of_selects (args := #[]) (mw hZ hw 104 rfl)) (mw hZ hw 104 rfl) (mw hZ hw 103 rfl) (by decide) (backOf (W := 0) (rm_gval l Z a0 hw [] sb va cap cs h0 n0 Z0 B) hZ (wq hw 105 rfl) (wq hw 52 rfl) (by decide) (by decide)) q208a q208c (g := (mkF m 5 #[vR ta, vR sb, .val .null, .unset, .unset] [(.ref sb)])) rfl (by rw [hml]; rfl) (Steps.refl _) (argsL := []) (rest := []) (lenOf pd_26 rfl) rfl (w0 rfl) (dq (dg dsv 3 rfl)) (fun _ _ => ⟨rfl, e207, (by decide : 0 + 0 ≤ _), (by decide : 0 + 0 ≤ _)⟩)
  dsimp only [Pt.U, Pt.locs, Pt.cells, Pt.slots] at X208 l208 y208 z208 st208 hQ208
  subst l208 y208 z208
  obtain ⟨rfl, Nq208, e208⟩ := hQ208
  have N208 := Fr.app N0 Nq208
  refine R2 st208 ?_
  show Rch p e below T208 (mkF m 8 #[vR ta, vR sb, .val .null, .unset, .unset] [(.ref va)]) _
  refine R1 (XS.astoreN X208.here hx rfl (dq (dg dsv 4 rfl)) rfl rfl (l' := #[vR ta, vR sb, .val .null, vR va, .unset]) rfl) ?_
  refine R1 (XS.aloadN X208.here hx rfl (dq (dg dsv 5 rfl)) rfl rfl) ?_
  show Rch p e below T208 (mkF m 10 #[vR ta, vR sb, .val .null, vR va, .unset] [(.ref sb)]) _
  obtain ⟨cq209, kq209, q209a, q209b, q209c⟩ := isOf hZ e208 B.1.1
  obtain ⟨_, _, ⟨T209, L209, k209, n209⟩, -, X209, ⟨Lc209, hQ209, l209, y209, z209⟩, st209⟩ := X208.virtualBack hx (y := mN28) (z := mN29) hown (mw hZ hw 106 rfl) (mw hZ hw 107 rfl) (nfOf (args := #[]) (y := mN28) (mw hZ hw 80 rfl) rfl) (mw hZ hw 109 rfl) (mw hZ hw 110 rfl) (by decide) (backOf (W := 0) (rm_blen l Z a0 hw [] sb va cap cs h0 n0 Z0 B) hZ (wq hw 111 rfl) (wq hw 33 rfl) (by decide) (by decide)) q209a q209c (g := (mkF m 10 #[vR ta, vR sb, .val .null, vR va, .unset] [(.ref sb)])) rfl (by rw [hml]; rfl) (Steps.refl _) (argsL := []) (rest := []) (lenOf pd_17 rfl) rfl (w0 rfl) (dq (dg dsv 6 rfl)) (fun _ _ => ⟨rfl, e208, (by decide : 0 + 0 ≤ _), (by decide : 0 + 0 ≤ _)⟩)
  dsimp only [Pt.U, Pt.locs, Pt.cells, Pt.slots] at X209 l209 y209 z209 st209 hQ209
  subst l209 y209 z209
  obtain ⟨rfl, Nq209, e209⟩ := hQ209
  have N209 := Fr.app N208 Nq209
  refine R2 st209 ?_
  show Rch p e below T209 (mkF m 13 #[vR ta, vR sb, .val .null, vR va, .unset] [(.int (Int32.ofNat cs.length))]) _
  refine R1 (XS.istore X209.here hx rfl (dq (dg dsv 7 rfl)) rfl (l' := #[vR ta, vR sb, .val .null, vR va, vI (Int32.ofNat cs.length)]) rfl) ?_
  refine R1 (XS.aloadN X209.here hx rfl (dq (dg dsv 8 rfl)) rfl rfl) ?_
  show Rch p e below T209 (mkF m 16 #[vR ta, vR sb, .val .null, vR va, vI (Int32.ofNat cs.length)] [(.ref sb)]) _
  obtain ⟨cq210, kq210, q210a, q210b, q210c⟩ := isOf hZ e209 B.1.1
  obtain ⟨_, _, ⟨T210, L210, k210, n210⟩, -, X210, ⟨Lc210, hQ210, l210, y210, z210⟩, st210⟩ := X209.virtualBack hx (y := mN26) (z := mN26) hown (mw hZ hw 114 rfl) (mw hZ hw 78 rfl) (notFace_of_selects (args := #[]) (mw hZ hw 80 rfl)) (mw hZ hw 80 rfl) (mw hZ hw 79 rfl) (by decide) (backOf (W := 0) (rm_islB l Z a0 hw [] sb va cap cs h0 n0 Z0 B CS) hZ (wq hw 81 rfl) (wq hw 52 rfl) (by decide) (by decide)) q210a q210c (g := (mkF m 16 #[vR ta, vR sb, .val .null, vR va, vI (Int32.ofNat cs.length)] [(.ref sb)])) rfl (by rw [hml]; rfl) (Steps.refl _) (argsL := []) (rest := []) (lenOf pd_5 rfl) rfl (w0 rfl) (dq (dg dsv 9 rfl)) (fun _ _ => ⟨rfl, e209, (by decide : 0 + 0 ≤ _), (by decide : 0 + 0 ≤ _)⟩)
  dsimp only [Pt.U, Pt.locs, Pt.cells, Pt.slots] at X210 l210 y210 z210 st210 hQ210
  subst l210 y210 z210
  obtain ⟨rfl, Nq210, e210⟩ := hQ210
  have N210 := Fr.app N209 Nq210
  refine R2 st210 ?_
  show Rch p e below T210 (mkF m 19 #[vR ta, vR sb, .val .null, vR va, vI (Int32.ofNat cs.length)] [(.int (1 : Int32))]) _
  refine R1 (XS.ifNo X210.here hx rfl (dq (dg dsv 10 rfl)) rfl (by decide : ifCond.holds .eq (1 : Int32) = false)) ?_
  refine R1 (XS.aloadN X210.here hx rfl (dq (dg dsv 11 rfl)) rfl rfl) ?_
  refine R1 (XS.iconst X210.here hx rfl (dq (dg dsv 12 rfl)) ) ?_
  show Rch p e below T210 (mkF m 24 #[vR ta, vR sb, .val .null, vR va, vI (Int32.ofNat cs.length)] [(.int (0 : Int32)), (.ref ta)]) _
  obtain ⟨T211, h211, X211, e211, W211, st211⟩ := putF X210 hx hZ hown (host := "") (Or.inl (wq hw 26 rfl)) Via.refl e210 F2 E1 (Or.inr ⟨(wq hw 22 rfl), rfl, hnm⟩) (wq hw 6 rfl) (ty := .byte) (by decide) rfl rfl (g := (mkF m 24 #[vR ta, vR sb, .val .null, vR va, vI (Int32.ofNat cs.length)] [(.int (0 : Int32)), (.ref ta)])) rfl rfl (dq (dg dsv 13 rfl))
  have KK212 : Keep h0 h211 [ta] := (Keep.refl _ _).wr W211 (Or.inl (by simp))
  have N211 := Fr.snoc X211 N210 hthis
  refine R0_ st211 ?_
  show Rch p e below T211 (mkF m 27 #[vR ta, vR sb, .val .null, vR va, vI (Int32.ofNat cs.length)] []) _
  refine R1 (XS.aloadN X211.here hx rfl (dq (dg dsv 14 rfl)) rfl rfl) ?_
  refine R1 (XS.aloadN X211.here hx rfl (dq (dg dsv 15 rfl)) rfl rfl) ?_
  refine R1 (XS.iconst X211.here hx rfl (dq (dg dsv 16 rfl)) ) ?_
  refine R1 (XS.iload X211.here hx rfl (dq (dg dsv 17 rfl)) rfl) ?_
  show Rch p e below T211 (mkF m 32 #[vR ta, vR sb, .val .null, vR va, vI (Int32.ofNat cs.length)] [(.int (Int32.ofNat cs.length)), (.int (0 : Int32)), (.ref va), (.ref ta)]) _
  have z0 : h0.size ≤ h211.size := KK212.1
  obtain ⟨_, _, ⟨T213, L213, k213, n213⟩, -, X213, ⟨Lc213, hQ213, l213, y213, z213⟩, st213⟩ := Jvm.LawKit.callS X211 hx (y := mN41) hown (mw hZ hw 115 rfl) (mw hZ hw 116 rfl) (mw hZ hw 117 rfl) (mw hZ hw 118 rfl) (by decide) (backOf (W := 1) (rm_cor l Z a0 hw [] va cap cs h211 n0 (Nat.le_trans Z0 z0) (B.2.1.other W211 ne) B.2.2.1 (by have q := B.2.2.2; omega)) hZ (wq hw 118 rfl) (wq hw 117 rfl) (by decide) (by decide)) (g := (mkF m 32 #[vR ta, vR sb, .val .null, vR va, vI (Int32.ofNat cs.length)] [(.int (Int32.ofNat cs.length)), (.int (0 : Int32)), (.ref va), (.ref ta)])) rfl (by rw [hml]; rfl) (argsL := [(.ref va), (.int (0 : Int32)), (.int (Int32.ofNat cs.length))]) (rest := [(.ref ta)]) (lenOf pd_25 rfl) rfl (w0 rfl) (dq (dg dsv 18 rfl)) (fun _ _ => ⟨rfl, e211, (by decide : 0 + 1 ≤ _), (by decide : 0 + 40 ≤ _)⟩)
  dsimp only [Pt.U, Pt.locs, Pt.cells, Pt.slots] at X213 l213 y213 z213 st213 hQ213
  subst l213 y213 z213
  obtain ⟨b213, rfl, Nq213, E213, le213_, V213⟩ := hQ213
  have N213 := Fr.app N211 Nq213
  have Ex214 : Ext h211 T213.heap := E213
  have KK215 : Keep h0 T213.heap [ta] := KK212.ext E213
  refine R0_ st213 ?_
  show Rch p e below T213 (mkF m 35 #[vR ta, vR sb, .val .null, vR va, vI (Int32.ofNat cs.length)] [(.ref b213), (.ref ta)]) _
  obtain ⟨T216, h216, X216, e216, W216, st216⟩ := putF X213 hx hZ hown (host := "") (Or.inl (wq hw 25 rfl)) Via.refl rfl ((F1.other W211 (Or.inr hsl)).ext Ex214) ((E1.wr W211).ext Ex214) (Or.inr ⟨(wq hw 21 rfl), rfl, hnm⟩) (wq hw 6 rfl) (ty := (.array .byte)) (by decide) rfl rfl (g := (mkF m 35 #[vR ta, vR sb, .val .null, vR va, vI (Int32.ofNat cs.length)] [(.ref b213), (.ref ta)])) rfl rfl (dq (dg dsv 19 rfl))
  have KK217 : Keep h0 h216 [ta] := KK215.wr W216 (Or.inl (by simp))
  have N216 := Fr.snoc X216 N213 hthis
  refine R0_ st216 ?_
  show Rch p e below T216 (mkF m 38 #[vR ta, vR sb, .val .null, vR va, vI (Int32.ofNat cs.length)] []) _
  have E8 := (E1.wr W211).ext E213
  have n8 : b213 ≠ ta := V213.1.ne E8 (by decide)
  have V8 := V213.other W216 n8
  refine R1 (XS.goto X216.here hx rfl (pc0 := 38) (pc' := 97) rfl (dq (dg dsv 20 rfl)) (by decide) (by decide)) ?_
  show Rch p e below T216 (mkF m 97 #[vR ta, vR sb, .val .null, vR va, vI (Int32.ofNat cs.length)] []) _
  exact Rch.fin (Q := Q_siA Z ta sb va cap cs h0 n0) X216 (v := none) (fun _ => rfl) (BodyLoose.notSynchronized Bd) (fun fs hr => X216.returnOut hx Bd.returns (dq (dg dsv 21 rfl)) hr) (by rw [e216]; exact ⟨b213, rfl, N216, KK217, E8.wr W216, ((F1.other W211 (Or.inr hsl)).ext E213).same W216, ((F2.same W211).ext E213).other W216 (Or.inr (Ne.symm hsl)), V8.2⟩) (by decide) (by decide)
theorem dsw : dxs jdk_42_method_53_code [(0, .aload_n 0, 1), (1, .aload_n 1, 1), (2, .aconst_null, 1), (3, .invokespecial 489, 3), (6, .return_, 1)] = true := by decide +kernel
theorem pn_siB : plainFor (⟨"java/lang/String", "<init>", "(Ljava/lang/StringBuilder;)V"⟩ : MethodName) = true := plainFor_of_name (by first | (simp [plainName, overriddenIn]; done) | decide +kernel)
def Q_siB (Z : State) (ta sb va : Addr) (cap : Nat) (cs : List Int32) (h0 : Heap) (n0 : Nat) (v : Option Value) (h : Heap) (L : List Loc) : Prop := ∃ tb, v = none ∧ Fr n0 L ∧ Keep h0 h [ta] ∧ Lt Z h ta tb cs
set_option maxRecDepth 65536 in
set_option maxHeartbeats 40000000 in
theorem rm_siB (l : Launch) (Z : State) (a0 : Array Value) (hw : ∀ d ∈ tables_1, d.before a0 Z = true) (ws : List Jvm.Cond) (ta sb va : Addr) (cap : Nat) (cs : List Int32) (h0 : Heap) (n0 : Nat) (Z0 : n0 ≤ h0.size) (hthis : n0 ≤ ta) (E1 : Exa Z h0 ta "java/lang/String") (F1 : Fld Z h0 ta "java/lang/String" "value" "[B" .null) (F2 : Fld Z h0 ta "java/lang/String" "coder" "B" (.int 0)) (B : Sc Z h0 sb va cap cs) (CS : Cmp Z h0) :
    MetFree l mN43 (head1 (Jvm.Cond.code mN43 jdk_42_method_53_code 2 none :: ws) rO30) (fun a U => a = #[(.ref ta), (.ref sb)] ∧ Z.Warmed39 U.vm ∧ U.heap = h0) (fun _ _ _ _ _ => True) (fun _ U o U' => ∃ v L, o = .returned v ∧ Q_siB Z ta sb va cap cs h0 n0 v U'.heap L ∧ FrameEnd U o U' L rO30.cells rO30.slots) := by
  refine MetFree.of_bodySF pn_siB hisR ?_
  intro p e s m args below meth c s₁ Bd hml0 hP hK
  obtain ⟨rfl, hZ, hh⟩ := hP
  have hx := Bd.exec
  have hby := Bd.bytes
  have dq := @hb _ _ hby
  have hml : c.maxLocals = 2 := hml0
  have hown : s.vm.findClass "java/lang/String" = some m.cls := findClass_of_methodNamed Bd.named
  have X0 : Stand p l e rO30 s m #[(.ref ta), (.ref sb)] below meth c s₁ [] 0 0 := Stand.of_body Bd
  have e0 : s₁.heap = h0 := by rw [← hh, Bd.state]; rfl
  have N0 := Fr.nil n0
  show Rch p e below s₁ _ _
  refine Rch.cast (ef_new1e m ta sb) ?_
  show Rch p e below s₁ (mkF m 0 #[vR ta, vR sb] []) _
  refine R1 (XS.aloadN X0.here hx rfl (dq (dg dsw 0 rfl)) rfl rfl) ?_
  refine R1 (XS.aloadN X0.here hx rfl (dq (dg dsw 1 rfl)) rfl rfl) ?_
  refine R1 (XS.aconstNull X0.here hx rfl (dq (dg dsw 2 rfl)) ) ?_
  show Rch p e below s₁ (mkF m 3 #[vR ta, vR sb] [.null, (.ref sb), (.ref ta)]) _
  obtain ⟨_, _, ⟨T218, L218, k218, n218⟩, -, X218, ⟨Lc218, hQ218, l218, y218, z218⟩, st218⟩ := X0.specialBack hx (y := mN42) rfl hown (mw hZ hw 98 rfl) (mw hZ hw 99 rfl) (mw hZ hw 100 rfl) (by decide) (backOf (W := 0) (rm_siA l Z a0 hw [] ta sb va cap cs h0 n0 Z0 hthis E1 F1 F2 B CS) hZ (wq hw 100 rfl) (wq hw 7 rfl) (by decide) (by decide)) (g := (mkF m 3 #[vR ta, vR sb] [.null, (.ref sb), (.ref ta)])) rfl (by rw [hml]; rfl) (Steps.refl _) (a := ta) (argsL := [(.ref sb), .null]) (rest := []) (lenOf pd_27 rfl) rfl (w0 rfl) (dq (dg dsw 3 rfl)) (fun _ _ => ⟨rfl, e0, (by decide : 0 + 1 ≤ _), (by decide : 0 + 40 ≤ _)⟩)
  dsimp only [Pt.U, Pt.locs, Pt.cells, Pt.slots] at X218 l218 y218 z218 st218 hQ218
  subst l218 y218 z218
  obtain ⟨tb218, rfl, Nq218, K218, S218⟩ := hQ218
  have N218 := Fr.app N0 Nq218
  have KK219 : Keep h0 T218.heap [ta] := (Keep.refl _ _).trans K218 (allS (Or.inl (by simp)) all0)
  refine R2 st218 ?_
  show Rch p e below T218 (mkF m 6 #[vR ta, vR sb] []) _
  exact Rch.fin (Q := Q_siB Z ta sb va cap cs h0 n0) X218 (v := none) (fun _ => rfl) (BodyLoose.notSynchronized Bd) (fun fs hr => X218.returnOut hx Bd.returns (dq (dg dsw 4 rfl)) hr) ⟨tb218, rfl, N218, KK219, S218⟩ (by decide) (by decide)
theorem dts : dxs jdk_67_method_42_code [(0, .new 18, 3), (3, .dup, 1), (4, .aload_n 0, 1), (5, .invokespecial 137, 3), (8, .areturn, 1)] = true := by decide +kernel
theorem pn_sbStr : plainFor (⟨"java/lang/StringBuilder", "toString", "()Ljava/lang/String;"⟩ : MethodName) = true := plainFor_of_name (by first | (simp [plainName, overriddenIn]; done) | decide +kernel)
def Q_sbStr (Z : State) (sb va : Addr) (cap : Nat) (cs : List Int32) (h0 : Heap) (n0 : Nat) (v : Option Value) (h : Heap) (L : List Loc) : Prop := ∃ t tb, v = some (.ref t) ∧ Fr n0 L ∧ Ext h0 h ∧ h0.size ≤ t ∧ Lt Z h t tb cs
set_option maxRecDepth 65536 in
set_option maxHeartbeats 40000000 in
theorem rm_sbStr (l : Launch) (Z : State) (a0 : Array Value) (hw : ∀ d ∈ tables_1, d.before a0 Z = true) (ws : List Jvm.Cond) (sb va : Addr) (cap : Nat) (cs : List Int32) (h0 : Heap) (n0 : Nat) (Z0 : n0 ≤ h0.size) (B : Sc Z h0 sb va cap cs) (CS : Cmp Z h0) :
    MetFree l mN44 (head1 (Jvm.Cond.code mN44 jdk_67_method_42_code 1 (some (.object "java/lang/String")) :: ws) rO31) (fun a U => a = #[(.ref sb)] ∧ Z.Warmed39 U.vm ∧ U.heap = h0) (fun _ _ _ _ _ => True) (fun _ U o U' => ∃ v L, o = .returned v ∧ Q_sbStr Z sb va cap cs h0 n0 v U'.heap L ∧ FrameEnd U o U' L rO31.cells rO31.slots) := by
  refine MetFree.of_bodySF pn_sbStr hisR ?_
  intro p e s m args below meth c s₁ Bd hml0 hP hK
  obtain ⟨rfl, hZ, hh⟩ := hP
  have hx := Bd.exec
  have hby := Bd.bytes
  have dq := @hb _ _ hby
  have hml : c.maxLocals = 1 := hml0
  have hown : s.vm.findClass "java/lang/StringBuilder" = some m.cls := findClass_of_methodNamed Bd.named
  have X0 : Stand p l e rO31 s m #[(.ref sb)] below meth c s₁ [] 0 0 := Stand.of_body Bd
  have e0 : s₁.heap = h0 := by rw [← hh, Bd.state]; rfl
  have N0 := Fr.nil n0
  show Rch p e below s₁ _ _
  refine Rch.cast (ef_ulen m sb) ?_
  show Rch p e below s₁ (mkF m 0 #[vR sb] []) _
  obtain ⟨T220, h220, X220, e220, E220, A220, D220, -, st220⟩ := newO X0 hx hZ hown (wq hw 94 rfl) (wq hw 6 rfl) (wq hw 7 rfl) e0 (g := (mkF m 0 #[vR sb] [])) rfl (dq (dg dts 0 rfl)) (by decide) (by decide)
  obtain ⟨a220, g220⟩ : ∃ z, z = h0.size := ⟨_, rfl⟩
  rw [← g220] at A220 D220 st220
  have Ex221 : Ext h0 h220 := E220
  have le222 : h0.size ≤ a220 := Nat.le_of_eq g220.symm
  refine R0_ st220 ?_
  show Rch p e below T220 (mkF m 3 #[vR sb] [(.ref a220)]) _
  refine R1 (XS.dup X220.here hx rfl (dq (dg dts 1 rfl)) rfl rfl) ?_
  refine R1 (XS.aloadN X220.here hx rfl (dq (dg dts 2 rfl)) rfl rfl) ?_
  show Rch p e below T220 (mkF m 5 #[vR sb] [(.ref sb), (.ref a220), (.ref a220)]) _
  obtain ⟨_, _, ⟨T223, L223, k223, n223⟩, -, X223, ⟨Lc223, hQ223, l223, y223, z223⟩, st223⟩ := X220.specialBack hx (y := mN43) rfl hown (mw hZ hw 95 rfl) (mw hZ hw 96 rfl) (mw hZ hw 97 rfl) (by decide) (backOf (W := 1) (rm_siB l Z a0 hw [] a220 sb va cap cs h220 n0 (Nat.le_trans Z0 Ex221.1) (Nat.le_trans Z0 le222) A220 (D220 (Or.inr (wq hw 21 rfl)) (ty := (.array .byte)) (by decide)) (D220 (Or.inr (wq hw 22 rfl)) (ty := .byte) (by decide)) (B.ext Ex221) (CS.ext Ex221)) hZ (wq hw 97 rfl) (wq hw 7 rfl) (by decide) (by decide)) (g := (mkF m 5 #[vR sb] [(.ref sb), (.ref a220), (.ref a220)])) rfl (by rw [hml]; rfl) (Steps.refl _) (a := a220) (argsL := [(.ref sb)]) (rest := [(.ref a220)]) (lenOf pd_28 rfl) rfl (w0 rfl) (dq (dg dts 3 rfl)) (fun _ _ => ⟨rfl, e220, (by decide : 1 + 1 ≤ _), (by decide : 4 + 40 ≤ _)⟩)
  dsimp only [Pt.U, Pt.locs, Pt.cells, Pt.slots] at X223 l223 y223 z223 st223 hQ223
  subst l223 y223 z223
  obtain ⟨tb223, rfl, Nq223, K223, S223⟩ := hQ223
  have N223 := Fr.app N0 Nq223
  have Ex224 : Ext h0 T223.heap := extKeep Ex221 K223 (allS le222 all0)
  refine R2 st223 ?_
  show Rch p e below T223 (mkF m 8 #[vR sb] [(.ref a220)]) _
  exact Rch.fin (Q := Q_sbStr Z sb va cap cs h0 n0) X223 (v := some (.ref a220)) (fun h => by rw [Bd.returns] at h; cases h) (BodyLoose.notSynchronized Bd) (fun fs hr => retR X223 hx Bd.returns rfl rfl (dq (dg dts 4 rfl)) hr) ⟨a220, tb223, rfl, N223, Ex224, le222, S223⟩ (by decide) (by decide)
theorem finWS {p : Program} {l : Launch} {e : Env} {R : Room} {s : State} {m : MethodId} {args : Array Value} {below : List Frame} {meth : Method} {c : Code} {T : State} {locs : List Loc} {cells slots : Nat} {g : JFrame} {Z : State} {h : Heap} {vm0 : Vm} {EL : List (String × Nat)} {a0 : Array Value} (X : Stand p l e R (s.setVm vm0) m args below meth c T locs cells slots) (hZ : Z.Warmed39 vm0) (hEL : EW Z a0 EL) {k0 : Nat} (hS : s.Since vm0 k0) (hk0 : k0 ≤ T.heap.size) (eT : T.heap = h) (hC : CHr Z EL s.vm s.heap vm0 h) {x : Addr} (hsv : Safe Z EL vm0 h x) (hlt : x < h.size) {v : Option Value} (hv : meth.sig.returnType = none → v = none) (hlk : meth.locks = false) {QS : Addr → Option Value → Heap → List Loc → Prop} {k n : Nat}
    (hret : ∀ fs, (∀ (f : JFrame) (acts : List Action), f.method = m → f.locked = none → f.entered = [] → (doReturn e (T.setTop f) acts v).1 = T.setFrames fs) → Steps p.tables e below (T.setTop g) (T.setFrames fs))
    (hq : QS x v T.heap locs) (hk : cells ≤ k) (hn : slots ≤ n) : Rch p e below T g (fun U o => ∃ v L, o = .returned v ∧ (∃ x2, QS x2 v U.heap L ∧ Safe Z EL U.vm U.heap x2) ∧ CHr Z EL s.vm s.heap U.vm U.heap ∧ ReturnedEndW s o U L k n) := by
  obtain ⟨fs, hr, hrun, hended, q1, q2, q3, q4⟩ := X.leaveW hS hk0 hv hlk
  subst eT
  have hA : CHr Z EL vm0 T.heap T.vm T.heap := CHv.at X hZ hEL hC.1
  exact ⟨_, _, hret fs hr, hrun, hended, _, _, rfl, ⟨x, hq, hA.safe hlt hsv⟩, hC.trans hA, q1, q2, q3, q4.mono hk hn⟩
theorem backOfSP {p : Program} {l : Launch} {e : Env} {R : Room} {s : State} {args : Array Value} {below : List Frame} {Z : State} {a0 : Array Value} {EL : List (String × Nat)} {h : Heap} {vm0 : Vm} {y : MethodName} {bytes : ByteArray} {maxL : Nat} {ret : Option FieldType} {rm : Room} {len W : Nat} {as' : Array Value} {va : Addr} {Q : Addr → Option Value → Heap → List Loc → Prop}
    (hM : MetFree l y (head1 [Cond.code y bytes maxL ret] rm) (fun a U => a = as' ∧ Z.Warmed39 U.vm ∧ U.heap = h ∧ CHv Z EL U.vm h ∧ Safe Z EL U.vm h va) (fun _ _ _ _ _ => True) (fun _ U o U' => ∃ v L, o = .returned v ∧ (∃ x2, Q x2 v U'.heap L ∧ Safe Z EL U'.vm U'.heap x2) ∧ CHr Z EL U.vm U.heap U'.vm U'.heap ∧ ReturnedEndW U o U' L rm.cells rm.slots))
    (hZ : Z.Warmed39 vm0) (wc : (Cond.code y bytes maxL ret).before a0 Z = true) (wz : (Cond.initialized y.cls).before a0 Z = true) (hf : rm.frames + 1 ≤ R.frames) (hl : W + (maxL + 11) + rm.locals ≤ R.locals) (hEL : EW Z a0 EL) (H : CHv Z EL vm0 h) (SV : Safe Z EL vm0 h va) (hlt : va < h.size) :
    BackS l R p e below (s.setVm vm0) args y len W (fun A a => a = as' ∧ A.U.heap = h ∧ A.cells + rm.cells ≤ R.cells ∧ A.slots + rm.slots ≤ R.slots)
      (fun A _ v B => ∃ L, (∃ x2, Q x2 v B.U.heap L ∧ Safe Z EL B.U.vm B.U.heap x2) ∧ B.locs = A.locs ++ L ∧ B.cells = A.cells + rm.cells ∧ B.slots = A.slots + rm.slots ∧ CHr Z EL vm0 h B.U.vm B.U.heap) :=
  BackS.of_freeW (bytes := bytes) (maxL := maxL) (ret := ret) (E := fun _ first o t L k n => k = rm.cells ∧ n = rm.slots ∧ (∃ v, o = .returned v ∧ ∃ x2, Q x2 v t.heap L ∧ Safe Z EL t.vm t.heap x2) ∧ CHr Z EL first.vm first.heap t.vm t.heap) hM hf hl
    (fun m meth c A a Y hp => have hU : Z.Warmed39 A.U.vm := wtrans (s := s.setVm vm0) hZ Y.warmed
      ⟨by show (Cond.and _ .tt).before a A.U = true; rw [Cond.before_and, mv hU wc]; rfl, mv hU wc, mv hU wz, hp.2.2.1, hp.2.2.2⟩)
    (fun m meth c A a g mk Y hp => ⟨hp.1, wtrans (s := s.setVm vm0) hZ Y.warmed, hp.2.1, (CHv.at Y hZ hEL H).1, (CHv.at Y hZ hEL H).safe hlt SV⟩) (fun _ _ _ _ _ _ _ _ _ => trivial)
    (fun _ _ _ _ ⟨v, L, h1, h2, h3, h4⟩ => ⟨L, _, _, h4, rfl, rfl, ⟨v, h1, h2⟩, h3⟩)
    (fun m meth c A a g mk v t L k n Y hp _ _ ⟨e1, e2, ⟨v', e3, e4⟩, e5⟩ => by
      cases e3; subst e1 e2
      refine ⟨L, e4, rfl, rfl, rfl, (CHv.at Y hZ hEL H).trans ?_⟩
      rw [← hp.2.1]; exact e5)
theorem ref_of_link {W : State} {a0 : Array Value} {own text : String} {index : Nat} {a : Addr} (w : (Cond.stringLink own index text).before a0 W = true) (hL : Lit W own index a) : (Cond.stringRef own index text).before a0 W = true := by
  have hL' : W.resolvedAt? own index = some (.string a) := hL
  simp only [Cond.before, Cond.holds, Cond.value] at w ⊢
  cases hc : W.vm.findClass own with
  | none => simp [hc] at w
  | some c =>
    simp only [hc, Option.map_some, hL', Bool.and_true] at w ⊢
    have q := Option.some.inj (beq_iff_eq.mp w)
    rw [Bool.and_eq_true] at q
    rw [q.1]; rfl
theorem safe_or {Z : State} {EL : List (String × Nat)} {vm : Vm} {h : Heap} {va x : Addr} (q : x = va ∨ h.size ≤ x) (SV : Safe Z EL vm h va) : Safe Z EL vm h x := q.elim (fun z => z ▸ SV) Safe.new
theorem ne_or {a va x m : Nat} (q : x = va ∨ m ≤ x) (n : a ≠ va) (lt : a < m) : a ≠ x := by omega
def hexL : List Int32 := [48, 49, 50, 51, 52, 53, 54, 55, 56, 57, 97, 98, 99, 100, 101, 102]
def hxd (d : Int32) : Int32 := hexL.getD d.toNatClampNeg 0
def hxAt (cv d : Int32) : Int32 := hxd ((cv >>> (d &&& 31)) &&& (15 : Int32))
def hx4 (cv : Int32) : List Int32 := [hxAt cv 12, hxAt cv 8, hxAt cv 4, hxAt cv 0]
theorem nib (x : Int32) : ∃ k : Fin 16, (x &&& (15 : Int32)) = Int32.ofNat k.val := by
  have h : (x &&& 15).toBitVec.toNat < 16 := by
    simp only [Int32.toBitVec_and, BitVec.toNat_and]
    exact Nat.lt_succ_of_le Nat.and_le_right
  refine ⟨⟨_, h⟩, ?_⟩
  apply Int32.toBitVec_inj.mp
  show _ = BitVec.ofNat 32 _
  rw [BitVec.ofNat_toNat]; simp
theorem hx_of {x : Int32} {k : Fin 16} (ek : (x &&& (15 : Int32)) = Int32.ofNat k.val) : hexL.getD k.val 0 = hxd (x &&& (15 : Int32)) := by
  unfold hxd; rw [ek, ofN_clamp (n := k.val) (by have := k.isLt; omega)]
theorem hex_b (k : Nat) : (¬ hexL.getD k 0 < 0 ∧ ¬ (65535 : Int32) < hexL.getD k 0) ∧ ¬ (255 : Int32) < hexL.getD k 0 := by
  have t : ∀ k : Fin 17, (¬ hexL.getD k.val 0 < 0 ∧ ¬ (65535 : Int32) < hexL.getD k.val 0) ∧ ¬ (255 : Int32) < hexL.getD k.val 0 := by decide +kernel
  by_cases q : k < 17
  · exact t ⟨k, q⟩
  · have hk : hexL[k]? = none := List.getElem?_eq_none (show hexL.length ≤ k from Nat.le_trans (by decide) (Nat.le_of_not_lt q))
    rw [List.getD_eq_getElem?_getD, hk]; decide
theorem hx_b (cv d : Int32) : ¬ (255 : Int32) < hxAt cv d := (hex_b _).2
theorem hexb : ∀ c ∈ hexL, ¬ c < 0 ∧ ¬ (255 : Int32) < c := by decide
abbrev is2 (c : Int32) : Prop := c = 34 ∨ c = 92
abbrev is1 (c : Int32) : Prop := ¬ c < 32 ∧ ¬ (126 : Int32) < c
def esc1 (c : Int32) : List Int32 := if is2 c then [92, c] else if is1 c then [c] else [92, 117] ++ hx4 c
theorem e2 {c : Int32} (q : is2 c) : esc1 c = [92, c] := if_pos q
theorem e1 {c : Int32} (q : ¬ is2 c) (r : is1 c) : esc1 c = [c] := (if_neg q).trans (if_pos r)
theorem e6 {c : Int32} (q : ¬ is2 c) (r : ¬ is1 c) : esc1 c = [92, 117] ++ hx4 c := (if_neg q).trans (if_neg r)
def escL : List Int32 → List Int32
  | [] => []
  | c :: r => esc1 c ++ escL r
theorem esc1_len (c : Int32) : (esc1 c).length ≤ 6 := by
  by_cases q : is2 c
  · rw [e2 q]; exact Nat.le_of_ble_eq_true rfl
  · by_cases r : is1 c
    · rw [e1 q r]; exact Nat.le_of_ble_eq_true rfl
    · rw [e6 q r]; exact Nat.le_of_ble_eq_true rfl
theorem esc_len : ∀ L : List Int32, (escL L).length ≤ 6 * L.length
  | [] => Nat.le_refl _
  | c :: r => by
    have a := esc_len r; have b := esc1_len c
    simp only [escL, List.length_append, List.length_cons]; omega
theorem esc_take (L : List Int32) (i : Nat) : (escL (L.take i)).length ≤ 6 * i := Nat.le_trans (esc_len _) (Nat.mul_le_mul_left 6 (by rw [List.length_take]; exact Nat.min_le_left _ _))
theorem esc_step : ∀ {L : List Int32} {i : Nat}, i < L.length → escL (L.take (i + 1)) = escL (L.take i) ++ esc1 (L.getD i 0)
  | [], _, h => absurd h (Nat.not_lt_zero _)
  | c :: r, 0, _ => by simp [escL]
  | c :: r, i + 1, h => by
    have q := esc_step (L := r) (i := i) (by simpa using h)
    simp only [List.take_succ_cons, escL, q, List.append_assoc, List.getD_cons_succ]
theorem esc_all {L : List Int32} {i : Nat} (h : L.length ≤ i) : L.take i = L := List.take_of_length_le h
theorem hx_bd (cv d : Int32) : ¬ hxAt cv d < 0 ∧ ¬ (255 : Int32) < hxAt cv d := ⟨(hex_b _).1.1, (hex_b _).2⟩
theorem esc1_bd (c : Int32) : ∀ x ∈ esc1 c, ¬ x < 0 ∧ ¬ (255 : Int32) < x := by
  by_cases q : is2 c
  · rw [e2 q]; rcases q with rfl | rfl <;> decide
  · by_cases r : is1 c
    · rw [e1 q r]; intro x hx; cases List.mem_singleton.mp hx
      have e0 : (0 : Int32).toInt = 0 := rfl
      have e3 : (32 : Int32).toInt = 32 := rfl
      have e4 : (126 : Int32).toInt = 126 := rfl
      have e5 : (255 : Int32).toInt = 255 := rfl
      obtain ⟨r1, r2⟩ := r
      rw [Int32.lt_iff_toInt_lt] at r1 r2
      refine ⟨fun z => ?_, fun z => ?_⟩ <;> rw [Int32.lt_iff_toInt_lt] at z <;> omega
    · rw [e6 q r]; intro x hx
      simp only [hx4, List.cons_append, List.nil_append, List.mem_cons, List.not_mem_nil, or_false] at hx
      rcases hx with rfl | rfl | rfl | rfl | rfl | rfl
      · decide
      · decide
      · exact hx_bd _ _
      · exact hx_bd _ _
      · exact hx_bd _ _
      · exact hx_bd _ _
theorem escL_bd : ∀ L : List Int32, ∀ x ∈ escL L, ¬ x < 0 ∧ ¬ (255 : Int32) < x
  | [], x, h => nomatch h
  | c :: r, x, h => (List.mem_append.mp h).elim (esc1_bd c x) (escL_bd r x)
theorem lt255 {c : Int32} (g : ¬ (126 : Int32) < c) : ¬ (255 : Int32) < c := fun z => g (by
  rw [Int32.lt_iff_toInt_lt] at z ⊢
  have e4 : (126 : Int32).toInt = 126 := rfl
  have e5 : (255 : Int32).toInt = 255 := rfl
  omega)
theorem getD_mid (ps es qs : List Int32) (j : Nat) : (ps ++ (es ++ qs)).getD (ps.length + j) 0 = (es ++ qs).getD j 0 := by
  simp only [List.getD_eq_getElem?_getD]
  rw [List.getElem?_append_right (by omega)]; simp
theorem and3 (x : Int32) : (x &&& (3 : Int32)) = 0 ∨ (x &&& (3 : Int32)) = 1 ∨ (x &&& (3 : Int32)) = 2 ∨ (x &&& (3 : Int32)) = 3 := by
  have h : (x &&& 3).toBitVec.toNat < 4 := by
    simp only [Int32.toBitVec_and, BitVec.toNat_and]
    exact Nat.lt_succ_of_le Nat.and_le_right
  have e : (x &&& 3) = Int32.ofNat (x &&& 3).toBitVec.toNat := by
    apply Int32.toBitVec_inj.mp
    show _ = BitVec.ofNat 32 _
    rw [BitVec.ofNat_toNat]; simp
  rw [e]
  have t : ∀ k : Fin 4, Int32.ofNat k.val = 0 ∨ Int32.ofNat k.val = 1 ∨ Int32.ofNat k.val = 2 ∨ Int32.ofNat k.val = 3 := by decide +kernel
  exact t ⟨_, h⟩
theorem c16_nil : ∀ c ∈ ([] : List Int32), ¬ c < 0 ∧ ¬ (65535 : Int32) < c := fun _ q => nomatch q
theorem c16_cons {c : Int32} {L : List Int32} (q : ¬ c < 0 ∧ ¬ (65535 : Int32) < c) (r : ∀ c ∈ L, ¬ c < 0 ∧ ¬ (65535 : Int32) < c) : ∀ x ∈ c :: L, ¬ x < 0 ∧ ¬ (65535 : Int32) < x := fun x z => (List.mem_cons.mp z).elim (fun u => u ▸ q) (r x)
theorem dhx : dxs prog_65_method_7_code [(0, .iconst 4, 1), (1, .iload_n 2, 1), (2, .iconst 1, 1), (3, .isub, 1), (4, .imul, 1), (5, .istore_n 3, 1), (6, .iload_n 3, 1), (7, .ifCond .lt 25, 3), (10, .aload_n 0, 1), (11, .ldc 122, 2), (13, .iload_n 1, 1), (14, .iload_n 3, 1), (15, .ishr, 1), (16, .bipush 15, 2), (18, .iand, 1), (19, .invokevirtual 108, 3), (22, .invokevirtual 28, 3), (25, .pop, 1), (26, .iinc 3 (-4), 3), (29, .goto (-23), 3), (32, .return_, 1)] = true := by decide +kernel
theorem pn_hexA : plainFor (⟨"com/example/ampersat/ampersat/text/Literals", "appendHex", "(Ljava/lang/StringBuilder;II)V"⟩ : MethodName) = true := plainFor_of_name (by first | (simp [plainName, overriddenIn]; done) | decide +kernel)
theorem ef_hexA (m : MethodId) (x0 : Addr) (x1 : Int32) (x2 : Int32) : entryFrame m #[(.ref x0), (.int x1), (.int x2)] 4 = mkF m 0 #[vR x0, vI x1, vI x2, .unset] [] := by first | (simp [entryFrame, mkF, argsToLocals, Value.category]; done) | rfl
def Q_hexA (Z : State) (hB : Heap) (sb va : Addr) (cap : Nat) (cs : List Int32) (cv : Int32) (fm : Value) (h0 : Heap) (n0 : Nat) (x2 : Addr) (v : Option Value) (h : Heap) (L : List Loc) : Prop := ∃ cap2, v = none ∧ Fr n0 L ∧ Ext hB h ∧ hB.size ≤ x2 ∧ Sc Z h sb x2 cap2 (cs ++ hx4 cv)
set_option maxRecDepth 65536 in
set_option maxHeartbeats 40000000 in
theorem rm_hexA (l : Launch) (Z : State) (a0 : Array Value) (hw : ∀ d ∈ tables_1, d.before a0 Z = true) (ws : List Jvm.Cond) (hB : Heap) (sb va : Addr) (cap : Nat) (cs : List Int32) (cv : Int32) (fm : Value) (h0 : Heap) (n0 : Nat) (Z0 : n0 ≤ h0.size) (ZB : n0 ≤ hB.size) (EB : Ext hB h0) (B0 : Bg Z hB fm) (hsb : hB.size ≤ sb) (hva : hB.size ≤ va) (B : Sc Z h0 sb va cap cs) (hfit : cs.length + 4 ≤ 20) :
    MetFree l mN45 (head1 (Jvm.Cond.code mN45 prog_65_method_7_code 4 none :: ws) rO32) (fun a U => a = #[(.ref sb), (.int cv), (.int (4 : Int32))] ∧ Z.Warmed39 U.vm ∧ U.heap = h0 ∧ CHv Z EL U.vm h0 ∧ Safe Z EL U.vm h0 va) (fun _ _ _ _ _ => True) (fun _ U o U' => ∃ v L, o = .returned v ∧ (∃ x2, Q_hexA Z hB sb va cap cs cv fm h0 n0 x2 v U'.heap L ∧ Safe Z EL U'.vm U'.heap x2) ∧ CHr Z EL U.vm U.heap U'.vm U'.heap ∧ ReturnedEndW U o U' L rO32.cells rO32.slots) := by
  refine MetFree.of_bodySF pn_hexA hisR ?_
  intro p e s m args below meth c s₁ Bd hml0 hP hK
  obtain ⟨rfl, hZ, hh, H0, SV0⟩ := hP
  have hx := Bd.exec
  have hby := Bd.bytes
  have dq := @hb _ _ hby
  have hml : c.maxLocals = 4 := hml0
  have hown : s.vm.findClass "com/example/ampersat/ampersat/text/Literals" = some m.cls := findClass_of_methodNamed Bd.named
  have X0 : Stand p l e rO32 (s.setVm s.vm) m #[(.ref sb), (.int cv), (.int (4 : Int32))] below meth c s₁ [] 0 0 := Stand.of_body Bd
  have e0 : s₁.heap = h0 := by rw [← hh, Bd.state]; rfl
  have N0 := Fr.nil n0
  have hS0 : s.Since s.vm 0 := (State.WarmedH.refl s).since _
  have R0 : CHr Z EL s.vm s.heap s.vm h0 := by rw [hh]; exact CHr.refl H0
  have hZ : Z.Warmed39 (s.setVm s.vm).vm := hZ
  have hown : (s.setVm s.vm).vm.findClass "com/example/ampersat/ampersat/text/Literals" = some m.cls := hown
  have hEL := ew hw
  have wS : ∀ d ∈ Bundle.stringAtoms, d.before a0 Z = true := fun d hd => hw d (ws_lit d hd)
  show Rch p e below s₁ _ _
  refine Rch.cast (ef_hexA m sb cv (4 : Int32)) ?_
  show Rch p e below s₁ (mkF m 0 #[vR sb, vI cv, vI (4 : Int32), .unset] []) _
  refine R1 (XS.iconst X0.here hx rfl (dq (dg dhx 0 rfl)) ) ?_
  refine R1 (XS.iloadN X0.here hx rfl (dq (dg dhx 1 rfl)) rfl) ?_
  refine R1 (XS.iconst X0.here hx rfl (dq (dg dhx 2 rfl)) ) ?_
  refine R1 (XS.isub X0.here hx rfl (dq (dg dhx 3 rfl)) rfl) ?_
  refine R1 (XS.imul X0.here hx rfl (dq (dg dhx 4 rfl)) rfl) ?_
  show Rch p e below s₁ (mkF m 5 #[vR sb, vI cv, vI (4 : Int32), .unset] [(.int ((4 : Int32) * ((4 : Int32) - (1 : Int32))))]) _
  rw [show ((4 : Int32) * ((4 : Int32) - (1 : Int32))) = (12 : Int32) from by decide]
  show Rch p e below s₁ (mkF m 5 #[vR sb, vI cv, vI (4 : Int32), .unset] [(.int (12 : Int32))]) _
  refine R1 (XS.istoreN X0.here hx rfl (dq (dg dhx 5 rfl)) rfl (l' := #[vR sb, vI cv, vI (4 : Int32), vI (12 : Int32)]) rfl) ?_
  refine R1 (XS.iloadN X0.here hx rfl (dq (dg dhx 6 rfl)) rfl) ?_
  refine R1 (XS.ifNo X0.here hx rfl (dq (dg dhx 7 rfl)) rfl (by decide : ifCond.holds .lt (12 : Int32) = false)) ?_
  refine R1 (XS.aloadN X0.here hx rfl (dq (dg dhx 8 rfl)) rfl rfl) ?_
  show Rch p e below s₁ (mkF m 11 #[vR sb, vI cv, vI (4 : Int32), vI (12 : Int32)] [(.ref sb)]) _
  obtain ⟨a225, T225, h225, kk225, b225, kb225, X225, e225, E225, hS225, hk225, hZ225, hown225, EX225, CO225, VA225, AR225, la225, lb225, CR225, LT225, SF225, st225⟩ := ldcCH X0 hx hZ hown (wq hw 195 rfl) wS e0 hS0 (Nat.zero_le _) hEL (by simp [EL]) R0.1 (vs := ([48, 49, 50, 51, 52, 53, 54, 55, 56, 57, 97, 98, 99, 100, 101, 102] : List Int32).map (fun c => Value.int c.toInt8.toInt32)) (z := (16 : Int32)) ⟨by decide, by decide⟩ (by decide) rfl (g := (mkF m 11 #[vR sb, vI cv, vI (4 : Int32), vI (12 : Int32)] [(.ref sb)])) rfl (dq (dg dhx 9 rfl)) (n := 64) (by decide) (by decide) (by decide) (by decide)
  have Ex226 : Ext hB h225 := EB.tr E225
  have R225 := R0.trans CR225
  refine R0_ st225 ?_
  show Rch p e below T225 (mkF m 13 #[vR sb, vI cv, vI (4 : Int32), vI (12 : Int32)] [(.ref a225), (.ref sb)]) _
  have SV225 := CR225.safe (exa_of B.2.1.1) SV0
  have LS225 : Lt Z h225 a225 b225 hexL := ⟨EX225, VA225, CO225, kb225, by unfold byt; rw [List.map_map]; exact AR225⟩
  have B_ := B.ext E225
  have nS := SF225 sb (Safe.exa (State.Warmed39.alike hZ225) B_.1.1 (by decide) (by decide))
  have nV := SF225 va SV225
  refine R1 (XS.iloadN X225.here hx rfl (dq (dg dhx 10 rfl)) rfl) ?_
  refine R1 (XS.iloadN X225.here hx rfl (dq (dg dhx 11 rfl)) rfl) ?_
  refine R1 (XT.ishr X225.here hx rfl (dq (dg dhx 12 rfl)) rfl) ?_
  refine R1 (XS.bipush X225.here hx rfl (dq (dg dhx 13 rfl)) ) ?_
  refine R1 (XS.iand X225.here hx rfl (dq (dg dhx 14 rfl)) rfl) ?_
  show Rch p e below T225 (mkF m 19 #[vR sb, vI cv, vI (4 : Int32), vI (12 : Int32)] [(.int ((cv >>> ((12 : Int32) &&& 31)) &&& (15 : Int32))), (.ref a225), (.ref sb)]) _
  obtain ⟨kd0, ek0⟩ := nib (cv >>> ((12 : Int32) &&& 31))
  rw [ek0]
  show Rch p e below T225 (mkF m 19 #[vR sb, vI cv, vI (4 : Int32), vI (12 : Int32)] [(.int (Int32.ofNat kd0.val)), (.ref a225), (.ref sb)]) _
  obtain ⟨cq228, kq228, q228a, q228b, q228c⟩ := isOf hZ225 e225 LS225.1
  obtain ⟨_, _, ⟨T228, L228, k228, n228⟩, -, X228, ⟨Lc228, hQ228, l228, y228, z228⟩, st228⟩ := X225.virtualBack hx (y := mN7) (z := mN7) hown225 (mw hZ225 hw 160 rfl) (mw hZ225 hw 130 rfl) (notFace_of_selects (args := #[]) (mw hZ225 hw 132 rfl)) (mw hZ225 hw 132 rfl) (mw hZ225 hw 131 rfl) (by decide) (chS (W := 1) hZ225 hw (LS225.strA hexb) (B0.ext Ex226) kd0.val (show kd0.val < hexL.length from kd0.isLt) (by decide) n0 (Nat.le_trans ZB Ex226.1) (by decide) (by decide)) q228a q228c (g := (mkF m 19 #[vR sb, vI cv, vI (4 : Int32), vI (12 : Int32)] [(.int (Int32.ofNat kd0.val)), (.ref a225), (.ref sb)])) rfl (by rw [hml]; rfl) (Steps.refl _) (argsL := [(.int (Int32.ofNat kd0.val))]) (rest := [(.ref sb)]) (lenOf pd_29 rfl) rfl (w0 rfl) (dq (dg dhx 15 rfl)) (fun _ _ => ⟨rfl, e225, (by decide : 2 + 0 ≤ _), (by decide : 68 + 0 ≤ _)⟩)
  dsimp only [Pt.U, Pt.locs, Pt.cells, Pt.slots] at X228 l228 y228 z228 st228 hQ228
  subst l228 y228 z228
  obtain ⟨rfl, Nq228, e228⟩ := hQ228
  have N228 := Fr.app N0 Nq228
  refine R2 st228 ?_
  show Rch p e below T228 (mkF m 22 #[vR sb, vI cv, vI (4 : Int32), vI (12 : Int32)] [(.int (hexL.getD kd0.val 0)), (.ref sb)]) _
  rw [(show hexL.getD kd0.val 0 = hxAt cv (12 : Int32) from hx_of ek0)]
  show Rch p e below T228 (mkF m 22 #[vR sb, vI cv, vI (4 : Int32), vI (12 : Int32)] [(.int (hxAt cv (12 : Int32))), (.ref sb)]) _
  have HS229 : ∀ x ∈ [sb, va], Safe Z EL T225.vm h225 x := allS (Safe.exa (State.Warmed39.alike hZ225) B_.1.1 (by decide) (by decide)) (allS SV225 all0)
  obtain ⟨cq230, kq230, q230a, q230b, q230c⟩ := isOf hZ225 e228 B_.1.1
  obtain ⟨_, _, ⟨T230, L230, k230, n230⟩, -, X230, ⟨Lc230, hQ230, l230, y230, z230⟩, st230⟩ := X228.virtualBack hx (y := mN38) (z := mN38) hown225 (mw hZ225 hw 60 rfl) (mw hZ225 hw 61 rfl) (notFace_of_selects (args := #[]) (mw hZ225 hw 63 rfl)) (mw hZ225 hw 63 rfl) (mw hZ225 hw 62 rfl) (by decide) (backOf (W := 0) (rm_sbAppC l Z a0 hw [] sb va cap (cs) (hxAt cv (12 : Int32)) h225 n0 (Nat.le_trans ZB Ex226.1) B_ (Nat.le_trans ZB hsb) (Nat.le_trans ZB hva) (by first | omega | (simp only [List.length_append, List.length_cons, List.length_nil]; omega)) (hx_b _ _) (B0.ext Ex226).1) hZ225 (wq hw 64 rfl) (wq hw 33 rfl) (by decide) (by decide)) q230a q230c (g := (mkF m 22 #[vR sb, vI cv, vI (4 : Int32), vI (12 : Int32)] [(.int (hxAt cv (12 : Int32))), (.ref sb)])) rfl (by rw [hml]; rfl) (Steps.refl _) (argsL := [(.int (hxAt cv (12 : Int32)))]) (rest := []) (lenOf pd_30 rfl) rfl (w0 rfl) (dq (dg dhx 16 rfl)) (fun _ _ => ⟨rfl, e228, (by decide : 2 + 1 ≤ _), (by decide : 68 + 40 ≤ _)⟩)
  dsimp only [Pt.U, Pt.locs, Pt.cells, Pt.slots] at X230 l230 y230 z230 st230 hQ230
  subst l230 y230 z230
  obtain ⟨va230, cp230, rfl, Nq230, K230, or230, B230⟩ := hQ230
  have N230 := Fr.app N228 Nq230
  have Ex231 : Ext hB T230.heap := extKeep Ex226 K230 (allS hsb (allS hva all0))
  refine R2 st230 ?_
  show Rch p e below T230 (mkF m 25 #[vR sb, vI cv, vI (4 : Int32), vI (12 : Int32)] [(.ref sb)]) _
  have le232 : hB.size ≤ va230 := le_or (k := 0) or230 hva Ex226.1
  have R230 := R225.trans (CHr.keep K230 HS229 R225.1)
  have hk230 := Nat.le_trans hk225 K230.1
  have SV230 : Safe Z EL T225.vm T230.heap va230 := Safe.keep K230 HS229 R225.1 (safe_or or230 SV225)
  have LS230 : Lt Z T230.heap a225 b225 hexL := LS225.keep K230 (ninS (Ne.symm nS.1) (ninS (Ne.symm nV.1) nin0)) (ninS (Ne.symm nS.2) (ninS (Ne.symm nV.2) nin0))
  have nA230 := ne_or or230 (Ne.symm nV.1) (exa_of LS225.1)
  have nB230 := ne_or or230 (Ne.symm nV.2) (by obtain ⟨kk, q⟩ := LS225.2.2.2; exact q.lt)
  refine R1 (XT.pop X230.here hx rfl (dq (dg dhx 17 rfl)) rfl rfl) ?_
  refine R1 (XS.iinc X230.here hx rfl (dq (dg dhx 18 rfl)) rfl (l' := #[vR sb, vI cv, vI (4 : Int32), vI (8 : Int32)]) rfl) ?_
  refine R1 (XS.goto X230.here hx rfl (pc0 := 29) (pc' := 6) rfl (dq (dg dhx 19 rfl)) (by decide) (by decide)) ?_
  refine R1 (XS.iloadN X230.here hx rfl (dq (dg dhx 6 rfl)) rfl) ?_
  refine R1 (XS.ifNo X230.here hx rfl (dq (dg dhx 7 rfl)) rfl (by decide : ifCond.holds .lt (8 : Int32) = false)) ?_
  refine R1 (XS.aloadN X230.here hx rfl (dq (dg dhx 8 rfl)) rfl rfl) ?_
  show Rch p e below T230 (mkF m 11 #[vR sb, vI cv, vI (4 : Int32), vI (8 : Int32)] [(.ref sb)]) _
  refine R0_ (ldcR (Z := s.setVm T225.vm) (a0 := a0) X230 hx (State.Warmed39.refl _) hown225 (ref_of_link (mvS hZ225 (wq hw 195 rfl)) LT225) LT225 (g := (mkF m 11 #[vR sb, vI cv, vI (4 : Int32), vI (8 : Int32)] [(.ref sb)])) rfl (dq (dg dhx 9 rfl))) ?_
  show Rch p e below T230 (mkF m 13 #[vR sb, vI cv, vI (4 : Int32), vI (8 : Int32)] [(.ref a225), (.ref sb)]) _
  refine R1 (XS.iloadN X230.here hx rfl (dq (dg dhx 10 rfl)) rfl) ?_
  refine R1 (XS.iloadN X230.here hx rfl (dq (dg dhx 11 rfl)) rfl) ?_
  refine R1 (XT.ishr X230.here hx rfl (dq (dg dhx 12 rfl)) rfl) ?_
  refine R1 (XS.bipush X230.here hx rfl (dq (dg dhx 13 rfl)) ) ?_
  refine R1 (XS.iand X230.here hx rfl (dq (dg dhx 14 rfl)) rfl) ?_
  show Rch p e below T230 (mkF m 19 #[vR sb, vI cv, vI (4 : Int32), vI (8 : Int32)] [(.int ((cv >>> ((8 : Int32) &&& 31)) &&& (15 : Int32))), (.ref a225), (.ref sb)]) _
  obtain ⟨kd1, ek1⟩ := nib (cv >>> ((8 : Int32) &&& 31))
  rw [ek1]
  show Rch p e below T230 (mkF m 19 #[vR sb, vI cv, vI (4 : Int32), vI (8 : Int32)] [(.int (Int32.ofNat kd1.val)), (.ref a225), (.ref sb)]) _
  obtain ⟨cq233, kq233, q233a, q233b, q233c⟩ := isOf hZ225 rfl LS230.1
  obtain ⟨_, _, ⟨T233, L233, k233, n233⟩, -, X233, ⟨Lc233, hQ233, l233, y233, z233⟩, st233⟩ := X230.virtualBack hx (y := mN7) (z := mN7) hown225 (mw hZ225 hw 160 rfl) (mw hZ225 hw 130 rfl) (notFace_of_selects (args := #[]) (mw hZ225 hw 132 rfl)) (mw hZ225 hw 132 rfl) (mw hZ225 hw 131 rfl) (by decide) (chS (W := 1) hZ225 hw (LS230.strA hexb) (B0.ext Ex231) kd1.val (show kd1.val < hexL.length from kd1.isLt) (by decide) n0 (Nat.le_trans ZB Ex231.1) (by decide) (by decide)) q233a q233c (g := (mkF m 19 #[vR sb, vI cv, vI (4 : Int32), vI (8 : Int32)] [(.int (Int32.ofNat kd1.val)), (.ref a225), (.ref sb)])) rfl (by rw [hml]; rfl) (Steps.refl _) (argsL := [(.int (Int32.ofNat kd1.val))]) (rest := [(.ref sb)]) (lenOf pd_29 rfl) rfl (w0 rfl) (dq (dg dhx 15 rfl)) (fun _ _ => ⟨rfl, rfl, (by decide : 3 + 0 ≤ _), (by decide : 108 + 0 ≤ _)⟩)
  dsimp only [Pt.U, Pt.locs, Pt.cells, Pt.slots] at X233 l233 y233 z233 st233 hQ233
  subst l233 y233 z233
  obtain ⟨rfl, Nq233, e233⟩ := hQ233
  have N233 := Fr.app N230 Nq233
  refine R2 st233 ?_
  show Rch p e below T233 (mkF m 22 #[vR sb, vI cv, vI (4 : Int32), vI (8 : Int32)] [(.int (hexL.getD kd1.val 0)), (.ref sb)]) _
  rw [(show hexL.getD kd1.val 0 = hxAt cv (8 : Int32) from hx_of ek1)]
  show Rch p e below T233 (mkF m 22 #[vR sb, vI cv, vI (4 : Int32), vI (8 : Int32)] [(.int (hxAt cv (8 : Int32))), (.ref sb)]) _
  have HS234 : ∀ x ∈ [sb, va230], Safe Z EL T225.vm T230.heap x := allS (Safe.exa (State.Warmed39.alike hZ225) B230.1.1 (by decide) (by decide)) (allS SV230 all0)
  obtain ⟨cq235, kq235, q235a, q235b, q235c⟩ := isOf hZ225 e233 B230.1.1
  obtain ⟨_, _, ⟨T235, L235, k235, n235⟩, -, X235, ⟨Lc235, hQ235, l235, y235, z235⟩, st235⟩ := X233.virtualBack hx (y := mN38) (z := mN38) hown225 (mw hZ225 hw 60 rfl) (mw hZ225 hw 61 rfl) (notFace_of_selects (args := #[]) (mw hZ225 hw 63 rfl)) (mw hZ225 hw 63 rfl) (mw hZ225 hw 62 rfl) (by decide) (backOf (W := 0) (rm_sbAppC l Z a0 hw [] sb va230 cp230 (cs ++ [(hxAt cv (12 : Int32))]) (hxAt cv (8 : Int32)) T230.heap n0 (Nat.le_trans ZB Ex231.1) B230 (Nat.le_trans ZB hsb) (Nat.le_trans ZB le232) (by first | omega | (simp only [List.length_append, List.length_cons, List.length_nil]; omega)) (hx_b _ _) (B0.ext Ex231).1) hZ225 (wq hw 64 rfl) (wq hw 33 rfl) (by decide) (by decide)) q235a q235c (g := (mkF m 22 #[vR sb, vI cv, vI (4 : Int32), vI (8 : Int32)] [(.int (hxAt cv (8 : Int32))), (.ref sb)])) rfl (by rw [hml]; rfl) (Steps.refl _) (argsL := [(.int (hxAt cv (8 : Int32)))]) (rest := []) (lenOf pd_30 rfl) rfl (w0 rfl) (dq (dg dhx 16 rfl)) (fun _ _ => ⟨rfl, e233, (by decide : 3 + 1 ≤ _), (by decide : 108 + 40 ≤ _)⟩)
  dsimp only [Pt.U, Pt.locs, Pt.cells, Pt.slots] at X235 l235 y235 z235 st235 hQ235
  subst l235 y235 z235
  obtain ⟨va235, cp235, rfl, Nq235, K235, or235, B235⟩ := hQ235
  have N235 := Fr.app N233 Nq235
  have Ex236 : Ext hB T235.heap := extKeep Ex231 K235 (allS hsb (allS le232 all0))
  refine R2 st235 ?_
  show Rch p e below T235 (mkF m 25 #[vR sb, vI cv, vI (4 : Int32), vI (8 : Int32)] [(.ref sb)]) _
  have le237 : hB.size ≤ va235 := le_or (k := 0) or235 le232 Ex231.1
  have R235 := R230.trans (CHr.keep K235 HS234 R230.1)
  have hk235 := Nat.le_trans hk230 K235.1
  have SV235 : Safe Z EL T225.vm T235.heap va235 := Safe.keep K235 HS234 R230.1 (safe_or or235 SV230)
  have LS235 : Lt Z T235.heap a225 b225 hexL := LS230.keep K235 (ninS (Ne.symm nS.1) (ninS nA230 nin0)) (ninS (Ne.symm nS.2) (ninS nB230 nin0))
  have nA235 := ne_or or235 nA230 (exa_of LS230.1)
  have nB235 := ne_or or235 nB230 (by obtain ⟨kk, q⟩ := LS230.2.2.2; exact q.lt)
  refine R1 (XT.pop X235.here hx rfl (dq (dg dhx 17 rfl)) rfl rfl) ?_
  refine R1 (XS.iinc X235.here hx rfl (dq (dg dhx 18 rfl)) rfl (l' := #[vR sb, vI cv, vI (4 : Int32), vI (4 : Int32)]) rfl) ?_
  refine R1 (XS.goto X235.here hx rfl (pc0 := 29) (pc' := 6) rfl (dq (dg dhx 19 rfl)) (by decide) (by decide)) ?_
  refine R1 (XS.iloadN X235.here hx rfl (dq (dg dhx 6 rfl)) rfl) ?_
  refine R1 (XS.ifNo X235.here hx rfl (dq (dg dhx 7 rfl)) rfl (by decide : ifCond.holds .lt (4 : Int32) = false)) ?_
  refine R1 (XS.aloadN X235.here hx rfl (dq (dg dhx 8 rfl)) rfl rfl) ?_
  show Rch p e below T235 (mkF m 11 #[vR sb, vI cv, vI (4 : Int32), vI (4 : Int32)] [(.ref sb)]) _
  refine R0_ (ldcR (Z := s.setVm T225.vm) (a0 := a0) X235 hx (State.Warmed39.refl _) hown225 (ref_of_link (mvS hZ225 (wq hw 195 rfl)) LT225) LT225 (g := (mkF m 11 #[vR sb, vI cv, vI (4 : Int32), vI (4 : Int32)] [(.ref sb)])) rfl (dq (dg dhx 9 rfl))) ?_
  show Rch p e below T235 (mkF m 13 #[vR sb, vI cv, vI (4 : Int32), vI (4 : Int32)] [(.ref a225), (.ref sb)]) _
  refine R1 (XS.iloadN X235.here hx rfl (dq (dg dhx 10 rfl)) rfl) ?_
  refine R1 (XS.iloadN X235.here hx rfl (dq (dg dhx 11 rfl)) rfl) ?_
  refine R1 (XT.ishr X235.here hx rfl (dq (dg dhx 12 rfl)) rfl) ?_
  refine R1 (XS.bipush X235.here hx rfl (dq (dg dhx 13 rfl)) ) ?_
  refine R1 (XS.iand X235.here hx rfl (dq (dg dhx 14 rfl)) rfl) ?_
  show Rch p e below T235 (mkF m 19 #[vR sb, vI cv, vI (4 : Int32), vI (4 : Int32)] [(.int ((cv >>> ((4 : Int32) &&& 31)) &&& (15 : Int32))), (.ref a225), (.ref sb)]) _
  obtain ⟨kd2, ek2⟩ := nib (cv >>> ((4 : Int32) &&& 31))
  rw [ek2]
  show Rch p e below T235 (mkF m 19 #[vR sb, vI cv, vI (4 : Int32), vI (4 : Int32)] [(.int (Int32.ofNat kd2.val)), (.ref a225), (.ref sb)]) _
  obtain ⟨cq238, kq238, q238a, q238b, q238c⟩ := isOf hZ225 rfl LS235.1
  obtain ⟨_, _, ⟨T238, L238, k238, n238⟩, -, X238, ⟨Lc238, hQ238, l238, y238, z238⟩, st238⟩ := X235.virtualBack hx (y := mN7) (z := mN7) hown225 (mw hZ225 hw 160 rfl) (mw hZ225 hw 130 rfl) (notFace_of_selects (args := #[]) (mw hZ225 hw 132 rfl)) (mw hZ225 hw 132 rfl) (mw hZ225 hw 131 rfl) (by decide) (chS (W := 1) hZ225 hw (LS235.strA hexb) (B0.ext Ex236) kd2.val (show kd2.val < hexL.length from kd2.isLt) (by decide) n0 (Nat.le_trans ZB Ex236.1) (by decide) (by decide)) q238a q238c (g := (mkF m 19 #[vR sb, vI cv, vI (4 : Int32), vI (4 : Int32)] [(.int (Int32.ofNat kd2.val)), (.ref a225), (.ref sb)])) rfl (by rw [hml]; rfl) (Steps.refl _) (argsL := [(.int (Int32.ofNat kd2.val))]) (rest := [(.ref sb)]) (lenOf pd_29 rfl) rfl (w0 rfl) (dq (dg dhx 15 rfl)) (fun _ _ => ⟨rfl, rfl, (by decide : 4 + 0 ≤ _), (by decide : 148 + 0 ≤ _)⟩)
  dsimp only [Pt.U, Pt.locs, Pt.cells, Pt.slots] at X238 l238 y238 z238 st238 hQ238
  subst l238 y238 z238
  obtain ⟨rfl, Nq238, e238⟩ := hQ238
  have N238 := Fr.app N235 Nq238
  refine R2 st238 ?_
  show Rch p e below T238 (mkF m 22 #[vR sb, vI cv, vI (4 : Int32), vI (4 : Int32)] [(.int (hexL.getD kd2.val 0)), (.ref sb)]) _
  rw [(show hexL.getD kd2.val 0 = hxAt cv (4 : Int32) from hx_of ek2)]
  show Rch p e below T238 (mkF m 22 #[vR sb, vI cv, vI (4 : Int32), vI (4 : Int32)] [(.int (hxAt cv (4 : Int32))), (.ref sb)]) _
  have HS239 : ∀ x ∈ [sb, va235], Safe Z EL T225.vm T235.heap x := allS (Safe.exa (State.Warmed39.alike hZ225) B235.1.1 (by decide) (by decide)) (allS SV235 all0)
  obtain ⟨cq240, kq240, q240a, q240b, q240c⟩ := isOf hZ225 e238 B235.1.1
  obtain ⟨_, _, ⟨T240, L240, k240, n240⟩, -, X240, ⟨Lc240, hQ240, l240, y240, z240⟩, st240⟩ := X238.virtualBack hx (y := mN38) (z := mN38) hown225 (mw hZ225 hw 60 rfl) (mw hZ225 hw 61 rfl) (notFace_of_selects (args := #[]) (mw hZ225 hw 63 rfl)) (mw hZ225 hw 63 rfl) (mw hZ225 hw 62 rfl) (by decide) (backOf (W := 0) (rm_sbAppC l Z a0 hw [] sb va235 cp235 (cs ++ [(hxAt cv (12 : Int32))] ++ [(hxAt cv (8 : Int32))]) (hxAt cv (4 : Int32)) T235.heap n0 (Nat.le_trans ZB Ex236.1) B235 (Nat.le_trans ZB hsb) (Nat.le_trans ZB le237) (by first | omega | (simp only [List.length_append, List.length_cons, List.length_nil]; omega)) (hx_b _ _) (B0.ext Ex236).1) hZ225 (wq hw 64 rfl) (wq hw 33 rfl) (by decide) (by decide)) q240a q240c (g := (mkF m 22 #[vR sb, vI cv, vI (4 : Int32), vI (4 : Int32)] [(.int (hxAt cv (4 : Int32))), (.ref sb)])) rfl (by rw [hml]; rfl) (Steps.refl _) (argsL := [(.int (hxAt cv (4 : Int32)))]) (rest := []) (lenOf pd_30 rfl) rfl (w0 rfl) (dq (dg dhx 16 rfl)) (fun _ _ => ⟨rfl, e238, (by decide : 4 + 1 ≤ _), (by decide : 148 + 40 ≤ _)⟩)
  dsimp only [Pt.U, Pt.locs, Pt.cells, Pt.slots] at X240 l240 y240 z240 st240 hQ240
  subst l240 y240 z240
  obtain ⟨va240, cp240, rfl, Nq240, K240, or240, B240⟩ := hQ240
  have N240 := Fr.app N238 Nq240
  have Ex241 : Ext hB T240.heap := extKeep Ex236 K240 (allS hsb (allS le237 all0))
  refine R2 st240 ?_
  show Rch p e below T240 (mkF m 25 #[vR sb, vI cv, vI (4 : Int32), vI (4 : Int32)] [(.ref sb)]) _
  have le242 : hB.size ≤ va240 := le_or (k := 0) or240 le237 Ex236.1
  have R240 := R235.trans (CHr.keep K240 HS239 R235.1)
  have hk240 := Nat.le_trans hk235 K240.1
  have SV240 : Safe Z EL T225.vm T240.heap va240 := Safe.keep K240 HS239 R235.1 (safe_or or240 SV235)
  have LS240 : Lt Z T240.heap a225 b225 hexL := LS235.keep K240 (ninS (Ne.symm nS.1) (ninS nA235 nin0)) (ninS (Ne.symm nS.2) (ninS nB235 nin0))
  have nA240 := ne_or or240 nA235 (exa_of LS235.1)
  have nB240 := ne_or or240 nB235 (by obtain ⟨kk, q⟩ := LS235.2.2.2; exact q.lt)
  refine R1 (XT.pop X240.here hx rfl (dq (dg dhx 17 rfl)) rfl rfl) ?_
  refine R1 (XS.iinc X240.here hx rfl (dq (dg dhx 18 rfl)) rfl (l' := #[vR sb, vI cv, vI (4 : Int32), vI (0 : Int32)]) rfl) ?_
  refine R1 (XS.goto X240.here hx rfl (pc0 := 29) (pc' := 6) rfl (dq (dg dhx 19 rfl)) (by decide) (by decide)) ?_
  refine R1 (XS.iloadN X240.here hx rfl (dq (dg dhx 6 rfl)) rfl) ?_
  refine R1 (XS.ifNo X240.here hx rfl (dq (dg dhx 7 rfl)) rfl (by decide : ifCond.holds .lt (0 : Int32) = false)) ?_
  refine R1 (XS.aloadN X240.here hx rfl (dq (dg dhx 8 rfl)) rfl rfl) ?_
  show Rch p e below T240 (mkF m 11 #[vR sb, vI cv, vI (4 : Int32), vI (0 : Int32)] [(.ref sb)]) _
  refine R0_ (ldcR (Z := s.setVm T225.vm) (a0 := a0) X240 hx (State.Warmed39.refl _) hown225 (ref_of_link (mvS hZ225 (wq hw 195 rfl)) LT225) LT225 (g := (mkF m 11 #[vR sb, vI cv, vI (4 : Int32), vI (0 : Int32)] [(.ref sb)])) rfl (dq (dg dhx 9 rfl))) ?_
  show Rch p e below T240 (mkF m 13 #[vR sb, vI cv, vI (4 : Int32), vI (0 : Int32)] [(.ref a225), (.ref sb)]) _
  refine R1 (XS.iloadN X240.here hx rfl (dq (dg dhx 10 rfl)) rfl) ?_
  refine R1 (XS.iloadN X240.here hx rfl (dq (dg dhx 11 rfl)) rfl) ?_
  refine R1 (XT.ishr X240.here hx rfl (dq (dg dhx 12 rfl)) rfl) ?_
  refine R1 (XS.bipush X240.here hx rfl (dq (dg dhx 13 rfl)) ) ?_
  refine R1 (XS.iand X240.here hx rfl (dq (dg dhx 14 rfl)) rfl) ?_
  show Rch p e below T240 (mkF m 19 #[vR sb, vI cv, vI (4 : Int32), vI (0 : Int32)] [(.int ((cv >>> ((0 : Int32) &&& 31)) &&& (15 : Int32))), (.ref a225), (.ref sb)]) _
  obtain ⟨kd3, ek3⟩ := nib (cv >>> ((0 : Int32) &&& 31))
  rw [ek3]
  show Rch p e below T240 (mkF m 19 #[vR sb, vI cv, vI (4 : Int32), vI (0 : Int32)] [(.int (Int32.ofNat kd3.val)), (.ref a225), (.ref sb)]) _
  obtain ⟨cq243, kq243, q243a, q243b, q243c⟩ := isOf hZ225 rfl LS240.1
  obtain ⟨_, _, ⟨T243, L243, k243, n243⟩, -, X243, ⟨Lc243, hQ243, l243, y243, z243⟩, st243⟩ := X240.virtualBack hx (y := mN7) (z := mN7) hown225 (mw hZ225 hw 160 rfl) (mw hZ225 hw 130 rfl) (notFace_of_selects (args := #[]) (mw hZ225 hw 132 rfl)) (mw hZ225 hw 132 rfl) (mw hZ225 hw 131 rfl) (by decide) (chS (W := 1) hZ225 hw (LS240.strA hexb) (B0.ext Ex241) kd3.val (show kd3.val < hexL.length from kd3.isLt) (by decide) n0 (Nat.le_trans ZB Ex241.1) (by decide) (by decide)) q243a q243c (g := (mkF m 19 #[vR sb, vI cv, vI (4 : Int32), vI (0 : Int32)] [(.int (Int32.ofNat kd3.val)), (.ref a225), (.ref sb)])) rfl (by rw [hml]; rfl) (Steps.refl _) (argsL := [(.int (Int32.ofNat kd3.val))]) (rest := [(.ref sb)]) (lenOf pd_29 rfl) rfl (w0 rfl) (dq (dg dhx 15 rfl)) (fun _ _ => ⟨rfl, rfl, (by decide : 5 + 0 ≤ _), (by decide : 188 + 0 ≤ _)⟩)
  dsimp only [Pt.U, Pt.locs, Pt.cells, Pt.slots] at X243 l243 y243 z243 st243 hQ243
  subst l243 y243 z243
  obtain ⟨rfl, Nq243, e243⟩ := hQ243
  have N243 := Fr.app N240 Nq243
  refine R2 st243 ?_
  show Rch p e below T243 (mkF m 22 #[vR sb, vI cv, vI (4 : Int32), vI (0 : Int32)] [(.int (hexL.getD kd3.val 0)), (.ref sb)]) _
  rw [(show hexL.getD kd3.val 0 = hxAt cv (0 : Int32) from hx_of ek3)]
  show Rch p e below T243 (mkF m 22 #[vR sb, vI cv, vI (4 : Int32), vI (0 : Int32)] [(.int (hxAt cv (0 : Int32))), (.ref sb)]) _
  have HS244 : ∀ x ∈ [sb, va240], Safe Z EL T225.vm T240.heap x := allS (Safe.exa (State.Warmed39.alike hZ225) B240.1.1 (by decide) (by decide)) (allS SV240 all0)
  obtain ⟨cq245, kq245, q245a, q245b, q245c⟩ := isOf hZ225 e243 B240.1.1
  obtain ⟨_, _, ⟨T245, L245, k245, n245⟩, -, X245, ⟨Lc245, hQ245, l245, y245, z245⟩, st245⟩ := X243.virtualBack hx (y := mN38) (z := mN38) hown225 (mw hZ225 hw 60 rfl) (mw hZ225 hw 61 rfl) (notFace_of_selects (args := #[]) (mw hZ225 hw 63 rfl)) (mw hZ225 hw 63 rfl) (mw hZ225 hw 62 rfl) (by decide) (backOf (W := 0) (rm_sbAppC l Z a0 hw [] sb va240 cp240 (cs ++ [(hxAt cv (12 : Int32))] ++ [(hxAt cv (8 : Int32))] ++ [(hxAt cv (4 : Int32))]) (hxAt cv (0 : Int32)) T240.heap n0 (Nat.le_trans ZB Ex241.1) B240 (Nat.le_trans ZB hsb) (Nat.le_trans ZB le242) (by first | omega | (simp only [List.length_append, List.length_cons, List.length_nil]; omega)) (hx_b _ _) (B0.ext Ex241).1) hZ225 (wq hw 64 rfl) (wq hw 33 rfl) (by decide) (by decide)) q245a q245c (g := (mkF m 22 #[vR sb, vI cv, vI (4 : Int32), vI (0 : Int32)] [(.int (hxAt cv (0 : Int32))), (.ref sb)])) rfl (by rw [hml]; rfl) (Steps.refl _) (argsL := [(.int (hxAt cv (0 : Int32)))]) (rest := []) (lenOf pd_30 rfl) rfl (w0 rfl) (dq (dg dhx 16 rfl)) (fun _ _ => ⟨rfl, e243, (by decide : 5 + 1 ≤ _), (by decide : 188 + 40 ≤ _)⟩)
  dsimp only [Pt.U, Pt.locs, Pt.cells, Pt.slots] at X245 l245 y245 z245 st245 hQ245
  subst l245 y245 z245
  obtain ⟨va245, cp245, rfl, Nq245, K245, or245, B245⟩ := hQ245
  have N245 := Fr.app N243 Nq245
  have Ex246 : Ext hB T245.heap := extKeep Ex241 K245 (allS hsb (allS le242 all0))
  refine R2 st245 ?_
  show Rch p e below T245 (mkF m 25 #[vR sb, vI cv, vI (4 : Int32), vI (0 : Int32)] [(.ref sb)]) _
  have le247 : hB.size ≤ va245 := le_or (k := 0) or245 le242 Ex241.1
  have R245 := R240.trans (CHr.keep K245 HS244 R240.1)
  have hk245 := Nat.le_trans hk240 K245.1
  have SV245 : Safe Z EL T225.vm T245.heap va245 := Safe.keep K245 HS244 R240.1 (safe_or or245 SV240)
  refine R1 (XT.pop X245.here hx rfl (dq (dg dhx 17 rfl)) rfl rfl) ?_
  refine R1 (XS.iinc X245.here hx rfl (dq (dg dhx 18 rfl)) rfl (l' := #[vR sb, vI cv, vI (4 : Int32), vI (-4 : Int32)]) rfl) ?_
  refine R1 (XS.goto X245.here hx rfl (pc0 := 29) (pc' := 6) rfl (dq (dg dhx 19 rfl)) (by decide) (by decide)) ?_
  refine R1 (XS.iloadN X245.here hx rfl (dq (dg dhx 6 rfl)) rfl) ?_
  refine R1 (XS.ifYes X245.here hx rfl (pc0 := 7) (pc' := 32) rfl (dq (dg dhx 7 rfl)) rfl (by decide : ifCond.holds .lt (-4 : Int32) = true) (by decide) (by decide)) ?_
  show Rch p e below T245 (mkF m 32 #[vR sb, vI cv, vI (4 : Int32), vI (-4 : Int32)] []) _
  exact finWS (QS := Q_hexA Z hB sb va cap cs cv fm h0 n0) X245 hZ225 hEL hS225 hk245 rfl R245 (x := va245) SV245 (exa_of B245.2.1.1) (v := none) (fun _ => rfl) (BodyLoose.notSynchronized Bd) (fun fs hr => X245.returnOut hx Bd.returns (dq (dg dhx 20 rfl)) hr) ⟨cp245, rfl, N245, Ex246, le247, by simpa [hx4, List.append_assoc] using B245⟩ (by decide) (by decide)
theorem des : dxs prog_65_method_6_code [(0, .iconst 0, 1), (1, .istore 4, 2), (3, .iload 4, 2), (5, .aload_n 1, 1), (6, .invokevirtual 9, 3), (9, .if_icmp .ge 125, 3), (12, .aload_n 1, 1), (13, .iload 4, 2), (15, .invokevirtual 108, 3), (18, .istore 5, 2), (20, .iload_n 3, 1), (21, .ifCond .eq 13, 3), (34, .iconst (-1), 1), (35, .istore 6, 2), (37, .iload 6, 2), (39, .ifCond .lt 23, 3), (62, .iload 5, 2), (64, .iload_n 2, 1), (65, .if_icmp .eq 10, 3), (68, .iload 5, 2), (70, .bipush 92, 2), (72, .if_icmp .ne 18, 3), (75, .aload_n 0, 1), (76, .bipush 92, 2), (78, .invokevirtual 28, 3), (81, .iload 5, 2), (83, .invokevirtual 28, 3), (86, .pop, 1), (87, .goto 41, 3), (90, .iload 5, 2), (92, .bipush 32, 2), (94, .if_icmp .lt 20, 3), (97, .iload 5, 2), (99, .bipush 126, 2), (101, .if_icmp .gt 13, 3), (104, .aload_n 0, 1), (105, .iload 5, 2), (107, .invokevirtual 28, 3), (110, .pop, 1), (111, .goto 17, 3), (114, .aload_n 0, 1), (115, .ldc 120, 2), (117, .invokevirtual 49, 3), (120, .pop, 1), (121, .aload_n 0, 1), (122, .iload 5, 2), (124, .iconst 4, 1), (125, .invokestatic 56, 3), (128, .iinc 4 1, 3), (131, .goto (-128), 3), (134, .return_, 1)] = true := by decide +kernel
theorem pn_esc : plainFor (⟨"com/example/ampersat/ampersat/text/Literals", "appendEscaped", "(Ljava/lang/StringBuilder;Ljava/lang/String;CZ)V"⟩ : MethodName) = true := plainFor_of_name (by first | (simp [plainName, overriddenIn]; done) | decide +kernel)
theorem ef_esc (m : MethodId) (x0 : Addr) (x1 : Addr) (x2 : Int32) (x3 : Int32) : entryFrame m #[(.ref x0), (.ref x1), (.int x2), (.int x3)] 7 = mkF m 0 #[vR x0, vR x1, vI x2, vI x3, .unset, .unset, .unset] [] := by first | (simp [entryFrame, mkF, argsToLocals, Value.category]; done) | rfl
def Q_esc (Z : State) (hB : Heap) (sb va x : Addr) (cap : Nat) (cs ts : List Int32) (fm : Value) (h0 : Heap) (n0 : Nat) (x2 : Addr) (v : Option Value) (h : Heap) (L : List Loc) : Prop := ∃ cap2, v = none ∧ Fr n0 L ∧ Ext hB h ∧ hB.size ≤ x2 ∧ Sc Z h sb x2 cap2 (cs ++ escL ts)
set_option maxRecDepth 65536 in
set_option maxHeartbeats 40000000 in
theorem rm_esc (l : Launch) (Z : State) (a0 : Array Value) (hw : ∀ d ∈ tables_1, d.before a0 Z = true) (ws : List Jvm.Cond) (hB : Heap) (sb va x : Addr) (cap : Nat) (cs ts : List Int32) (fm : Value) (h0 : Heap) (n0 : Nat) (Z0 : n0 ≤ h0.size) (ZB : n0 ≤ hB.size) (EB : Ext hB h0) (B0 : Bg Z hB fm) (hsb : hB.size ≤ sb) (hva : hB.size ≤ va) (TX : StrA Z hB x ts) (B : Sc Z h0 sb va cap cs) (hcs : cs.length ≤ 1) (hts : ts.length ≤ 3) :
    MetFree l mN46 (head1 (Jvm.Cond.code mN46 prog_65_method_6_code 7 none :: ws) rO33) (fun a U => a = #[(.ref sb), (.ref x), (.int (34 : Int32)), (.int (0 : Int32))] ∧ Z.Warmed39 U.vm ∧ U.heap = h0 ∧ CHv Z EL U.vm h0 ∧ Safe Z EL U.vm h0 va) (fun _ _ _ _ _ => True) (fun _ U o U' => ∃ v L, o = .returned v ∧ (∃ x2, Q_esc Z hB sb va x cap cs ts fm h0 n0 x2 v U'.heap L ∧ Safe Z EL U'.vm U'.heap x2) ∧ CHr Z EL U.vm U.heap U'.vm U'.heap ∧ ReturnedEndW U o U' L rO33.cells rO33.slots) := by
  refine MetFree.of_bodySF pn_esc hisR ?_
  intro p e s m args below meth c s₁ Bd hml0 hP hK
  obtain ⟨rfl, hZ, hh, H0, SV0⟩ := hP
  have hx := Bd.exec
  have hby := Bd.bytes
  have dq := @hb _ _ hby
  have hml : c.maxLocals = 7 := hml0
  have hown : s.vm.findClass "com/example/ampersat/ampersat/text/Literals" = some m.cls := findClass_of_methodNamed Bd.named
  have X0 : Stand p l e rO33 (s.setVm s.vm) m #[(.ref sb), (.ref x), (.int (34 : Int32)), (.int (0 : Int32))] below meth c s₁ [] 0 0 := Stand.of_body Bd
  have e0 : s₁.heap = h0 := by rw [← hh, Bd.state]; rfl
  have N0 := Fr.nil n0
  have hS0 : s.Since s.vm 0 := (State.WarmedH.refl s).since _
  have R0 : CHr Z EL s.vm s.heap s.vm h0 := by rw [hh]; exact CHr.refl H0
  have hZ : Z.Warmed39 (s.setVm s.vm).vm := hZ
  have hown : (s.setVm s.vm).vm.findClass "com/example/ampersat/ampersat/text/Literals" = some m.cls := hown
  have hEL := ew hw
  have wS : ∀ d ∈ Bundle.stringAtoms, d.before a0 Z = true := fun d hd => hw d (ws_lit d hd)
  show Rch p e below s₁ _ _
  refine Rch.cast (ef_esc m sb x (34 : Int32) (0 : Int32)) ?_
  show Rch p e below s₁ (mkF m 0 #[vR sb, vR x, vI (34 : Int32), vI (0 : Int32), .unset, .unset, .unset] []) _
  have it3 : ∀ (T248 : State) (lc248 : List Loc) (h248 : Heap) (vm248 : Vm) (k0_248 : Nat) (va2 : Addr) (cp2 : Nat) (sc sd : Int32), Stand p l e rO33 (s.setVm vm248) m #[(.ref sb), (.ref x), (.int (34 : Int32)), (.int (0 : Int32))] below meth c T248 lc248 27 840 → T248.heap = h248 → Fr n0 lc248 → Ext hB h248 → s.Since vm248 k0_248 → k0_248 ≤ h248.size → Z.Warmed39 (s.setVm vm248).vm → (s.setVm vm248).vm.findClass "com/example/ampersat/ampersat/text/Literals" = some m.cls → CHr Z EL s.vm s.heap vm248 h248 → (3 ≤ ts.length) → (Safe Z EL vm248 h248 va2) → (hB.size ≤ va2) → (Sc Z h248 sb va2 cp2 (cs ++ escL (ts.take 3))) → Rch p e below T248 (mkF m 3 #[vR sb, vR x, vI (34 : Int32), vI (0 : Int32), vI (3 : Int32), vI sc, vI sd] []) (fun U o => ∃ v L, o = .returned v ∧ (∃ x2, Q_esc Z hB sb va x cap cs ts fm h0 n0 x2 v U.heap L ∧ Safe Z EL U.vm U.heap x2) ∧ CHr Z EL s.vm s.heap U.vm U.heap ∧ ReturnedEndW s o U L rO33.cells rO33.slots) := by
    intro T248 lc248 h248 vm248 k0_248 va2 cp2 sc sd X248 e248 N248 Ex248 hS248 hk248 hZ248 hown248 R248 hi SW hv BB
    show Rch p e below T248 (mkF m 3 #[vR sb, vR x, vI (34 : Int32), vI (0 : Int32), vI (3 : Int32), vI sc, vI sd] []) _
    have hle := esc_take ts 3
    refine R1 (XS.iload X248.here hx rfl (dq (dg des 2 rfl)) rfl) ?_
    refine R1 (XS.aloadN X248.here hx rfl (dq (dg des 3 rfl)) rfl rfl) ?_
    show Rch p e below T248 (mkF m 6 #[vR sb, vR x, vI (34 : Int32), vI (0 : Int32), vI (3 : Int32), vI sc, vI sd] [(.ref x), (.int (3 : Int32))]) _
    obtain ⟨cq249, kq249, q249a, q249b, q249c⟩ := isOf hZ248 e248 ((TX.ext Ex248)).exa
    obtain ⟨_, _, ⟨T249, L249, k249, n249⟩, -, X249, ⟨Lc249, hQ249, l249, y249, z249⟩, st249⟩ := X248.virtualBack hx (y := mN31) (z := mN31) hown248 (mw hZ248 hw 34 rfl) (mw hZ248 hw 35 rfl) (notFace_of_selects (args := #[]) (mw hZ248 hw 37 rfl)) (mw hZ248 hw 37 rfl) (mw hZ248 hw 36 rfl) (by decide) (lenS (W := 1) hZ248 hw (TX.ext Ex248) (B0.ext Ex248).1 (by omega) (by decide) (by decide)) q249a q249c (g := (mkF m 6 #[vR sb, vR x, vI (34 : Int32), vI (0 : Int32), vI (3 : Int32), vI sc, vI sd] [(.ref x), (.int (3 : Int32))])) rfl (by rw [hml]; rfl) (Steps.refl _) (argsL := []) (rest := [(.int (3 : Int32))]) (lenOf pd_17 rfl) rfl (w0 rfl) (dq (dg des 4 rfl)) (fun _ _ => ⟨rfl, e248, (by decide : 27 + 0 ≤ _), (by decide : 840 + 0 ≤ _)⟩)
    dsimp only [Pt.U, Pt.locs, Pt.cells, Pt.slots] at X249 l249 y249 z249 st249 hQ249
    subst l249 y249 z249
    obtain ⟨rfl, hL249, e249⟩ := hQ249
    subst hL249
    have Nq249 := Fr.nil n0
    have N249 := Fr.app N248 Nq249
    refine R2 st249 ?_
    show Rch p e below T249 (mkF m 9 #[vR sb, vR x, vI (34 : Int32), vI (0 : Int32), vI (3 : Int32), vI sc, vI sd] [(.int (Int32.ofNat ts.length)), (.int (3 : Int32))]) _
    have hge : ts.length ≤ 3 := hts
    have hge' : ¬ (3 : Int32) < Int32.ofNat ts.length := ofN_le hge (by decide)
    refine R1 (XS.icmpYes X249.here hx rfl (pc0 := 9) (pc' := 134) rfl (dq (dg des 5 rfl)) rfl (flt hge').2.1 (by decide) (by decide)) ?_
    show Rch p e below T249 (mkF m 134 #[vR sb, vR x, vI (34 : Int32), vI (0 : Int32), vI (3 : Int32), vI sc, vI sd] []) _
    exact finWS (QS := Q_esc Z hB sb va x cap cs ts fm h0 n0) X249 hZ248 hEL hS248 (by rw [e249]; exact hk248) e249 R248 (x := va2) SW (exa_of BB.2.1.1) (v := none) (fun _ => rfl) (BodyLoose.notSynchronized Bd) (fun fs hr => X249.returnOut hx Bd.returns (dq (dg des 50 rfl)) hr) (by rw [e249]; exact ⟨cp2, rfl, N249, Ex248, hv, by rw [esc_all hge] at BB; exact BB⟩) (by decide) (by decide)
  have it2 : ∀ (T250 : State) (lc250 : List Loc) (h250 : Heap) (vm250 : Vm) (k0_250 : Nat) (va2 : Addr) (cp2 : Nat) (sc sd : Int32), Stand p l e rO33 (s.setVm vm250) m #[(.ref sb), (.ref x), (.int (34 : Int32)), (.int (0 : Int32))] below meth c T250 lc250 18 560 → T250.heap = h250 → Fr n0 lc250 → Ext hB h250 → s.Since vm250 k0_250 → k0_250 ≤ h250.size → Z.Warmed39 (s.setVm vm250).vm → (s.setVm vm250).vm.findClass "com/example/ampersat/ampersat/text/Literals" = some m.cls → CHr Z EL s.vm s.heap vm250 h250 → (2 ≤ ts.length) → (Safe Z EL vm250 h250 va2) → (hB.size ≤ va2) → (Sc Z h250 sb va2 cp2 (cs ++ escL (ts.take 2))) → Rch p e below T250 (mkF m 3 #[vR sb, vR x, vI (34 : Int32), vI (0 : Int32), vI (2 : Int32), vI sc, vI sd] []) (fun U o => ∃ v L, o = .returned v ∧ (∃ x2, Q_esc Z hB sb va x cap cs ts fm h0 n0 x2 v U.heap L ∧ Safe Z EL U.vm U.heap x2) ∧ CHr Z EL s.vm s.heap U.vm U.heap ∧ ReturnedEndW s o U L rO33.cells rO33.slots) := by
    intro T250 lc250 h250 vm250 k0_250 va2 cp2 sc sd X250 e250 N250 Ex250 hS250 hk250 hZ250 hown250 R250 hi SW hv BB
    show Rch p e below T250 (mkF m 3 #[vR sb, vR x, vI (34 : Int32), vI (0 : Int32), vI (2 : Int32), vI sc, vI sd] []) _
    have hle := esc_take ts 2
    refine R1 (XS.iload X250.here hx rfl (dq (dg des 2 rfl)) rfl) ?_
    refine R1 (XS.aloadN X250.here hx rfl (dq (dg des 3 rfl)) rfl rfl) ?_
    show Rch p e below T250 (mkF m 6 #[vR sb, vR x, vI (34 : Int32), vI (0 : Int32), vI (2 : Int32), vI sc, vI sd] [(.ref x), (.int (2 : Int32))]) _
    obtain ⟨cq251, kq251, q251a, q251b, q251c⟩ := isOf hZ250 e250 ((TX.ext Ex250)).exa
    obtain ⟨_, _, ⟨T251, L251, k251, n251⟩, -, X251, ⟨Lc251, hQ251, l251, y251, z251⟩, st251⟩ := X250.virtualBack hx (y := mN31) (z := mN31) hown250 (mw hZ250 hw 34 rfl) (mw hZ250 hw 35 rfl) (notFace_of_selects (args := #[]) (mw hZ250 hw 37 rfl)) (mw hZ250 hw 37 rfl) (mw hZ250 hw 36 rfl) (by decide) (lenS (W := 1) hZ250 hw (TX.ext Ex250) (B0.ext Ex250).1 (by omega) (by decide) (by decide)) q251a q251c (g := (mkF m 6 #[vR sb, vR x, vI (34 : Int32), vI (0 : Int32), vI (2 : Int32), vI sc, vI sd] [(.ref x), (.int (2 : Int32))])) rfl (by rw [hml]; rfl) (Steps.refl _) (argsL := []) (rest := [(.int (2 : Int32))]) (lenOf pd_17 rfl) rfl (w0 rfl) (dq (dg des 4 rfl)) (fun _ _ => ⟨rfl, e250, (by decide : 18 + 0 ≤ _), (by decide : 560 + 0 ≤ _)⟩)
    dsimp only [Pt.U, Pt.locs, Pt.cells, Pt.slots] at X251 l251 y251 z251 st251 hQ251
    subst l251 y251 z251
    obtain ⟨rfl, hL251, e251⟩ := hQ251
    subst hL251
    have Nq251 := Fr.nil n0
    have N251 := Fr.app N250 Nq251
    refine R2 st251 ?_
    show Rch p e below T251 (mkF m 9 #[vR sb, vR x, vI (34 : Int32), vI (0 : Int32), vI (2 : Int32), vI sc, vI sd] [(.int (Int32.ofNat ts.length)), (.int (2 : Int32))]) _
    by_cases hlt : 2 < ts.length
    · skip
      have hlt' : (2 : Int32) < Int32.ofNat ts.length := ofN_lt hlt (by omega)
      refine R1 (XS.icmpNo X251.here hx rfl (dq (dg des 5 rfl)) rfl (tlt hlt').2.1) ?_
      refine R1 (XS.aloadN X251.here hx rfl (dq (dg des 6 rfl)) rfl rfl) ?_
      refine R1 (XS.iload X251.here hx rfl (dq (dg des 7 rfl)) rfl) ?_
      show Rch p e below T251 (mkF m 15 #[vR sb, vR x, vI (34 : Int32), vI (0 : Int32), vI (2 : Int32), vI sc, vI sd] [(.int (2 : Int32)), (.ref x)]) _
      obtain ⟨cq252, kq252, q252a, q252b, q252c⟩ := isOf hZ250 e251 ((TX.ext Ex250)).exa
      obtain ⟨_, _, ⟨T252, L252, k252, n252⟩, -, X252, ⟨Lc252, hQ252, l252, y252, z252⟩, st252⟩ := X251.virtualBack hx (y := mN7) (z := mN7) hown250 (mw hZ250 hw 160 rfl) (mw hZ250 hw 130 rfl) (notFace_of_selects (args := #[]) (mw hZ250 hw 132 rfl)) (mw hZ250 hw 132 rfl) (mw hZ250 hw 131 rfl) (by decide) (chS (W := 0) hZ250 hw (TX.ext Ex250) (B0.ext Ex250) 2 hlt (by omega) n0 (Nat.le_trans ZB Ex250.1) (by decide) (by decide)) q252a q252c (g := (mkF m 15 #[vR sb, vR x, vI (34 : Int32), vI (0 : Int32), vI (2 : Int32), vI sc, vI sd] [(.int (2 : Int32)), (.ref x)])) rfl (by rw [hml]; rfl) (Steps.refl _) (argsL := [(.int (2 : Int32))]) (rest := []) (lenOf pd_29 rfl) rfl (w0 rfl) (dq (dg des 8 rfl)) (fun _ _ => ⟨rfl, e251, (by decide : 18 + 0 ≤ _), (by decide : 560 + 0 ≤ _)⟩)
      dsimp only [Pt.U, Pt.locs, Pt.cells, Pt.slots] at X252 l252 y252 z252 st252 hQ252
      subst l252 y252 z252
      obtain ⟨rfl, Nq252, e252⟩ := hQ252
      have N252 := Fr.app N251 Nq252
      refine R2 st252 ?_
      show Rch p e below T252 (mkF m 18 #[vR sb, vR x, vI (34 : Int32), vI (0 : Int32), vI (2 : Int32), vI sc, vI sd] [(.int (ts.getD 2 0))]) _
      generalize hc : ts.getD 2 0 = cc
      show Rch p e below T252 (mkF m 18 #[vR sb, vR x, vI (34 : Int32), vI (0 : Int32), vI (2 : Int32), vI sc, vI sd] [(.int cc)]) _
      refine R1 (XS.istore X252.here hx rfl (dq (dg des 9 rfl)) rfl (l' := #[vR sb, vR x, vI (34 : Int32), vI (0 : Int32), vI (2 : Int32), vI cc, vI sd]) rfl) ?_
      refine R1 (XS.iloadN X252.here hx rfl (dq (dg des 10 rfl)) rfl) ?_
      refine R1 (XS.ifYes X252.here hx rfl (pc0 := 21) (pc' := 34) rfl (dq (dg des 11 rfl)) rfl (by decide : ifCond.holds .eq (0 : Int32) = true) (by decide) (by decide)) ?_
      refine R1 (XS.iconst X252.here hx rfl (dq (dg des 12 rfl)) ) ?_
      refine R1 (XS.istore X252.here hx rfl (dq (dg des 13 rfl)) rfl (l' := #[vR sb, vR x, vI (34 : Int32), vI (0 : Int32), vI (2 : Int32), vI cc, vI (-1 : Int32)]) rfl) ?_
      refine R1 (XS.iload X252.here hx rfl (dq (dg des 14 rfl)) rfl) ?_
      refine R1 (XS.ifYes X252.here hx rfl (pc0 := 39) (pc' := 62) rfl (dq (dg des 15 rfl)) rfl (by decide : ifCond.holds .lt (-1 : Int32) = true) (by decide) (by decide)) ?_
      refine R1 (XS.iload X252.here hx rfl (dq (dg des 16 rfl)) rfl) ?_
      refine R1 (XS.iloadN X252.here hx rfl (dq (dg des 17 rfl)) rfl) ?_
      show Rch p e below T252 (mkF m 65 #[vR sb, vR x, vI (34 : Int32), vI (0 : Int32), vI (2 : Int32), vI cc, vI (-1 : Int32)] [(.int (34 : Int32)), (.int cc)]) _
      have t75 : ∀ (u : Int32), is2 cc → Rch p e below T252 (mkF m 75 #[vR sb, vR x, vI (34 : Int32), vI (0 : Int32), vI (2 : Int32), vI cc, vI (-1 : Int32)] []) (fun U o => ∃ v L, o = .returned v ∧ (∃ x2, Q_esc Z hB sb va x cap cs ts fm h0 n0 x2 v U.heap L ∧ Safe Z EL U.vm U.heap x2) ∧ CHr Z EL s.vm s.heap U.vm U.heap ∧ ReturnedEndW s o U L rO33.cells rO33.slots) := by
        intro u h2
        show Rch p e below T252 (mkF m 75 #[vR sb, vR x, vI (34 : Int32), vI (0 : Int32), vI (2 : Int32), vI cc, vI (-1 : Int32)] []) _
        refine R1 (XS.aloadN X252.here hx rfl (dq (dg des 22 rfl)) rfl rfl) ?_
        refine R1 (XS.bipush X252.here hx rfl (dq (dg des 23 rfl)) ) ?_
        show Rch p e below T252 (mkF m 78 #[vR sb, vR x, vI (34 : Int32), vI (0 : Int32), vI (2 : Int32), vI cc, vI (-1 : Int32)] [(.int (92 : Int32)), (.ref sb)]) _
        have HS253 : ∀ x ∈ [sb, va2], Safe Z EL vm250 h250 x := allS (Safe.exa (State.Warmed39.alike hZ250) BB.1.1 (by decide) (by decide)) (allS SW all0)
        obtain ⟨cq254, kq254, q254a, q254b, q254c⟩ := isOf hZ250 e252 BB.1.1
        obtain ⟨_, _, ⟨T254, L254, k254, n254⟩, -, X254, ⟨Lc254, hQ254, l254, y254, z254⟩, st254⟩ := X252.virtualBack hx (y := mN38) (z := mN38) hown250 (mw hZ250 hw 60 rfl) (mw hZ250 hw 61 rfl) (notFace_of_selects (args := #[]) (mw hZ250 hw 63 rfl)) (mw hZ250 hw 63 rfl) (mw hZ250 hw 62 rfl) (by decide) (backOf (W := 0) (rm_sbAppC l Z a0 hw [] sb va2 cp2 (cs ++ escL (ts.take 2)) (92 : Int32) h250 n0 (Nat.le_trans ZB Ex250.1) BB (Nat.le_trans ZB hsb) (Nat.le_trans ZB hv) (by first | omega | (simp only [List.length_append, List.length_cons, List.length_nil]; omega)) (by decide) (B0.ext Ex250).1) hZ250 (wq hw 64 rfl) (wq hw 33 rfl) (by decide) (by decide)) q254a q254c (g := (mkF m 78 #[vR sb, vR x, vI (34 : Int32), vI (0 : Int32), vI (2 : Int32), vI cc, vI (-1 : Int32)] [(.int (92 : Int32)), (.ref sb)])) rfl (by rw [hml]; rfl) (Steps.refl _) (argsL := [(.int (92 : Int32))]) (rest := []) (lenOf pd_30 rfl) rfl (w0 rfl) (dq (dg des 24 rfl)) (fun _ _ => ⟨rfl, e252, (by decide : 18 + 1 ≤ _), (by decide : 560 + 40 ≤ _)⟩)
        dsimp only [Pt.U, Pt.locs, Pt.cells, Pt.slots] at X254 l254 y254 z254 st254 hQ254
        subst l254 y254 z254
        obtain ⟨va254, cp254, rfl, Nq254, K254, or254, B254⟩ := hQ254
        have N254 := Fr.app N252 Nq254
        have Ex255 : Ext hB T254.heap := extKeep Ex250 K254 (allS hsb (allS hv all0))
        refine R2 st254 ?_
        show Rch p e below T254 (mkF m 81 #[vR sb, vR x, vI (34 : Int32), vI (0 : Int32), vI (2 : Int32), vI cc, vI (-1 : Int32)] [(.ref sb)]) _
        have le256 : hB.size ≤ va254 := le_or (k := 0) or254 hv Ex250.1
        have R254 := R250.trans (CHr.keep K254 HS253 R250.1)
        have hk254 := Nat.le_trans hk250 K254.1
        have SV254 : Safe Z EL vm250 T254.heap va254 := Safe.keep K254 HS253 R250.1 (safe_or or254 SW)
        refine R1 (XS.iload X254.here hx rfl (dq (dg des 25 rfl)) rfl) ?_
        show Rch p e below T254 (mkF m 83 #[vR sb, vR x, vI (34 : Int32), vI (0 : Int32), vI (2 : Int32), vI cc, vI (-1 : Int32)] [(.int cc), (.ref sb)]) _
        have HS257 : ∀ x ∈ [sb, va254], Safe Z EL vm250 T254.heap x := allS (Safe.exa (State.Warmed39.alike hZ250) B254.1.1 (by decide) (by decide)) (allS SV254 all0)
        obtain ⟨cq258, kq258, q258a, q258b, q258c⟩ := isOf hZ250 rfl B254.1.1
        obtain ⟨_, _, ⟨T258, L258, k258, n258⟩, -, X258, ⟨Lc258, hQ258, l258, y258, z258⟩, st258⟩ := X254.virtualBack hx (y := mN38) (z := mN38) hown250 (mw hZ250 hw 60 rfl) (mw hZ250 hw 61 rfl) (notFace_of_selects (args := #[]) (mw hZ250 hw 63 rfl)) (mw hZ250 hw 63 rfl) (mw hZ250 hw 62 rfl) (by decide) (backOf (W := 0) (rm_sbAppC l Z a0 hw [] sb va254 cp254 (cs ++ escL (ts.take 2) ++ [(92 : Int32)]) cc T254.heap n0 (Nat.le_trans ZB Ex255.1) B254 (Nat.le_trans ZB hsb) (Nat.le_trans ZB le256) (by first | omega | (simp only [List.length_append, List.length_cons, List.length_nil]; omega)) (by rcases h2 with rfl | rfl <;> decide) (B0.ext Ex255).1) hZ250 (wq hw 64 rfl) (wq hw 33 rfl) (by decide) (by decide)) q258a q258c (g := (mkF m 83 #[vR sb, vR x, vI (34 : Int32), vI (0 : Int32), vI (2 : Int32), vI cc, vI (-1 : Int32)] [(.int cc), (.ref sb)])) rfl (by rw [hml]; rfl) (Steps.refl _) (argsL := [(.int cc)]) (rest := []) (lenOf pd_30 rfl) rfl (w0 rfl) (dq (dg des 26 rfl)) (fun _ _ => ⟨rfl, rfl, (by decide : 19 + 1 ≤ _), (by decide : 600 + 40 ≤ _)⟩)
        dsimp only [Pt.U, Pt.locs, Pt.cells, Pt.slots] at X258 l258 y258 z258 st258 hQ258
        subst l258 y258 z258
        obtain ⟨va258, cp258, rfl, Nq258, K258, or258, B258⟩ := hQ258
        have N258 := Fr.app N254 Nq258
        have Ex259 : Ext hB T258.heap := extKeep Ex255 K258 (allS hsb (allS le256 all0))
        refine R2 st258 ?_
        show Rch p e below T258 (mkF m 86 #[vR sb, vR x, vI (34 : Int32), vI (0 : Int32), vI (2 : Int32), vI cc, vI (-1 : Int32)] [(.ref sb)]) _
        have le260 : hB.size ≤ va258 := le_or (k := 0) or258 le256 Ex255.1
        have R258 := R254.trans (CHr.keep K258 HS257 R254.1)
        have hk258 := Nat.le_trans hk254 K258.1
        have SV258 : Safe Z EL vm250 T258.heap va258 := Safe.keep K258 HS257 R254.1 (safe_or or258 SV254)
        refine R1 (XT.pop X258.here hx rfl (dq (dg des 27 rfl)) rfl rfl) ?_
        refine R1 (XS.goto X258.here hx rfl (pc0 := 87) (pc' := 128) rfl (dq (dg des 28 rfl)) (by decide) (by decide)) ?_
        refine R1 (XS.iinc X258.here hx rfl (dq (dg des 48 rfl)) rfl (l' := #[vR sb, vR x, vI (34 : Int32), vI (0 : Int32), vI (3 : Int32), vI cc, vI (-1 : Int32)]) rfl) ?_
        refine R1 (XS.goto X258.here hx rfl (pc0 := 131) (pc' := 3) rfl (dq (dg des 49 rfl)) (by decide) (by decide)) ?_
        show Rch p e below T258 (mkF m 3 #[vR sb, vR x, vI (34 : Int32), vI (0 : Int32), vI (3 : Int32), vI cc, vI (-1 : Int32)] []) _
        exact it3 _ _ _ _ _ _ _ _ _ (X258.mono (by decide) (by decide)) rfl N258 Ex259 hS250 hk258 hZ250 hown250 R258 hlt SV258 le260 (by rw [show escL (ts.take 3) = escL (ts.take 2) ++ esc1 (ts.getD 2 0) from esc_step hlt, hc, e2 h2]; simpa [List.append_assoc] using B258)
      have t114 : ∀ (u : Int32), ¬ is2 cc → ¬ is1 cc → Rch p e below T252 (mkF m 114 #[vR sb, vR x, vI (34 : Int32), vI (0 : Int32), vI (2 : Int32), vI cc, vI (-1 : Int32)] []) (fun U o => ∃ v L, o = .returned v ∧ (∃ x2, Q_esc Z hB sb va x cap cs ts fm h0 n0 x2 v U.heap L ∧ Safe Z EL U.vm U.heap x2) ∧ CHr Z EL s.vm s.heap U.vm U.heap ∧ ReturnedEndW s o U L rO33.cells rO33.slots) := by
        intro u h2 h1
        show Rch p e below T252 (mkF m 114 #[vR sb, vR x, vI (34 : Int32), vI (0 : Int32), vI (2 : Int32), vI cc, vI (-1 : Int32)] []) _
        refine R1 (XS.aloadN X252.here hx rfl (dq (dg des 40 rfl)) rfl rfl) ?_
        show Rch p e below T252 (mkF m 115 #[vR sb, vR x, vI (34 : Int32), vI (0 : Int32), vI (2 : Int32), vI cc, vI (-1 : Int32)] [(.ref sb)]) _
        obtain ⟨a261, T261, h261, kk261, b261, kb261, X261, e261, E261, hS261, hk261, hZ261, hown261, EX261, CO261, VA261, AR261, la261, lb261, CR261, LT261, SF261, st261⟩ := ldcCH X252 hx hZ250 hown250 (wq hw 161 rfl) wS e252 hS250 hk250 hEL (by simp [EL]) R250.1 (vs := ([92, 117] : List Int32).map (fun c => Value.int c.toInt8.toInt32)) (z := (2 : Int32)) ⟨by decide, by decide⟩ (by decide) rfl (g := (mkF m 115 #[vR sb, vR x, vI (34 : Int32), vI (0 : Int32), vI (2 : Int32), vI cc, vI (-1 : Int32)] [(.ref sb)])) rfl (dq (dg des 41 rfl)) (n := 8) (by decide) (by decide) (by decide) (by decide)
        have Ex262 : Ext hB h261 := Ex250.tr E261
        have R261 := R250.trans CR261
        refine R0_ st261 ?_
        show Rch p e below T261 (mkF m 117 #[vR sb, vR x, vI (34 : Int32), vI (0 : Int32), vI (2 : Int32), vI cc, vI (-1 : Int32)] [(.ref a261), (.ref sb)]) _
        have SV261 := CR261.safe (exa_of BB.2.1.1) SW
        have LS261 : Lt Z h261 a261 b261 ([92, 117] : List Int32) := ⟨EX261, VA261, CO261, kb261, by unfold byt; rw [List.map_map]; exact AR261⟩
        have B_ := BB.ext E261
        have HS264 : ∀ x ∈ [sb, va2], Safe Z EL T261.vm h261 x := allS (Safe.exa (State.Warmed39.alike hZ261) B_.1.1 (by decide) (by decide)) (allS SV261 all0)
        obtain ⟨cq265, kq265, q265a, q265b, q265c⟩ := isOf hZ261 e261 B_.1.1
        obtain ⟨_, _, ⟨T265, L265, k265, n265⟩, -, X265, ⟨Lc265, hQ265, l265, y265, z265⟩, st265⟩ := X261.virtualBack hx (y := mN36) (z := mN36) hown261 (mw hZ261 hw 162 rfl) (mw hZ261 hw 163 rfl) (notFace_of_selects (args := #[]) (mw hZ261 hw 165 rfl)) (mw hZ261 hw 165 rfl) (mw hZ261 hw 164 rfl) (by decide) (backOf (W := 0) (rm_sbApp l Z a0 hw [] sb va2 a261 b261 cp2 (cs ++ escL (ts.take 2)) [92, 117] h261 n0 (Nat.le_trans ZB Ex262.1) B_ LS261 (Nat.le_trans ZB hsb) (Nat.le_trans ZB hv) (by first | omega | (simp only [List.length_append, List.length_cons, List.length_nil]; omega)) (B0.ext Ex262).1) hZ261 (wq hw 166 rfl) (wq hw 33 rfl) (by decide) (by decide)) q265a q265c (g := (mkF m 117 #[vR sb, vR x, vI (34 : Int32), vI (0 : Int32), vI (2 : Int32), vI cc, vI (-1 : Int32)] [(.ref a261), (.ref sb)])) rfl (by rw [hml]; rfl) (Steps.refl _) (argsL := [(.ref a261)]) (rest := []) (lenOf pd_31 rfl) rfl (w0 rfl) (dq (dg des 42 rfl)) (fun _ _ => ⟨rfl, e261, (by decide : 20 + 1 ≤ _), (by decide : 572 + 40 ≤ _)⟩)
        dsimp only [Pt.U, Pt.locs, Pt.cells, Pt.slots] at X265 l265 y265 z265 st265 hQ265
        subst l265 y265 z265
        obtain ⟨va265, cp265, rfl, Nq265, K265, or265, B265⟩ := hQ265
        have N265 := Fr.app N252 Nq265
        have Ex266 : Ext hB T265.heap := extKeep Ex262 K265 (allS hsb (allS hv all0))
        refine R2 st265 ?_
        show Rch p e below T265 (mkF m 120 #[vR sb, vR x, vI (34 : Int32), vI (0 : Int32), vI (2 : Int32), vI cc, vI (-1 : Int32)] [(.ref sb)]) _
        have le267 : hB.size ≤ va265 := le_or (k := 0) or265 hv Ex262.1
        have R265 := R261.trans (CHr.keep K265 HS264 R261.1)
        have hk265 := Nat.le_trans hk261 K265.1
        have SV265 : Safe Z EL T261.vm T265.heap va265 := Safe.keep K265 HS264 R261.1 (safe_or or265 SV261)
        refine R1 (XT.pop X265.here hx rfl (dq (dg des 43 rfl)) rfl rfl) ?_
        refine R1 (XS.aloadN X265.here hx rfl (dq (dg des 44 rfl)) rfl rfl) ?_
        refine R1 (XS.iload X265.here hx rfl (dq (dg des 45 rfl)) rfl) ?_
        refine R1 (XS.iconst X265.here hx rfl (dq (dg des 46 rfl)) ) ?_
        show Rch p e below T265 (mkF m 125 #[vR sb, vR x, vI (34 : Int32), vI (0 : Int32), vI (2 : Int32), vI cc, vI (-1 : Int32)] [(.int (4 : Int32)), (.int cc), (.ref sb)]) _
        obtain ⟨_, _, ⟨T268, L268, k268, n268⟩, -, X268_, hS268_, hg268_, ⟨Lc268, hQ268, l268, y268, z268, CR268⟩, st268⟩ := callSS X265 hx (y := mN45) hown261 (mw hZ261 hw 192 rfl) (mw hZ261 hw 193 rfl) (mw hZ261 hw 29 rfl) (mw hZ261 hw 194 rfl) (by decide) (backOfSP (W := 0) (va := va265) (rm_hexA l Z a0 hw [] hB sb va265 cp265 (cs ++ escL (ts.take 2) ++ [92, 117]) cc fm T265.heap n0 (Nat.le_trans ZB Ex266.1) ZB Ex266 B0 hsb le267 B265 (by first | omega | (simp only [List.length_append, List.length_cons, List.length_nil]; omega))) hZ261 (wq hw 194 rfl) (wq hw 29 rfl) (by decide) (by decide) hEL R265.1 SV265 (exa_of B265.2.1.1)) (g := (mkF m 125 #[vR sb, vR x, vI (34 : Int32), vI (0 : Int32), vI (2 : Int32), vI cc, vI (-1 : Int32)] [(.int (4 : Int32)), (.int cc), (.ref sb)])) rfl (by rw [hml]; rfl) (argsL := [(.ref sb), (.int cc), (.int (4 : Int32))]) (rest := []) (lenOf pd_32 rfl) rfl (w0 rfl) (dq (dg des 47 rfl)) (fun _ _ => ⟨rfl, rfl, (by decide : 21 + 6 ≤ _), (by decide : 612 + 228 ≤ _)⟩)
        dsimp only [Pt.U, Pt.locs, Pt.cells, Pt.slots] at X268_ hS268_ hg268_ l268 y268 z268 st268 hQ268 CR268
        subst l268 y268 z268
        obtain ⟨X268, hS268, hZ268, hown268⟩ := rebS hS261 hk265 X268_ hS268_ hg268_ hZ261 hown261
        obtain ⟨x268, hq268, SV268⟩ := hQ268
        obtain ⟨cp268, rfl, Nq268, E268, le268_, B268⟩ := hq268
        have N268 := Fr.app N265 Nq268
        have R268 := R265.trans CR268
        refine R2 st268 ?_
        show Rch p e below T268 (mkF m 128 #[vR sb, vR x, vI (34 : Int32), vI (0 : Int32), vI (2 : Int32), vI cc, vI (-1 : Int32)] []) _
        refine R1 (XS.iinc X268.here hx rfl (dq (dg des 48 rfl)) rfl (l' := #[vR sb, vR x, vI (34 : Int32), vI (0 : Int32), vI (3 : Int32), vI cc, vI (-1 : Int32)]) rfl) ?_
        refine R1 (XS.goto X268.here hx rfl (pc0 := 131) (pc' := 3) rfl (dq (dg des 49 rfl)) (by decide) (by decide)) ?_
        show Rch p e below T268 (mkF m 3 #[vR sb, vR x, vI (34 : Int32), vI (0 : Int32), vI (3 : Int32), vI cc, vI (-1 : Int32)] []) _
        exact it3 _ _ _ _ _ _ _ _ _ X268 rfl N268 E268 hS268 (Nat.le_refl _) hZ268 hown268 R268 hlt SV268 le268_ (by rw [show escL (ts.take 3) = escL (ts.take 2) ++ esc1 (ts.getD 2 0) from esc_step hlt, hc, e6 h2 h1]; simpa [List.append_assoc] using B268)
      have t90 : ∀ (u : Int32), ¬ is2 cc → Rch p e below T252 (mkF m 90 #[vR sb, vR x, vI (34 : Int32), vI (0 : Int32), vI (2 : Int32), vI cc, vI (-1 : Int32)] []) (fun U o => ∃ v L, o = .returned v ∧ (∃ x2, Q_esc Z hB sb va x cap cs ts fm h0 n0 x2 v U.heap L ∧ Safe Z EL U.vm U.heap x2) ∧ CHr Z EL s.vm s.heap U.vm U.heap ∧ ReturnedEndW s o U L rO33.cells rO33.slots) := by
        intro u h2
        show Rch p e below T252 (mkF m 90 #[vR sb, vR x, vI (34 : Int32), vI (0 : Int32), vI (2 : Int32), vI cc, vI (-1 : Int32)] []) _
        refine R1 (XS.iload X252.here hx rfl (dq (dg des 29 rfl)) rfl) ?_
        refine R1 (XS.bipush X252.here hx rfl (dq (dg des 30 rfl)) ) ?_
        show Rch p e below T252 (mkF m 94 #[vR sb, vR x, vI (34 : Int32), vI (0 : Int32), vI (2 : Int32), vI cc, vI (-1 : Int32)] [(.int (32 : Int32)), (.int cc)]) _
        by_cases g1 : cc < (32 : Int32)
        · skip
          refine R1 (XS.icmpYes X252.here hx rfl (pc0 := 94) (pc' := 114) rfl (dq (dg des 31 rfl)) rfl (tlt g1).1 (by decide) (by decide)) ?_
          show Rch p e below T252 (mkF m 114 #[vR sb, vR x, vI (34 : Int32), vI (0 : Int32), vI (2 : Int32), vI cc, vI (-1 : Int32)] []) _
          exact t114 0 h2 (fun q => q.1 g1)
        · skip
          refine R1 (XS.icmpNo X252.here hx rfl (dq (dg des 31 rfl)) rfl (flt g1).1) ?_
          refine R1 (XS.iload X252.here hx rfl (dq (dg des 32 rfl)) rfl) ?_
          refine R1 (XS.bipush X252.here hx rfl (dq (dg des 33 rfl)) ) ?_
          show Rch p e below T252 (mkF m 101 #[vR sb, vR x, vI (34 : Int32), vI (0 : Int32), vI (2 : Int32), vI cc, vI (-1 : Int32)] [(.int (126 : Int32)), (.int cc)]) _
          by_cases g2 : (126 : Int32) < cc
          · skip
            refine R1 (XS.icmpYes X252.here hx rfl (pc0 := 101) (pc' := 114) rfl (dq (dg des 34 rfl)) rfl (tlt g2).2.2.1 (by decide) (by decide)) ?_
            show Rch p e below T252 (mkF m 114 #[vR sb, vR x, vI (34 : Int32), vI (0 : Int32), vI (2 : Int32), vI cc, vI (-1 : Int32)] []) _
            exact t114 0 h2 (fun q => q.2 g2)
          · skip
            refine R1 (XS.icmpNo X252.here hx rfl (dq (dg des 34 rfl)) rfl (flt g2).2.2.1) ?_
            refine R1 (XS.aloadN X252.here hx rfl (dq (dg des 35 rfl)) rfl rfl) ?_
            refine R1 (XS.iload X252.here hx rfl (dq (dg des 36 rfl)) rfl) ?_
            show Rch p e below T252 (mkF m 107 #[vR sb, vR x, vI (34 : Int32), vI (0 : Int32), vI (2 : Int32), vI cc, vI (-1 : Int32)] [(.int cc), (.ref sb)]) _
            have HS269 : ∀ x ∈ [sb, va2], Safe Z EL vm250 h250 x := allS (Safe.exa (State.Warmed39.alike hZ250) BB.1.1 (by decide) (by decide)) (allS SW all0)
            obtain ⟨cq270, kq270, q270a, q270b, q270c⟩ := isOf hZ250 e252 BB.1.1
            obtain ⟨_, _, ⟨T270, L270, k270, n270⟩, -, X270, ⟨Lc270, hQ270, l270, y270, z270⟩, st270⟩ := X252.virtualBack hx (y := mN38) (z := mN38) hown250 (mw hZ250 hw 60 rfl) (mw hZ250 hw 61 rfl) (notFace_of_selects (args := #[]) (mw hZ250 hw 63 rfl)) (mw hZ250 hw 63 rfl) (mw hZ250 hw 62 rfl) (by decide) (backOf (W := 0) (rm_sbAppC l Z a0 hw [] sb va2 cp2 (cs ++ escL (ts.take 2)) cc h250 n0 (Nat.le_trans ZB Ex250.1) BB (Nat.le_trans ZB hsb) (Nat.le_trans ZB hv) (by first | omega | (simp only [List.length_append, List.length_cons, List.length_nil]; omega)) (lt255 g2) (B0.ext Ex250).1) hZ250 (wq hw 64 rfl) (wq hw 33 rfl) (by decide) (by decide)) q270a q270c (g := (mkF m 107 #[vR sb, vR x, vI (34 : Int32), vI (0 : Int32), vI (2 : Int32), vI cc, vI (-1 : Int32)] [(.int cc), (.ref sb)])) rfl (by rw [hml]; rfl) (Steps.refl _) (argsL := [(.int cc)]) (rest := []) (lenOf pd_30 rfl) rfl (w0 rfl) (dq (dg des 37 rfl)) (fun _ _ => ⟨rfl, e252, (by decide : 18 + 1 ≤ _), (by decide : 560 + 40 ≤ _)⟩)
            dsimp only [Pt.U, Pt.locs, Pt.cells, Pt.slots] at X270 l270 y270 z270 st270 hQ270
            subst l270 y270 z270
            obtain ⟨va270, cp270, rfl, Nq270, K270, or270, B270⟩ := hQ270
            have N270 := Fr.app N252 Nq270
            have Ex271 : Ext hB T270.heap := extKeep Ex250 K270 (allS hsb (allS hv all0))
            refine R2 st270 ?_
            show Rch p e below T270 (mkF m 110 #[vR sb, vR x, vI (34 : Int32), vI (0 : Int32), vI (2 : Int32), vI cc, vI (-1 : Int32)] [(.ref sb)]) _
            have le272 : hB.size ≤ va270 := le_or (k := 0) or270 hv Ex250.1
            have R270 := R250.trans (CHr.keep K270 HS269 R250.1)
            have hk270 := Nat.le_trans hk250 K270.1
            have SV270 : Safe Z EL vm250 T270.heap va270 := Safe.keep K270 HS269 R250.1 (safe_or or270 SW)
            refine R1 (XT.pop X270.here hx rfl (dq (dg des 38 rfl)) rfl rfl) ?_
            refine R1 (XS.goto X270.here hx rfl (pc0 := 111) (pc' := 128) rfl (dq (dg des 39 rfl)) (by decide) (by decide)) ?_
            refine R1 (XS.iinc X270.here hx rfl (dq (dg des 48 rfl)) rfl (l' := #[vR sb, vR x, vI (34 : Int32), vI (0 : Int32), vI (3 : Int32), vI cc, vI (-1 : Int32)]) rfl) ?_
            refine R1 (XS.goto X270.here hx rfl (pc0 := 131) (pc' := 3) rfl (dq (dg des 49 rfl)) (by decide) (by decide)) ?_
            show Rch p e below T270 (mkF m 3 #[vR sb, vR x, vI (34 : Int32), vI (0 : Int32), vI (3 : Int32), vI cc, vI (-1 : Int32)] []) _
            exact it3 _ _ _ _ _ _ _ _ _ (X270.mono (by decide) (by decide)) rfl N270 Ex271 hS250 hk270 hZ250 hown250 R270 hlt SV270 le272 (by rw [show escL (ts.take 3) = escL (ts.take 2) ++ esc1 (ts.getD 2 0) from esc_step hlt, hc, e1 h2 ⟨g1, g2⟩]; simpa [List.append_assoc] using B270)
      by_cases q1 : cc = (34 : Int32)
      · skip
        refine R1 (XS.icmpYes X252.here hx rfl (pc0 := 65) (pc' := 75) rfl (dq (dg des 18 rfl)) rfl (teq q1).1 (by decide) (by decide)) ?_
        show Rch p e below T252 (mkF m 75 #[vR sb, vR x, vI (34 : Int32), vI (0 : Int32), vI (2 : Int32), vI cc, vI (-1 : Int32)] []) _
        exact t75 0 (Or.inl q1)
      · skip
        refine R1 (XS.icmpNo X252.here hx rfl (dq (dg des 18 rfl)) rfl (feq q1).1) ?_
        refine R1 (XS.iload X252.here hx rfl (dq (dg des 19 rfl)) rfl) ?_
        refine R1 (XS.bipush X252.here hx rfl (dq (dg des 20 rfl)) ) ?_
        show Rch p e below T252 (mkF m 72 #[vR sb, vR x, vI (34 : Int32), vI (0 : Int32), vI (2 : Int32), vI cc, vI (-1 : Int32)] [(.int (92 : Int32)), (.int cc)]) _
        by_cases q2 : cc = (92 : Int32)
        · skip
          refine R1 (XS.icmpNo X252.here hx rfl (dq (dg des 21 rfl)) rfl (teq q2).2) ?_
          show Rch p e below T252 (mkF m 75 #[vR sb, vR x, vI (34 : Int32), vI (0 : Int32), vI (2 : Int32), vI cc, vI (-1 : Int32)] []) _
          exact t75 0 (Or.inr q2)
        · skip
          refine R1 (XS.icmpYes X252.here hx rfl (pc0 := 72) (pc' := 90) rfl (dq (dg des 21 rfl)) rfl (feq q2).2 (by decide) (by decide)) ?_
          show Rch p e below T252 (mkF m 90 #[vR sb, vR x, vI (34 : Int32), vI (0 : Int32), vI (2 : Int32), vI cc, vI (-1 : Int32)] []) _
          exact t90 0 (fun q => q.elim q1 q2)
    · skip
      have hge : ts.length ≤ 2 := Nat.le_of_not_lt hlt
      have hge' : ¬ (2 : Int32) < Int32.ofNat ts.length := ofN_le hge (by decide)
      refine R1 (XS.icmpYes X251.here hx rfl (pc0 := 9) (pc' := 134) rfl (dq (dg des 5 rfl)) rfl (flt hge').2.1 (by decide) (by decide)) ?_
      show Rch p e below T251 (mkF m 134 #[vR sb, vR x, vI (34 : Int32), vI (0 : Int32), vI (2 : Int32), vI sc, vI sd] []) _
      exact finWS (QS := Q_esc Z hB sb va x cap cs ts fm h0 n0) X251 hZ250 hEL hS250 (by rw [e251]; exact hk250) e251 R250 (x := va2) SW (exa_of BB.2.1.1) (v := none) (fun _ => rfl) (BodyLoose.notSynchronized Bd) (fun fs hr => X251.returnOut hx Bd.returns (dq (dg des 50 rfl)) hr) (by rw [e251]; exact ⟨cp2, rfl, N251, Ex250, hv, by rw [esc_all hge] at BB; exact BB⟩) (by decide) (by decide)
  have it1 : ∀ (T273 : State) (lc273 : List Loc) (h273 : Heap) (vm273 : Vm) (k0_273 : Nat) (va2 : Addr) (cp2 : Nat) (sc sd : Int32), Stand p l e rO33 (s.setVm vm273) m #[(.ref sb), (.ref x), (.int (34 : Int32)), (.int (0 : Int32))] below meth c T273 lc273 9 280 → T273.heap = h273 → Fr n0 lc273 → Ext hB h273 → s.Since vm273 k0_273 → k0_273 ≤ h273.size → Z.Warmed39 (s.setVm vm273).vm → (s.setVm vm273).vm.findClass "com/example/ampersat/ampersat/text/Literals" = some m.cls → CHr Z EL s.vm s.heap vm273 h273 → (1 ≤ ts.length) → (Safe Z EL vm273 h273 va2) → (hB.size ≤ va2) → (Sc Z h273 sb va2 cp2 (cs ++ escL (ts.take 1))) → Rch p e below T273 (mkF m 3 #[vR sb, vR x, vI (34 : Int32), vI (0 : Int32), vI (1 : Int32), vI sc, vI sd] []) (fun U o => ∃ v L, o = .returned v ∧ (∃ x2, Q_esc Z hB sb va x cap cs ts fm h0 n0 x2 v U.heap L ∧ Safe Z EL U.vm U.heap x2) ∧ CHr Z EL s.vm s.heap U.vm U.heap ∧ ReturnedEndW s o U L rO33.cells rO33.slots) := by
    intro T273 lc273 h273 vm273 k0_273 va2 cp2 sc sd X273 e273 N273 Ex273 hS273 hk273 hZ273 hown273 R273 hi SW hv BB
    show Rch p e below T273 (mkF m 3 #[vR sb, vR x, vI (34 : Int32), vI (0 : Int32), vI (1 : Int32), vI sc, vI sd] []) _
    have hle := esc_take ts 1
    refine R1 (XS.iload X273.here hx rfl (dq (dg des 2 rfl)) rfl) ?_
    refine R1 (XS.aloadN X273.here hx rfl (dq (dg des 3 rfl)) rfl rfl) ?_
    show Rch p e below T273 (mkF m 6 #[vR sb, vR x, vI (34 : Int32), vI (0 : Int32), vI (1 : Int32), vI sc, vI sd] [(.ref x), (.int (1 : Int32))]) _
    obtain ⟨cq274, kq274, q274a, q274b, q274c⟩ := isOf hZ273 e273 ((TX.ext Ex273)).exa
    obtain ⟨_, _, ⟨T274, L274, k274, n274⟩, -, X274, ⟨Lc274, hQ274, l274, y274, z274⟩, st274⟩ := X273.virtualBack hx (y := mN31) (z := mN31) hown273 (mw hZ273 hw 34 rfl) (mw hZ273 hw 35 rfl) (notFace_of_selects (args := #[]) (mw hZ273 hw 37 rfl)) (mw hZ273 hw 37 rfl) (mw hZ273 hw 36 rfl) (by decide) (lenS (W := 1) hZ273 hw (TX.ext Ex273) (B0.ext Ex273).1 (by omega) (by decide) (by decide)) q274a q274c (g := (mkF m 6 #[vR sb, vR x, vI (34 : Int32), vI (0 : Int32), vI (1 : Int32), vI sc, vI sd] [(.ref x), (.int (1 : Int32))])) rfl (by rw [hml]; rfl) (Steps.refl _) (argsL := []) (rest := [(.int (1 : Int32))]) (lenOf pd_17 rfl) rfl (w0 rfl) (dq (dg des 4 rfl)) (fun _ _ => ⟨rfl, e273, (by decide : 9 + 0 ≤ _), (by decide : 280 + 0 ≤ _)⟩)
    dsimp only [Pt.U, Pt.locs, Pt.cells, Pt.slots] at X274 l274 y274 z274 st274 hQ274
    subst l274 y274 z274
    obtain ⟨rfl, hL274, e274⟩ := hQ274
    subst hL274
    have Nq274 := Fr.nil n0
    have N274 := Fr.app N273 Nq274
    refine R2 st274 ?_
    show Rch p e below T274 (mkF m 9 #[vR sb, vR x, vI (34 : Int32), vI (0 : Int32), vI (1 : Int32), vI sc, vI sd] [(.int (Int32.ofNat ts.length)), (.int (1 : Int32))]) _
    by_cases hlt : 1 < ts.length
    · skip
      have hlt' : (1 : Int32) < Int32.ofNat ts.length := ofN_lt hlt (by omega)
      refine R1 (XS.icmpNo X274.here hx rfl (dq (dg des 5 rfl)) rfl (tlt hlt').2.1) ?_
      refine R1 (XS.aloadN X274.here hx rfl (dq (dg des 6 rfl)) rfl rfl) ?_
      refine R1 (XS.iload X274.here hx rfl (dq (dg des 7 rfl)) rfl) ?_
      show Rch p e below T274 (mkF m 15 #[vR sb, vR x, vI (34 : Int32), vI (0 : Int32), vI (1 : Int32), vI sc, vI sd] [(.int (1 : Int32)), (.ref x)]) _
      obtain ⟨cq275, kq275, q275a, q275b, q275c⟩ := isOf hZ273 e274 ((TX.ext Ex273)).exa
      obtain ⟨_, _, ⟨T275, L275, k275, n275⟩, -, X275, ⟨Lc275, hQ275, l275, y275, z275⟩, st275⟩ := X274.virtualBack hx (y := mN7) (z := mN7) hown273 (mw hZ273 hw 160 rfl) (mw hZ273 hw 130 rfl) (notFace_of_selects (args := #[]) (mw hZ273 hw 132 rfl)) (mw hZ273 hw 132 rfl) (mw hZ273 hw 131 rfl) (by decide) (chS (W := 0) hZ273 hw (TX.ext Ex273) (B0.ext Ex273) 1 hlt (by omega) n0 (Nat.le_trans ZB Ex273.1) (by decide) (by decide)) q275a q275c (g := (mkF m 15 #[vR sb, vR x, vI (34 : Int32), vI (0 : Int32), vI (1 : Int32), vI sc, vI sd] [(.int (1 : Int32)), (.ref x)])) rfl (by rw [hml]; rfl) (Steps.refl _) (argsL := [(.int (1 : Int32))]) (rest := []) (lenOf pd_29 rfl) rfl (w0 rfl) (dq (dg des 8 rfl)) (fun _ _ => ⟨rfl, e274, (by decide : 9 + 0 ≤ _), (by decide : 280 + 0 ≤ _)⟩)
      dsimp only [Pt.U, Pt.locs, Pt.cells, Pt.slots] at X275 l275 y275 z275 st275 hQ275
      subst l275 y275 z275
      obtain ⟨rfl, Nq275, e275⟩ := hQ275
      have N275 := Fr.app N274 Nq275
      refine R2 st275 ?_
      show Rch p e below T275 (mkF m 18 #[vR sb, vR x, vI (34 : Int32), vI (0 : Int32), vI (1 : Int32), vI sc, vI sd] [(.int (ts.getD 1 0))]) _
      generalize hc : ts.getD 1 0 = cc
      show Rch p e below T275 (mkF m 18 #[vR sb, vR x, vI (34 : Int32), vI (0 : Int32), vI (1 : Int32), vI sc, vI sd] [(.int cc)]) _
      refine R1 (XS.istore X275.here hx rfl (dq (dg des 9 rfl)) rfl (l' := #[vR sb, vR x, vI (34 : Int32), vI (0 : Int32), vI (1 : Int32), vI cc, vI sd]) rfl) ?_
      refine R1 (XS.iloadN X275.here hx rfl (dq (dg des 10 rfl)) rfl) ?_
      refine R1 (XS.ifYes X275.here hx rfl (pc0 := 21) (pc' := 34) rfl (dq (dg des 11 rfl)) rfl (by decide : ifCond.holds .eq (0 : Int32) = true) (by decide) (by decide)) ?_
      refine R1 (XS.iconst X275.here hx rfl (dq (dg des 12 rfl)) ) ?_
      refine R1 (XS.istore X275.here hx rfl (dq (dg des 13 rfl)) rfl (l' := #[vR sb, vR x, vI (34 : Int32), vI (0 : Int32), vI (1 : Int32), vI cc, vI (-1 : Int32)]) rfl) ?_
      refine R1 (XS.iload X275.here hx rfl (dq (dg des 14 rfl)) rfl) ?_
      refine R1 (XS.ifYes X275.here hx rfl (pc0 := 39) (pc' := 62) rfl (dq (dg des 15 rfl)) rfl (by decide : ifCond.holds .lt (-1 : Int32) = true) (by decide) (by decide)) ?_
      refine R1 (XS.iload X275.here hx rfl (dq (dg des 16 rfl)) rfl) ?_
      refine R1 (XS.iloadN X275.here hx rfl (dq (dg des 17 rfl)) rfl) ?_
      show Rch p e below T275 (mkF m 65 #[vR sb, vR x, vI (34 : Int32), vI (0 : Int32), vI (1 : Int32), vI cc, vI (-1 : Int32)] [(.int (34 : Int32)), (.int cc)]) _
      have t75 : ∀ (u : Int32), is2 cc → Rch p e below T275 (mkF m 75 #[vR sb, vR x, vI (34 : Int32), vI (0 : Int32), vI (1 : Int32), vI cc, vI (-1 : Int32)] []) (fun U o => ∃ v L, o = .returned v ∧ (∃ x2, Q_esc Z hB sb va x cap cs ts fm h0 n0 x2 v U.heap L ∧ Safe Z EL U.vm U.heap x2) ∧ CHr Z EL s.vm s.heap U.vm U.heap ∧ ReturnedEndW s o U L rO33.cells rO33.slots) := by
        intro u h2
        show Rch p e below T275 (mkF m 75 #[vR sb, vR x, vI (34 : Int32), vI (0 : Int32), vI (1 : Int32), vI cc, vI (-1 : Int32)] []) _
        refine R1 (XS.aloadN X275.here hx rfl (dq (dg des 22 rfl)) rfl rfl) ?_
        refine R1 (XS.bipush X275.here hx rfl (dq (dg des 23 rfl)) ) ?_
        show Rch p e below T275 (mkF m 78 #[vR sb, vR x, vI (34 : Int32), vI (0 : Int32), vI (1 : Int32), vI cc, vI (-1 : Int32)] [(.int (92 : Int32)), (.ref sb)]) _
        have HS276 : ∀ x ∈ [sb, va2], Safe Z EL vm273 h273 x := allS (Safe.exa (State.Warmed39.alike hZ273) BB.1.1 (by decide) (by decide)) (allS SW all0)
        obtain ⟨cq277, kq277, q277a, q277b, q277c⟩ := isOf hZ273 e275 BB.1.1
        obtain ⟨_, _, ⟨T277, L277, k277, n277⟩, -, X277, ⟨Lc277, hQ277, l277, y277, z277⟩, st277⟩ := X275.virtualBack hx (y := mN38) (z := mN38) hown273 (mw hZ273 hw 60 rfl) (mw hZ273 hw 61 rfl) (notFace_of_selects (args := #[]) (mw hZ273 hw 63 rfl)) (mw hZ273 hw 63 rfl) (mw hZ273 hw 62 rfl) (by decide) (backOf (W := 0) (rm_sbAppC l Z a0 hw [] sb va2 cp2 (cs ++ escL (ts.take 1)) (92 : Int32) h273 n0 (Nat.le_trans ZB Ex273.1) BB (Nat.le_trans ZB hsb) (Nat.le_trans ZB hv) (by first | omega | (simp only [List.length_append, List.length_cons, List.length_nil]; omega)) (by decide) (B0.ext Ex273).1) hZ273 (wq hw 64 rfl) (wq hw 33 rfl) (by decide) (by decide)) q277a q277c (g := (mkF m 78 #[vR sb, vR x, vI (34 : Int32), vI (0 : Int32), vI (1 : Int32), vI cc, vI (-1 : Int32)] [(.int (92 : Int32)), (.ref sb)])) rfl (by rw [hml]; rfl) (Steps.refl _) (argsL := [(.int (92 : Int32))]) (rest := []) (lenOf pd_30 rfl) rfl (w0 rfl) (dq (dg des 24 rfl)) (fun _ _ => ⟨rfl, e275, (by decide : 9 + 1 ≤ _), (by decide : 280 + 40 ≤ _)⟩)
        dsimp only [Pt.U, Pt.locs, Pt.cells, Pt.slots] at X277 l277 y277 z277 st277 hQ277
        subst l277 y277 z277
        obtain ⟨va277, cp277, rfl, Nq277, K277, or277, B277⟩ := hQ277
        have N277 := Fr.app N275 Nq277
        have Ex278 : Ext hB T277.heap := extKeep Ex273 K277 (allS hsb (allS hv all0))
        refine R2 st277 ?_
        show Rch p e below T277 (mkF m 81 #[vR sb, vR x, vI (34 : Int32), vI (0 : Int32), vI (1 : Int32), vI cc, vI (-1 : Int32)] [(.ref sb)]) _
        have le279 : hB.size ≤ va277 := le_or (k := 0) or277 hv Ex273.1
        have R277 := R273.trans (CHr.keep K277 HS276 R273.1)
        have hk277 := Nat.le_trans hk273 K277.1
        have SV277 : Safe Z EL vm273 T277.heap va277 := Safe.keep K277 HS276 R273.1 (safe_or or277 SW)
        refine R1 (XS.iload X277.here hx rfl (dq (dg des 25 rfl)) rfl) ?_
        show Rch p e below T277 (mkF m 83 #[vR sb, vR x, vI (34 : Int32), vI (0 : Int32), vI (1 : Int32), vI cc, vI (-1 : Int32)] [(.int cc), (.ref sb)]) _
        have HS280 : ∀ x ∈ [sb, va277], Safe Z EL vm273 T277.heap x := allS (Safe.exa (State.Warmed39.alike hZ273) B277.1.1 (by decide) (by decide)) (allS SV277 all0)
        obtain ⟨cq281, kq281, q281a, q281b, q281c⟩ := isOf hZ273 rfl B277.1.1
        obtain ⟨_, _, ⟨T281, L281, k281, n281⟩, -, X281, ⟨Lc281, hQ281, l281, y281, z281⟩, st281⟩ := X277.virtualBack hx (y := mN38) (z := mN38) hown273 (mw hZ273 hw 60 rfl) (mw hZ273 hw 61 rfl) (notFace_of_selects (args := #[]) (mw hZ273 hw 63 rfl)) (mw hZ273 hw 63 rfl) (mw hZ273 hw 62 rfl) (by decide) (backOf (W := 0) (rm_sbAppC l Z a0 hw [] sb va277 cp277 (cs ++ escL (ts.take 1) ++ [(92 : Int32)]) cc T277.heap n0 (Nat.le_trans ZB Ex278.1) B277 (Nat.le_trans ZB hsb) (Nat.le_trans ZB le279) (by first | omega | (simp only [List.length_append, List.length_cons, List.length_nil]; omega)) (by rcases h2 with rfl | rfl <;> decide) (B0.ext Ex278).1) hZ273 (wq hw 64 rfl) (wq hw 33 rfl) (by decide) (by decide)) q281a q281c (g := (mkF m 83 #[vR sb, vR x, vI (34 : Int32), vI (0 : Int32), vI (1 : Int32), vI cc, vI (-1 : Int32)] [(.int cc), (.ref sb)])) rfl (by rw [hml]; rfl) (Steps.refl _) (argsL := [(.int cc)]) (rest := []) (lenOf pd_30 rfl) rfl (w0 rfl) (dq (dg des 26 rfl)) (fun _ _ => ⟨rfl, rfl, (by decide : 10 + 1 ≤ _), (by decide : 320 + 40 ≤ _)⟩)
        dsimp only [Pt.U, Pt.locs, Pt.cells, Pt.slots] at X281 l281 y281 z281 st281 hQ281
        subst l281 y281 z281
        obtain ⟨va281, cp281, rfl, Nq281, K281, or281, B281⟩ := hQ281
        have N281 := Fr.app N277 Nq281
        have Ex282 : Ext hB T281.heap := extKeep Ex278 K281 (allS hsb (allS le279 all0))
        refine R2 st281 ?_
        show Rch p e below T281 (mkF m 86 #[vR sb, vR x, vI (34 : Int32), vI (0 : Int32), vI (1 : Int32), vI cc, vI (-1 : Int32)] [(.ref sb)]) _
        have le283 : hB.size ≤ va281 := le_or (k := 0) or281 le279 Ex278.1
        have R281 := R277.trans (CHr.keep K281 HS280 R277.1)
        have hk281 := Nat.le_trans hk277 K281.1
        have SV281 : Safe Z EL vm273 T281.heap va281 := Safe.keep K281 HS280 R277.1 (safe_or or281 SV277)
        refine R1 (XT.pop X281.here hx rfl (dq (dg des 27 rfl)) rfl rfl) ?_
        refine R1 (XS.goto X281.here hx rfl (pc0 := 87) (pc' := 128) rfl (dq (dg des 28 rfl)) (by decide) (by decide)) ?_
        refine R1 (XS.iinc X281.here hx rfl (dq (dg des 48 rfl)) rfl (l' := #[vR sb, vR x, vI (34 : Int32), vI (0 : Int32), vI (2 : Int32), vI cc, vI (-1 : Int32)]) rfl) ?_
        refine R1 (XS.goto X281.here hx rfl (pc0 := 131) (pc' := 3) rfl (dq (dg des 49 rfl)) (by decide) (by decide)) ?_
        show Rch p e below T281 (mkF m 3 #[vR sb, vR x, vI (34 : Int32), vI (0 : Int32), vI (2 : Int32), vI cc, vI (-1 : Int32)] []) _
        exact it2 _ _ _ _ _ _ _ _ _ (X281.mono (by decide) (by decide)) rfl N281 Ex282 hS273 hk281 hZ273 hown273 R281 hlt SV281 le283 (by rw [show escL (ts.take 2) = escL (ts.take 1) ++ esc1 (ts.getD 1 0) from esc_step hlt, hc, e2 h2]; simpa [List.append_assoc] using B281)
      have t114 : ∀ (u : Int32), ¬ is2 cc → ¬ is1 cc → Rch p e below T275 (mkF m 114 #[vR sb, vR x, vI (34 : Int32), vI (0 : Int32), vI (1 : Int32), vI cc, vI (-1 : Int32)] []) (fun U o => ∃ v L, o = .returned v ∧ (∃ x2, Q_esc Z hB sb va x cap cs ts fm h0 n0 x2 v U.heap L ∧ Safe Z EL U.vm U.heap x2) ∧ CHr Z EL s.vm s.heap U.vm U.heap ∧ ReturnedEndW s o U L rO33.cells rO33.slots) := by
        intro u h2 h1
        show Rch p e below T275 (mkF m 114 #[vR sb, vR x, vI (34 : Int32), vI (0 : Int32), vI (1 : Int32), vI cc, vI (-1 : Int32)] []) _
        refine R1 (XS.aloadN X275.here hx rfl (dq (dg des 40 rfl)) rfl rfl) ?_
        show Rch p e below T275 (mkF m 115 #[vR sb, vR x, vI (34 : Int32), vI (0 : Int32), vI (1 : Int32), vI cc, vI (-1 : Int32)] [(.ref sb)]) _
        obtain ⟨a284, T284, h284, kk284, b284, kb284, X284, e284, E284, hS284, hk284, hZ284, hown284, EX284, CO284, VA284, AR284, la284, lb284, CR284, LT284, SF284, st284⟩ := ldcCH X275 hx hZ273 hown273 (wq hw 161 rfl) wS e275 hS273 hk273 hEL (by simp [EL]) R273.1 (vs := ([92, 117] : List Int32).map (fun c => Value.int c.toInt8.toInt32)) (z := (2 : Int32)) ⟨by decide, by decide⟩ (by decide) rfl (g := (mkF m 115 #[vR sb, vR x, vI (34 : Int32), vI (0 : Int32), vI (1 : Int32), vI cc, vI (-1 : Int32)] [(.ref sb)])) rfl (dq (dg des 41 rfl)) (n := 8) (by decide) (by decide) (by decide) (by decide)
        have Ex285 : Ext hB h284 := Ex273.tr E284
        have R284 := R273.trans CR284
        refine R0_ st284 ?_
        show Rch p e below T284 (mkF m 117 #[vR sb, vR x, vI (34 : Int32), vI (0 : Int32), vI (1 : Int32), vI cc, vI (-1 : Int32)] [(.ref a284), (.ref sb)]) _
        have SV284 := CR284.safe (exa_of BB.2.1.1) SW
        have LS284 : Lt Z h284 a284 b284 ([92, 117] : List Int32) := ⟨EX284, VA284, CO284, kb284, by unfold byt; rw [List.map_map]; exact AR284⟩
        have B_ := BB.ext E284
        have HS287 : ∀ x ∈ [sb, va2], Safe Z EL T284.vm h284 x := allS (Safe.exa (State.Warmed39.alike hZ284) B_.1.1 (by decide) (by decide)) (allS SV284 all0)
        obtain ⟨cq288, kq288, q288a, q288b, q288c⟩ := isOf hZ284 e284 B_.1.1
        obtain ⟨_, _, ⟨T288, L288, k288, n288⟩, -, X288, ⟨Lc288, hQ288, l288, y288, z288⟩, st288⟩ := X284.virtualBack hx (y := mN36) (z := mN36) hown284 (mw hZ284 hw 162 rfl) (mw hZ284 hw 163 rfl) (notFace_of_selects (args := #[]) (mw hZ284 hw 165 rfl)) (mw hZ284 hw 165 rfl) (mw hZ284 hw 164 rfl) (by decide) (backOf (W := 0) (rm_sbApp l Z a0 hw [] sb va2 a284 b284 cp2 (cs ++ escL (ts.take 1)) [92, 117] h284 n0 (Nat.le_trans ZB Ex285.1) B_ LS284 (Nat.le_trans ZB hsb) (Nat.le_trans ZB hv) (by first | omega | (simp only [List.length_append, List.length_cons, List.length_nil]; omega)) (B0.ext Ex285).1) hZ284 (wq hw 166 rfl) (wq hw 33 rfl) (by decide) (by decide)) q288a q288c (g := (mkF m 117 #[vR sb, vR x, vI (34 : Int32), vI (0 : Int32), vI (1 : Int32), vI cc, vI (-1 : Int32)] [(.ref a284), (.ref sb)])) rfl (by rw [hml]; rfl) (Steps.refl _) (argsL := [(.ref a284)]) (rest := []) (lenOf pd_31 rfl) rfl (w0 rfl) (dq (dg des 42 rfl)) (fun _ _ => ⟨rfl, e284, (by decide : 11 + 1 ≤ _), (by decide : 292 + 40 ≤ _)⟩)
        dsimp only [Pt.U, Pt.locs, Pt.cells, Pt.slots] at X288 l288 y288 z288 st288 hQ288
        subst l288 y288 z288
        obtain ⟨va288, cp288, rfl, Nq288, K288, or288, B288⟩ := hQ288
        have N288 := Fr.app N275 Nq288
        have Ex289 : Ext hB T288.heap := extKeep Ex285 K288 (allS hsb (allS hv all0))
        refine R2 st288 ?_
        show Rch p e below T288 (mkF m 120 #[vR sb, vR x, vI (34 : Int32), vI (0 : Int32), vI (1 : Int32), vI cc, vI (-1 : Int32)] [(.ref sb)]) _
        have le290 : hB.size ≤ va288 := le_or (k := 0) or288 hv Ex285.1
        have R288 := R284.trans (CHr.keep K288 HS287 R284.1)
        have hk288 := Nat.le_trans hk284 K288.1
        have SV288 : Safe Z EL T284.vm T288.heap va288 := Safe.keep K288 HS287 R284.1 (safe_or or288 SV284)
        refine R1 (XT.pop X288.here hx rfl (dq (dg des 43 rfl)) rfl rfl) ?_
        refine R1 (XS.aloadN X288.here hx rfl (dq (dg des 44 rfl)) rfl rfl) ?_
        refine R1 (XS.iload X288.here hx rfl (dq (dg des 45 rfl)) rfl) ?_
        refine R1 (XS.iconst X288.here hx rfl (dq (dg des 46 rfl)) ) ?_
        show Rch p e below T288 (mkF m 125 #[vR sb, vR x, vI (34 : Int32), vI (0 : Int32), vI (1 : Int32), vI cc, vI (-1 : Int32)] [(.int (4 : Int32)), (.int cc), (.ref sb)]) _
        obtain ⟨_, _, ⟨T291, L291, k291, n291⟩, -, X291_, hS291_, hg291_, ⟨Lc291, hQ291, l291, y291, z291, CR291⟩, st291⟩ := callSS X288 hx (y := mN45) hown284 (mw hZ284 hw 192 rfl) (mw hZ284 hw 193 rfl) (mw hZ284 hw 29 rfl) (mw hZ284 hw 194 rfl) (by decide) (backOfSP (W := 0) (va := va288) (rm_hexA l Z a0 hw [] hB sb va288 cp288 (cs ++ escL (ts.take 1) ++ [92, 117]) cc fm T288.heap n0 (Nat.le_trans ZB Ex289.1) ZB Ex289 B0 hsb le290 B288 (by first | omega | (simp only [List.length_append, List.length_cons, List.length_nil]; omega))) hZ284 (wq hw 194 rfl) (wq hw 29 rfl) (by decide) (by decide) hEL R288.1 SV288 (exa_of B288.2.1.1)) (g := (mkF m 125 #[vR sb, vR x, vI (34 : Int32), vI (0 : Int32), vI (1 : Int32), vI cc, vI (-1 : Int32)] [(.int (4 : Int32)), (.int cc), (.ref sb)])) rfl (by rw [hml]; rfl) (argsL := [(.ref sb), (.int cc), (.int (4 : Int32))]) (rest := []) (lenOf pd_32 rfl) rfl (w0 rfl) (dq (dg des 47 rfl)) (fun _ _ => ⟨rfl, rfl, (by decide : 12 + 6 ≤ _), (by decide : 332 + 228 ≤ _)⟩)
        dsimp only [Pt.U, Pt.locs, Pt.cells, Pt.slots] at X291_ hS291_ hg291_ l291 y291 z291 st291 hQ291 CR291
        subst l291 y291 z291
        obtain ⟨X291, hS291, hZ291, hown291⟩ := rebS hS284 hk288 X291_ hS291_ hg291_ hZ284 hown284
        obtain ⟨x291, hq291, SV291⟩ := hQ291
        obtain ⟨cp291, rfl, Nq291, E291, le291_, B291⟩ := hq291
        have N291 := Fr.app N288 Nq291
        have R291 := R288.trans CR291
        refine R2 st291 ?_
        show Rch p e below T291 (mkF m 128 #[vR sb, vR x, vI (34 : Int32), vI (0 : Int32), vI (1 : Int32), vI cc, vI (-1 : Int32)] []) _
        refine R1 (XS.iinc X291.here hx rfl (dq (dg des 48 rfl)) rfl (l' := #[vR sb, vR x, vI (34 : Int32), vI (0 : Int32), vI (2 : Int32), vI cc, vI (-1 : Int32)]) rfl) ?_
        refine R1 (XS.goto X291.here hx rfl (pc0 := 131) (pc' := 3) rfl (dq (dg des 49 rfl)) (by decide) (by decide)) ?_
        show Rch p e below T291 (mkF m 3 #[vR sb, vR x, vI (34 : Int32), vI (0 : Int32), vI (2 : Int32), vI cc, vI (-1 : Int32)] []) _
        exact it2 _ _ _ _ _ _ _ _ _ X291 rfl N291 E291 hS291 (Nat.le_refl _) hZ291 hown291 R291 hlt SV291 le291_ (by rw [show escL (ts.take 2) = escL (ts.take 1) ++ esc1 (ts.getD 1 0) from esc_step hlt, hc, e6 h2 h1]; simpa [List.append_assoc] using B291)
      have t90 : ∀ (u : Int32), ¬ is2 cc → Rch p e below T275 (mkF m 90 #[vR sb, vR x, vI (34 : Int32), vI (0 : Int32), vI (1 : Int32), vI cc, vI (-1 : Int32)] []) (fun U o => ∃ v L, o = .returned v ∧ (∃ x2, Q_esc Z hB sb va x cap cs ts fm h0 n0 x2 v U.heap L ∧ Safe Z EL U.vm U.heap x2) ∧ CHr Z EL s.vm s.heap U.vm U.heap ∧ ReturnedEndW s o U L rO33.cells rO33.slots) := by
        intro u h2
        show Rch p e below T275 (mkF m 90 #[vR sb, vR x, vI (34 : Int32), vI (0 : Int32), vI (1 : Int32), vI cc, vI (-1 : Int32)] []) _
        refine R1 (XS.iload X275.here hx rfl (dq (dg des 29 rfl)) rfl) ?_
        refine R1 (XS.bipush X275.here hx rfl (dq (dg des 30 rfl)) ) ?_
        show Rch p e below T275 (mkF m 94 #[vR sb, vR x, vI (34 : Int32), vI (0 : Int32), vI (1 : Int32), vI cc, vI (-1 : Int32)] [(.int (32 : Int32)), (.int cc)]) _
        by_cases g1 : cc < (32 : Int32)
        · skip
          refine R1 (XS.icmpYes X275.here hx rfl (pc0 := 94) (pc' := 114) rfl (dq (dg des 31 rfl)) rfl (tlt g1).1 (by decide) (by decide)) ?_
          show Rch p e below T275 (mkF m 114 #[vR sb, vR x, vI (34 : Int32), vI (0 : Int32), vI (1 : Int32), vI cc, vI (-1 : Int32)] []) _
          exact t114 0 h2 (fun q => q.1 g1)
        · skip
          refine R1 (XS.icmpNo X275.here hx rfl (dq (dg des 31 rfl)) rfl (flt g1).1) ?_
          refine R1 (XS.iload X275.here hx rfl (dq (dg des 32 rfl)) rfl) ?_
          refine R1 (XS.bipush X275.here hx rfl (dq (dg des 33 rfl)) ) ?_
          show Rch p e below T275 (mkF m 101 #[vR sb, vR x, vI (34 : Int32), vI (0 : Int32), vI (1 : Int32), vI cc, vI (-1 : Int32)] [(.int (126 : Int32)), (.int cc)]) _
          by_cases g2 : (126 : Int32) < cc
          · skip
            refine R1 (XS.icmpYes X275.here hx rfl (pc0 := 101) (pc' := 114) rfl (dq (dg des 34 rfl)) rfl (tlt g2).2.2.1 (by decide) (by decide)) ?_
            show Rch p e below T275 (mkF m 114 #[vR sb, vR x, vI (34 : Int32), vI (0 : Int32), vI (1 : Int32), vI cc, vI (-1 : Int32)] []) _
            exact t114 0 h2 (fun q => q.2 g2)
          · skip
            refine R1 (XS.icmpNo X275.here hx rfl (dq (dg des 34 rfl)) rfl (flt g2).2.2.1) ?_
            refine R1 (XS.aloadN X275.here hx rfl (dq (dg des 35 rfl)) rfl rfl) ?_
            refine R1 (XS.iload X275.here hx rfl (dq (dg des 36 rfl)) rfl) ?_
            show Rch p e below T275 (mkF m 107 #[vR sb, vR x, vI (34 : Int32), vI (0 : Int32), vI (1 : Int32), vI cc, vI (-1 : Int32)] [(.int cc), (.ref sb)]) _
            have HS292 : ∀ x ∈ [sb, va2], Safe Z EL vm273 h273 x := allS (Safe.exa (State.Warmed39.alike hZ273) BB.1.1 (by decide) (by decide)) (allS SW all0)
            obtain ⟨cq293, kq293, q293a, q293b, q293c⟩ := isOf hZ273 e275 BB.1.1
            obtain ⟨_, _, ⟨T293, L293, k293, n293⟩, -, X293, ⟨Lc293, hQ293, l293, y293, z293⟩, st293⟩ := X275.virtualBack hx (y := mN38) (z := mN38) hown273 (mw hZ273 hw 60 rfl) (mw hZ273 hw 61 rfl) (notFace_of_selects (args := #[]) (mw hZ273 hw 63 rfl)) (mw hZ273 hw 63 rfl) (mw hZ273 hw 62 rfl) (by decide) (backOf (W := 0) (rm_sbAppC l Z a0 hw [] sb va2 cp2 (cs ++ escL (ts.take 1)) cc h273 n0 (Nat.le_trans ZB Ex273.1) BB (Nat.le_trans ZB hsb) (Nat.le_trans ZB hv) (by first | omega | (simp only [List.length_append, List.length_cons, List.length_nil]; omega)) (lt255 g2) (B0.ext Ex273).1) hZ273 (wq hw 64 rfl) (wq hw 33 rfl) (by decide) (by decide)) q293a q293c (g := (mkF m 107 #[vR sb, vR x, vI (34 : Int32), vI (0 : Int32), vI (1 : Int32), vI cc, vI (-1 : Int32)] [(.int cc), (.ref sb)])) rfl (by rw [hml]; rfl) (Steps.refl _) (argsL := [(.int cc)]) (rest := []) (lenOf pd_30 rfl) rfl (w0 rfl) (dq (dg des 37 rfl)) (fun _ _ => ⟨rfl, e275, (by decide : 9 + 1 ≤ _), (by decide : 280 + 40 ≤ _)⟩)
            dsimp only [Pt.U, Pt.locs, Pt.cells, Pt.slots] at X293 l293 y293 z293 st293 hQ293
            subst l293 y293 z293
            obtain ⟨va293, cp293, rfl, Nq293, K293, or293, B293⟩ := hQ293
            have N293 := Fr.app N275 Nq293
            have Ex294 : Ext hB T293.heap := extKeep Ex273 K293 (allS hsb (allS hv all0))
            refine R2 st293 ?_
            show Rch p e below T293 (mkF m 110 #[vR sb, vR x, vI (34 : Int32), vI (0 : Int32), vI (1 : Int32), vI cc, vI (-1 : Int32)] [(.ref sb)]) _
            have le295 : hB.size ≤ va293 := le_or (k := 0) or293 hv Ex273.1
            have R293 := R273.trans (CHr.keep K293 HS292 R273.1)
            have hk293 := Nat.le_trans hk273 K293.1
            have SV293 : Safe Z EL vm273 T293.heap va293 := Safe.keep K293 HS292 R273.1 (safe_or or293 SW)
            refine R1 (XT.pop X293.here hx rfl (dq (dg des 38 rfl)) rfl rfl) ?_
            refine R1 (XS.goto X293.here hx rfl (pc0 := 111) (pc' := 128) rfl (dq (dg des 39 rfl)) (by decide) (by decide)) ?_
            refine R1 (XS.iinc X293.here hx rfl (dq (dg des 48 rfl)) rfl (l' := #[vR sb, vR x, vI (34 : Int32), vI (0 : Int32), vI (2 : Int32), vI cc, vI (-1 : Int32)]) rfl) ?_
            refine R1 (XS.goto X293.here hx rfl (pc0 := 131) (pc' := 3) rfl (dq (dg des 49 rfl)) (by decide) (by decide)) ?_
            show Rch p e below T293 (mkF m 3 #[vR sb, vR x, vI (34 : Int32), vI (0 : Int32), vI (2 : Int32), vI cc, vI (-1 : Int32)] []) _
            exact it2 _ _ _ _ _ _ _ _ _ (X293.mono (by decide) (by decide)) rfl N293 Ex294 hS273 hk293 hZ273 hown273 R293 hlt SV293 le295 (by rw [show escL (ts.take 2) = escL (ts.take 1) ++ esc1 (ts.getD 1 0) from esc_step hlt, hc, e1 h2 ⟨g1, g2⟩]; simpa [List.append_assoc] using B293)
      by_cases q1 : cc = (34 : Int32)
      · skip
        refine R1 (XS.icmpYes X275.here hx rfl (pc0 := 65) (pc' := 75) rfl (dq (dg des 18 rfl)) rfl (teq q1).1 (by decide) (by decide)) ?_
        show Rch p e below T275 (mkF m 75 #[vR sb, vR x, vI (34 : Int32), vI (0 : Int32), vI (1 : Int32), vI cc, vI (-1 : Int32)] []) _
        exact t75 0 (Or.inl q1)
      · skip
        refine R1 (XS.icmpNo X275.here hx rfl (dq (dg des 18 rfl)) rfl (feq q1).1) ?_
        refine R1 (XS.iload X275.here hx rfl (dq (dg des 19 rfl)) rfl) ?_
        refine R1 (XS.bipush X275.here hx rfl (dq (dg des 20 rfl)) ) ?_
        show Rch p e below T275 (mkF m 72 #[vR sb, vR x, vI (34 : Int32), vI (0 : Int32), vI (1 : Int32), vI cc, vI (-1 : Int32)] [(.int (92 : Int32)), (.int cc)]) _
        by_cases q2 : cc = (92 : Int32)
        · skip
          refine R1 (XS.icmpNo X275.here hx rfl (dq (dg des 21 rfl)) rfl (teq q2).2) ?_
          show Rch p e below T275 (mkF m 75 #[vR sb, vR x, vI (34 : Int32), vI (0 : Int32), vI (1 : Int32), vI cc, vI (-1 : Int32)] []) _
          exact t75 0 (Or.inr q2)
        · skip
          refine R1 (XS.icmpYes X275.here hx rfl (pc0 := 72) (pc' := 90) rfl (dq (dg des 21 rfl)) rfl (feq q2).2 (by decide) (by decide)) ?_
          show Rch p e below T275 (mkF m 90 #[vR sb, vR x, vI (34 : Int32), vI (0 : Int32), vI (1 : Int32), vI cc, vI (-1 : Int32)] []) _
          exact t90 0 (fun q => q.elim q1 q2)
    · skip
      have hge : ts.length ≤ 1 := Nat.le_of_not_lt hlt
      have hge' : ¬ (1 : Int32) < Int32.ofNat ts.length := ofN_le hge (by decide)
      refine R1 (XS.icmpYes X274.here hx rfl (pc0 := 9) (pc' := 134) rfl (dq (dg des 5 rfl)) rfl (flt hge').2.1 (by decide) (by decide)) ?_
      show Rch p e below T274 (mkF m 134 #[vR sb, vR x, vI (34 : Int32), vI (0 : Int32), vI (1 : Int32), vI sc, vI sd] []) _
      exact finWS (QS := Q_esc Z hB sb va x cap cs ts fm h0 n0) X274 hZ273 hEL hS273 (by rw [e274]; exact hk273) e274 R273 (x := va2) SW (exa_of BB.2.1.1) (v := none) (fun _ => rfl) (BodyLoose.notSynchronized Bd) (fun fs hr => X274.returnOut hx Bd.returns (dq (dg des 50 rfl)) hr) (by rw [e274]; exact ⟨cp2, rfl, N274, Ex273, hv, by rw [esc_all hge] at BB; exact BB⟩) (by decide) (by decide)
  have it0 : ∀ (T296 : State) (lc296 : List Loc) (h296 : Heap) (vm296 : Vm) (k0_296 : Nat) (va2 : Addr) (cp2 : Nat), Stand p l e rO33 (s.setVm vm296) m #[(.ref sb), (.ref x), (.int (34 : Int32)), (.int (0 : Int32))] below meth c T296 lc296 0 0 → T296.heap = h296 → Fr n0 lc296 → Ext hB h296 → s.Since vm296 k0_296 → k0_296 ≤ h296.size → Z.Warmed39 (s.setVm vm296).vm → (s.setVm vm296).vm.findClass "com/example/ampersat/ampersat/text/Literals" = some m.cls → CHr Z EL s.vm s.heap vm296 h296 → (0 ≤ ts.length) → (Safe Z EL vm296 h296 va2) → (hB.size ≤ va2) → (Sc Z h296 sb va2 cp2 (cs ++ escL (ts.take 0))) → Rch p e below T296 (mkF m 3 #[vR sb, vR x, vI (34 : Int32), vI (0 : Int32), vI (0 : Int32), .unset, .unset] []) (fun U o => ∃ v L, o = .returned v ∧ (∃ x2, Q_esc Z hB sb va x cap cs ts fm h0 n0 x2 v U.heap L ∧ Safe Z EL U.vm U.heap x2) ∧ CHr Z EL s.vm s.heap U.vm U.heap ∧ ReturnedEndW s o U L rO33.cells rO33.slots) := by
    intro T296 lc296 h296 vm296 k0_296 va2 cp2 X296 e296 N296 Ex296 hS296 hk296 hZ296 hown296 R296 hi SW hv BB
    show Rch p e below T296 (mkF m 3 #[vR sb, vR x, vI (34 : Int32), vI (0 : Int32), vI (0 : Int32), .unset, .unset] []) _
    have hle := esc_take ts 0
    refine R1 (XS.iload X296.here hx rfl (dq (dg des 2 rfl)) rfl) ?_
    refine R1 (XS.aloadN X296.here hx rfl (dq (dg des 3 rfl)) rfl rfl) ?_
    show Rch p e below T296 (mkF m 6 #[vR sb, vR x, vI (34 : Int32), vI (0 : Int32), vI (0 : Int32), .unset, .unset] [(.ref x), (.int (0 : Int32))]) _
    obtain ⟨cq297, kq297, q297a, q297b, q297c⟩ := isOf hZ296 e296 ((TX.ext Ex296)).exa
    obtain ⟨_, _, ⟨T297, L297, k297, n297⟩, -, X297, ⟨Lc297, hQ297, l297, y297, z297⟩, st297⟩ := X296.virtualBack hx (y := mN31) (z := mN31) hown296 (mw hZ296 hw 34 rfl) (mw hZ296 hw 35 rfl) (notFace_of_selects (args := #[]) (mw hZ296 hw 37 rfl)) (mw hZ296 hw 37 rfl) (mw hZ296 hw 36 rfl) (by decide) (lenS (W := 1) hZ296 hw (TX.ext Ex296) (B0.ext Ex296).1 (by omega) (by decide) (by decide)) q297a q297c (g := (mkF m 6 #[vR sb, vR x, vI (34 : Int32), vI (0 : Int32), vI (0 : Int32), .unset, .unset] [(.ref x), (.int (0 : Int32))])) rfl (by rw [hml]; rfl) (Steps.refl _) (argsL := []) (rest := [(.int (0 : Int32))]) (lenOf pd_17 rfl) rfl (w0 rfl) (dq (dg des 4 rfl)) (fun _ _ => ⟨rfl, e296, (by decide : 0 + 0 ≤ _), (by decide : 0 + 0 ≤ _)⟩)
    dsimp only [Pt.U, Pt.locs, Pt.cells, Pt.slots] at X297 l297 y297 z297 st297 hQ297
    subst l297 y297 z297
    obtain ⟨rfl, hL297, e297⟩ := hQ297
    subst hL297
    have Nq297 := Fr.nil n0
    have N297 := Fr.app N296 Nq297
    refine R2 st297 ?_
    show Rch p e below T297 (mkF m 9 #[vR sb, vR x, vI (34 : Int32), vI (0 : Int32), vI (0 : Int32), .unset, .unset] [(.int (Int32.ofNat ts.length)), (.int (0 : Int32))]) _
    by_cases hlt : 0 < ts.length
    · skip
      have hlt' : (0 : Int32) < Int32.ofNat ts.length := ofN_lt hlt (by omega)
      refine R1 (XS.icmpNo X297.here hx rfl (dq (dg des 5 rfl)) rfl (tlt hlt').2.1) ?_
      refine R1 (XS.aloadN X297.here hx rfl (dq (dg des 6 rfl)) rfl rfl) ?_
      refine R1 (XS.iload X297.here hx rfl (dq (dg des 7 rfl)) rfl) ?_
      show Rch p e below T297 (mkF m 15 #[vR sb, vR x, vI (34 : Int32), vI (0 : Int32), vI (0 : Int32), .unset, .unset] [(.int (0 : Int32)), (.ref x)]) _
      obtain ⟨cq298, kq298, q298a, q298b, q298c⟩ := isOf hZ296 e297 ((TX.ext Ex296)).exa
      obtain ⟨_, _, ⟨T298, L298, k298, n298⟩, -, X298, ⟨Lc298, hQ298, l298, y298, z298⟩, st298⟩ := X297.virtualBack hx (y := mN7) (z := mN7) hown296 (mw hZ296 hw 160 rfl) (mw hZ296 hw 130 rfl) (notFace_of_selects (args := #[]) (mw hZ296 hw 132 rfl)) (mw hZ296 hw 132 rfl) (mw hZ296 hw 131 rfl) (by decide) (chS (W := 0) hZ296 hw (TX.ext Ex296) (B0.ext Ex296) 0 hlt (by omega) n0 (Nat.le_trans ZB Ex296.1) (by decide) (by decide)) q298a q298c (g := (mkF m 15 #[vR sb, vR x, vI (34 : Int32), vI (0 : Int32), vI (0 : Int32), .unset, .unset] [(.int (0 : Int32)), (.ref x)])) rfl (by rw [hml]; rfl) (Steps.refl _) (argsL := [(.int (0 : Int32))]) (rest := []) (lenOf pd_29 rfl) rfl (w0 rfl) (dq (dg des 8 rfl)) (fun _ _ => ⟨rfl, e297, (by decide : 0 + 0 ≤ _), (by decide : 0 + 0 ≤ _)⟩)
      dsimp only [Pt.U, Pt.locs, Pt.cells, Pt.slots] at X298 l298 y298 z298 st298 hQ298
      subst l298 y298 z298
      obtain ⟨rfl, Nq298, e298⟩ := hQ298
      have N298 := Fr.app N297 Nq298
      refine R2 st298 ?_
      show Rch p e below T298 (mkF m 18 #[vR sb, vR x, vI (34 : Int32), vI (0 : Int32), vI (0 : Int32), .unset, .unset] [(.int (ts.getD 0 0))]) _
      generalize hc : ts.getD 0 0 = cc
      show Rch p e below T298 (mkF m 18 #[vR sb, vR x, vI (34 : Int32), vI (0 : Int32), vI (0 : Int32), .unset, .unset] [(.int cc)]) _
      refine R1 (XS.istore X298.here hx rfl (dq (dg des 9 rfl)) rfl (l' := #[vR sb, vR x, vI (34 : Int32), vI (0 : Int32), vI (0 : Int32), vI cc, .unset]) rfl) ?_
      refine R1 (XS.iloadN X298.here hx rfl (dq (dg des 10 rfl)) rfl) ?_
      refine R1 (XS.ifYes X298.here hx rfl (pc0 := 21) (pc' := 34) rfl (dq (dg des 11 rfl)) rfl (by decide : ifCond.holds .eq (0 : Int32) = true) (by decide) (by decide)) ?_
      refine R1 (XS.iconst X298.here hx rfl (dq (dg des 12 rfl)) ) ?_
      refine R1 (XS.istore X298.here hx rfl (dq (dg des 13 rfl)) rfl (l' := #[vR sb, vR x, vI (34 : Int32), vI (0 : Int32), vI (0 : Int32), vI cc, vI (-1 : Int32)]) rfl) ?_
      refine R1 (XS.iload X298.here hx rfl (dq (dg des 14 rfl)) rfl) ?_
      refine R1 (XS.ifYes X298.here hx rfl (pc0 := 39) (pc' := 62) rfl (dq (dg des 15 rfl)) rfl (by decide : ifCond.holds .lt (-1 : Int32) = true) (by decide) (by decide)) ?_
      refine R1 (XS.iload X298.here hx rfl (dq (dg des 16 rfl)) rfl) ?_
      refine R1 (XS.iloadN X298.here hx rfl (dq (dg des 17 rfl)) rfl) ?_
      show Rch p e below T298 (mkF m 65 #[vR sb, vR x, vI (34 : Int32), vI (0 : Int32), vI (0 : Int32), vI cc, vI (-1 : Int32)] [(.int (34 : Int32)), (.int cc)]) _
      have t75 : ∀ (u : Int32), is2 cc → Rch p e below T298 (mkF m 75 #[vR sb, vR x, vI (34 : Int32), vI (0 : Int32), vI (0 : Int32), vI cc, vI (-1 : Int32)] []) (fun U o => ∃ v L, o = .returned v ∧ (∃ x2, Q_esc Z hB sb va x cap cs ts fm h0 n0 x2 v U.heap L ∧ Safe Z EL U.vm U.heap x2) ∧ CHr Z EL s.vm s.heap U.vm U.heap ∧ ReturnedEndW s o U L rO33.cells rO33.slots) := by
        intro u h2
        show Rch p e below T298 (mkF m 75 #[vR sb, vR x, vI (34 : Int32), vI (0 : Int32), vI (0 : Int32), vI cc, vI (-1 : Int32)] []) _
        refine R1 (XS.aloadN X298.here hx rfl (dq (dg des 22 rfl)) rfl rfl) ?_
        refine R1 (XS.bipush X298.here hx rfl (dq (dg des 23 rfl)) ) ?_
        show Rch p e below T298 (mkF m 78 #[vR sb, vR x, vI (34 : Int32), vI (0 : Int32), vI (0 : Int32), vI cc, vI (-1 : Int32)] [(.int (92 : Int32)), (.ref sb)]) _
        have HS299 : ∀ x ∈ [sb, va2], Safe Z EL vm296 h296 x := allS (Safe.exa (State.Warmed39.alike hZ296) BB.1.1 (by decide) (by decide)) (allS SW all0)
        obtain ⟨cq300, kq300, q300a, q300b, q300c⟩ := isOf hZ296 e298 BB.1.1
        obtain ⟨_, _, ⟨T300, L300, k300, n300⟩, -, X300, ⟨Lc300, hQ300, l300, y300, z300⟩, st300⟩ := X298.virtualBack hx (y := mN38) (z := mN38) hown296 (mw hZ296 hw 60 rfl) (mw hZ296 hw 61 rfl) (notFace_of_selects (args := #[]) (mw hZ296 hw 63 rfl)) (mw hZ296 hw 63 rfl) (mw hZ296 hw 62 rfl) (by decide) (backOf (W := 0) (rm_sbAppC l Z a0 hw [] sb va2 cp2 (cs ++ escL (ts.take 0)) (92 : Int32) h296 n0 (Nat.le_trans ZB Ex296.1) BB (Nat.le_trans ZB hsb) (Nat.le_trans ZB hv) (by first | omega | (simp only [List.length_append, List.length_cons, List.length_nil]; omega)) (by decide) (B0.ext Ex296).1) hZ296 (wq hw 64 rfl) (wq hw 33 rfl) (by decide) (by decide)) q300a q300c (g := (mkF m 78 #[vR sb, vR x, vI (34 : Int32), vI (0 : Int32), vI (0 : Int32), vI cc, vI (-1 : Int32)] [(.int (92 : Int32)), (.ref sb)])) rfl (by rw [hml]; rfl) (Steps.refl _) (argsL := [(.int (92 : Int32))]) (rest := []) (lenOf pd_30 rfl) rfl (w0 rfl) (dq (dg des 24 rfl)) (fun _ _ => ⟨rfl, e298, (by decide : 0 + 1 ≤ _), (by decide : 0 + 40 ≤ _)⟩)
        dsimp only [Pt.U, Pt.locs, Pt.cells, Pt.slots] at X300 l300 y300 z300 st300 hQ300
        subst l300 y300 z300
        obtain ⟨va300, cp300, rfl, Nq300, K300, or300, B300⟩ := hQ300
        have N300 := Fr.app N298 Nq300
        have Ex301 : Ext hB T300.heap := extKeep Ex296 K300 (allS hsb (allS hv all0))
        refine R2 st300 ?_
        show Rch p e below T300 (mkF m 81 #[vR sb, vR x, vI (34 : Int32), vI (0 : Int32), vI (0 : Int32), vI cc, vI (-1 : Int32)] [(.ref sb)]) _
        have le302 : hB.size ≤ va300 := le_or (k := 0) or300 hv Ex296.1
        have R300 := R296.trans (CHr.keep K300 HS299 R296.1)
        have hk300 := Nat.le_trans hk296 K300.1
        have SV300 : Safe Z EL vm296 T300.heap va300 := Safe.keep K300 HS299 R296.1 (safe_or or300 SW)
        refine R1 (XS.iload X300.here hx rfl (dq (dg des 25 rfl)) rfl) ?_
        show Rch p e below T300 (mkF m 83 #[vR sb, vR x, vI (34 : Int32), vI (0 : Int32), vI (0 : Int32), vI cc, vI (-1 : Int32)] [(.int cc), (.ref sb)]) _
        have HS303 : ∀ x ∈ [sb, va300], Safe Z EL vm296 T300.heap x := allS (Safe.exa (State.Warmed39.alike hZ296) B300.1.1 (by decide) (by decide)) (allS SV300 all0)
        obtain ⟨cq304, kq304, q304a, q304b, q304c⟩ := isOf hZ296 rfl B300.1.1
        obtain ⟨_, _, ⟨T304, L304, k304, n304⟩, -, X304, ⟨Lc304, hQ304, l304, y304, z304⟩, st304⟩ := X300.virtualBack hx (y := mN38) (z := mN38) hown296 (mw hZ296 hw 60 rfl) (mw hZ296 hw 61 rfl) (notFace_of_selects (args := #[]) (mw hZ296 hw 63 rfl)) (mw hZ296 hw 63 rfl) (mw hZ296 hw 62 rfl) (by decide) (backOf (W := 0) (rm_sbAppC l Z a0 hw [] sb va300 cp300 (cs ++ escL (ts.take 0) ++ [(92 : Int32)]) cc T300.heap n0 (Nat.le_trans ZB Ex301.1) B300 (Nat.le_trans ZB hsb) (Nat.le_trans ZB le302) (by first | omega | (simp only [List.length_append, List.length_cons, List.length_nil]; omega)) (by rcases h2 with rfl | rfl <;> decide) (B0.ext Ex301).1) hZ296 (wq hw 64 rfl) (wq hw 33 rfl) (by decide) (by decide)) q304a q304c (g := (mkF m 83 #[vR sb, vR x, vI (34 : Int32), vI (0 : Int32), vI (0 : Int32), vI cc, vI (-1 : Int32)] [(.int cc), (.ref sb)])) rfl (by rw [hml]; rfl) (Steps.refl _) (argsL := [(.int cc)]) (rest := []) (lenOf pd_30 rfl) rfl (w0 rfl) (dq (dg des 26 rfl)) (fun _ _ => ⟨rfl, rfl, (by decide : 1 + 1 ≤ _), (by decide : 40 + 40 ≤ _)⟩)
        dsimp only [Pt.U, Pt.locs, Pt.cells, Pt.slots] at X304 l304 y304 z304 st304 hQ304
        subst l304 y304 z304
        obtain ⟨va304, cp304, rfl, Nq304, K304, or304, B304⟩ := hQ304
        have N304 := Fr.app N300 Nq304
        have Ex305 : Ext hB T304.heap := extKeep Ex301 K304 (allS hsb (allS le302 all0))
        refine R2 st304 ?_
        show Rch p e below T304 (mkF m 86 #[vR sb, vR x, vI (34 : Int32), vI (0 : Int32), vI (0 : Int32), vI cc, vI (-1 : Int32)] [(.ref sb)]) _
        have le306 : hB.size ≤ va304 := le_or (k := 0) or304 le302 Ex301.1
        have R304 := R300.trans (CHr.keep K304 HS303 R300.1)
        have hk304 := Nat.le_trans hk300 K304.1
        have SV304 : Safe Z EL vm296 T304.heap va304 := Safe.keep K304 HS303 R300.1 (safe_or or304 SV300)
        refine R1 (XT.pop X304.here hx rfl (dq (dg des 27 rfl)) rfl rfl) ?_
        refine R1 (XS.goto X304.here hx rfl (pc0 := 87) (pc' := 128) rfl (dq (dg des 28 rfl)) (by decide) (by decide)) ?_
        refine R1 (XS.iinc X304.here hx rfl (dq (dg des 48 rfl)) rfl (l' := #[vR sb, vR x, vI (34 : Int32), vI (0 : Int32), vI (1 : Int32), vI cc, vI (-1 : Int32)]) rfl) ?_
        refine R1 (XS.goto X304.here hx rfl (pc0 := 131) (pc' := 3) rfl (dq (dg des 49 rfl)) (by decide) (by decide)) ?_
        show Rch p e below T304 (mkF m 3 #[vR sb, vR x, vI (34 : Int32), vI (0 : Int32), vI (1 : Int32), vI cc, vI (-1 : Int32)] []) _
        exact it1 _ _ _ _ _ _ _ _ _ (X304.mono (by decide) (by decide)) rfl N304 Ex305 hS296 hk304 hZ296 hown296 R304 hlt SV304 le306 (by rw [show escL (ts.take 1) = escL (ts.take 0) ++ esc1 (ts.getD 0 0) from esc_step hlt, hc, e2 h2]; simpa [List.append_assoc] using B304)
      have t114 : ∀ (u : Int32), ¬ is2 cc → ¬ is1 cc → Rch p e below T298 (mkF m 114 #[vR sb, vR x, vI (34 : Int32), vI (0 : Int32), vI (0 : Int32), vI cc, vI (-1 : Int32)] []) (fun U o => ∃ v L, o = .returned v ∧ (∃ x2, Q_esc Z hB sb va x cap cs ts fm h0 n0 x2 v U.heap L ∧ Safe Z EL U.vm U.heap x2) ∧ CHr Z EL s.vm s.heap U.vm U.heap ∧ ReturnedEndW s o U L rO33.cells rO33.slots) := by
        intro u h2 h1
        show Rch p e below T298 (mkF m 114 #[vR sb, vR x, vI (34 : Int32), vI (0 : Int32), vI (0 : Int32), vI cc, vI (-1 : Int32)] []) _
        refine R1 (XS.aloadN X298.here hx rfl (dq (dg des 40 rfl)) rfl rfl) ?_
        show Rch p e below T298 (mkF m 115 #[vR sb, vR x, vI (34 : Int32), vI (0 : Int32), vI (0 : Int32), vI cc, vI (-1 : Int32)] [(.ref sb)]) _
        obtain ⟨a307, T307, h307, kk307, b307, kb307, X307, e307, E307, hS307, hk307, hZ307, hown307, EX307, CO307, VA307, AR307, la307, lb307, CR307, LT307, SF307, st307⟩ := ldcCH X298 hx hZ296 hown296 (wq hw 161 rfl) wS e298 hS296 hk296 hEL (by simp [EL]) R296.1 (vs := ([92, 117] : List Int32).map (fun c => Value.int c.toInt8.toInt32)) (z := (2 : Int32)) ⟨by decide, by decide⟩ (by decide) rfl (g := (mkF m 115 #[vR sb, vR x, vI (34 : Int32), vI (0 : Int32), vI (0 : Int32), vI cc, vI (-1 : Int32)] [(.ref sb)])) rfl (dq (dg des 41 rfl)) (n := 8) (by decide) (by decide) (by decide) (by decide)
        have Ex308 : Ext hB h307 := Ex296.tr E307
        have R307 := R296.trans CR307
        refine R0_ st307 ?_
        show Rch p e below T307 (mkF m 117 #[vR sb, vR x, vI (34 : Int32), vI (0 : Int32), vI (0 : Int32), vI cc, vI (-1 : Int32)] [(.ref a307), (.ref sb)]) _
        have SV307 := CR307.safe (exa_of BB.2.1.1) SW
        have LS307 : Lt Z h307 a307 b307 ([92, 117] : List Int32) := ⟨EX307, VA307, CO307, kb307, by unfold byt; rw [List.map_map]; exact AR307⟩
        have B_ := BB.ext E307
        have HS310 : ∀ x ∈ [sb, va2], Safe Z EL T307.vm h307 x := allS (Safe.exa (State.Warmed39.alike hZ307) B_.1.1 (by decide) (by decide)) (allS SV307 all0)
        obtain ⟨cq311, kq311, q311a, q311b, q311c⟩ := isOf hZ307 e307 B_.1.1
        obtain ⟨_, _, ⟨T311, L311, k311, n311⟩, -, X311, ⟨Lc311, hQ311, l311, y311, z311⟩, st311⟩ := X307.virtualBack hx (y := mN36) (z := mN36) hown307 (mw hZ307 hw 162 rfl) (mw hZ307 hw 163 rfl) (notFace_of_selects (args := #[]) (mw hZ307 hw 165 rfl)) (mw hZ307 hw 165 rfl) (mw hZ307 hw 164 rfl) (by decide) (backOf (W := 0) (rm_sbApp l Z a0 hw [] sb va2 a307 b307 cp2 (cs ++ escL (ts.take 0)) [92, 117] h307 n0 (Nat.le_trans ZB Ex308.1) B_ LS307 (Nat.le_trans ZB hsb) (Nat.le_trans ZB hv) (by first | omega | (simp only [List.length_append, List.length_cons, List.length_nil]; omega)) (B0.ext Ex308).1) hZ307 (wq hw 166 rfl) (wq hw 33 rfl) (by decide) (by decide)) q311a q311c (g := (mkF m 117 #[vR sb, vR x, vI (34 : Int32), vI (0 : Int32), vI (0 : Int32), vI cc, vI (-1 : Int32)] [(.ref a307), (.ref sb)])) rfl (by rw [hml]; rfl) (Steps.refl _) (argsL := [(.ref a307)]) (rest := []) (lenOf pd_31 rfl) rfl (w0 rfl) (dq (dg des 42 rfl)) (fun _ _ => ⟨rfl, e307, (by decide : 2 + 1 ≤ _), (by decide : 12 + 40 ≤ _)⟩)
        dsimp only [Pt.U, Pt.locs, Pt.cells, Pt.slots] at X311 l311 y311 z311 st311 hQ311
        subst l311 y311 z311
        obtain ⟨va311, cp311, rfl, Nq311, K311, or311, B311⟩ := hQ311
        have N311 := Fr.app N298 Nq311
        have Ex312 : Ext hB T311.heap := extKeep Ex308 K311 (allS hsb (allS hv all0))
        refine R2 st311 ?_
        show Rch p e below T311 (mkF m 120 #[vR sb, vR x, vI (34 : Int32), vI (0 : Int32), vI (0 : Int32), vI cc, vI (-1 : Int32)] [(.ref sb)]) _
        have le313 : hB.size ≤ va311 := le_or (k := 0) or311 hv Ex308.1
        have R311 := R307.trans (CHr.keep K311 HS310 R307.1)
        have hk311 := Nat.le_trans hk307 K311.1
        have SV311 : Safe Z EL T307.vm T311.heap va311 := Safe.keep K311 HS310 R307.1 (safe_or or311 SV307)
        refine R1 (XT.pop X311.here hx rfl (dq (dg des 43 rfl)) rfl rfl) ?_
        refine R1 (XS.aloadN X311.here hx rfl (dq (dg des 44 rfl)) rfl rfl) ?_
        refine R1 (XS.iload X311.here hx rfl (dq (dg des 45 rfl)) rfl) ?_
        refine R1 (XS.iconst X311.here hx rfl (dq (dg des 46 rfl)) ) ?_
        show Rch p e below T311 (mkF m 125 #[vR sb, vR x, vI (34 : Int32), vI (0 : Int32), vI (0 : Int32), vI cc, vI (-1 : Int32)] [(.int (4 : Int32)), (.int cc), (.ref sb)]) _
        obtain ⟨_, _, ⟨T314, L314, k314, n314⟩, -, X314_, hS314_, hg314_, ⟨Lc314, hQ314, l314, y314, z314, CR314⟩, st314⟩ := callSS X311 hx (y := mN45) hown307 (mw hZ307 hw 192 rfl) (mw hZ307 hw 193 rfl) (mw hZ307 hw 29 rfl) (mw hZ307 hw 194 rfl) (by decide) (backOfSP (W := 0) (va := va311) (rm_hexA l Z a0 hw [] hB sb va311 cp311 (cs ++ escL (ts.take 0) ++ [92, 117]) cc fm T311.heap n0 (Nat.le_trans ZB Ex312.1) ZB Ex312 B0 hsb le313 B311 (by first | omega | (simp only [List.length_append, List.length_cons, List.length_nil]; omega))) hZ307 (wq hw 194 rfl) (wq hw 29 rfl) (by decide) (by decide) hEL R311.1 SV311 (exa_of B311.2.1.1)) (g := (mkF m 125 #[vR sb, vR x, vI (34 : Int32), vI (0 : Int32), vI (0 : Int32), vI cc, vI (-1 : Int32)] [(.int (4 : Int32)), (.int cc), (.ref sb)])) rfl (by rw [hml]; rfl) (argsL := [(.ref sb), (.int cc), (.int (4 : Int32))]) (rest := []) (lenOf pd_32 rfl) rfl (w0 rfl) (dq (dg des 47 rfl)) (fun _ _ => ⟨rfl, rfl, (by decide : 3 + 6 ≤ _), (by decide : 52 + 228 ≤ _)⟩)
        dsimp only [Pt.U, Pt.locs, Pt.cells, Pt.slots] at X314_ hS314_ hg314_ l314 y314 z314 st314 hQ314 CR314
        subst l314 y314 z314
        obtain ⟨X314, hS314, hZ314, hown314⟩ := rebS hS307 hk311 X314_ hS314_ hg314_ hZ307 hown307
        obtain ⟨x314, hq314, SV314⟩ := hQ314
        obtain ⟨cp314, rfl, Nq314, E314, le314_, B314⟩ := hq314
        have N314 := Fr.app N311 Nq314
        have R314 := R311.trans CR314
        refine R2 st314 ?_
        show Rch p e below T314 (mkF m 128 #[vR sb, vR x, vI (34 : Int32), vI (0 : Int32), vI (0 : Int32), vI cc, vI (-1 : Int32)] []) _
        refine R1 (XS.iinc X314.here hx rfl (dq (dg des 48 rfl)) rfl (l' := #[vR sb, vR x, vI (34 : Int32), vI (0 : Int32), vI (1 : Int32), vI cc, vI (-1 : Int32)]) rfl) ?_
        refine R1 (XS.goto X314.here hx rfl (pc0 := 131) (pc' := 3) rfl (dq (dg des 49 rfl)) (by decide) (by decide)) ?_
        show Rch p e below T314 (mkF m 3 #[vR sb, vR x, vI (34 : Int32), vI (0 : Int32), vI (1 : Int32), vI cc, vI (-1 : Int32)] []) _
        exact it1 _ _ _ _ _ _ _ _ _ X314 rfl N314 E314 hS314 (Nat.le_refl _) hZ314 hown314 R314 hlt SV314 le314_ (by rw [show escL (ts.take 1) = escL (ts.take 0) ++ esc1 (ts.getD 0 0) from esc_step hlt, hc, e6 h2 h1]; simpa [List.append_assoc] using B314)
      have t90 : ∀ (u : Int32), ¬ is2 cc → Rch p e below T298 (mkF m 90 #[vR sb, vR x, vI (34 : Int32), vI (0 : Int32), vI (0 : Int32), vI cc, vI (-1 : Int32)] []) (fun U o => ∃ v L, o = .returned v ∧ (∃ x2, Q_esc Z hB sb va x cap cs ts fm h0 n0 x2 v U.heap L ∧ Safe Z EL U.vm U.heap x2) ∧ CHr Z EL s.vm s.heap U.vm U.heap ∧ ReturnedEndW s o U L rO33.cells rO33.slots) := by
        intro u h2
        show Rch p e below T298 (mkF m 90 #[vR sb, vR x, vI (34 : Int32), vI (0 : Int32), vI (0 : Int32), vI cc, vI (-1 : Int32)] []) _
        refine R1 (XS.iload X298.here hx rfl (dq (dg des 29 rfl)) rfl) ?_
        refine R1 (XS.bipush X298.here hx rfl (dq (dg des 30 rfl)) ) ?_
        show Rch p e below T298 (mkF m 94 #[vR sb, vR x, vI (34 : Int32), vI (0 : Int32), vI (0 : Int32), vI cc, vI (-1 : Int32)] [(.int (32 : Int32)), (.int cc)]) _
        by_cases g1 : cc < (32 : Int32)
        · skip
          refine R1 (XS.icmpYes X298.here hx rfl (pc0 := 94) (pc' := 114) rfl (dq (dg des 31 rfl)) rfl (tlt g1).1 (by decide) (by decide)) ?_
          show Rch p e below T298 (mkF m 114 #[vR sb, vR x, vI (34 : Int32), vI (0 : Int32), vI (0 : Int32), vI cc, vI (-1 : Int32)] []) _
          exact t114 0 h2 (fun q => q.1 g1)
        · skip
          refine R1 (XS.icmpNo X298.here hx rfl (dq (dg des 31 rfl)) rfl (flt g1).1) ?_
          refine R1 (XS.iload X298.here hx rfl (dq (dg des 32 rfl)) rfl) ?_
          refine R1 (XS.bipush X298.here hx rfl (dq (dg des 33 rfl)) ) ?_
          show Rch p e below T298 (mkF m 101 #[vR sb, vR x, vI (34 : Int32), vI (0 : Int32), vI (0 : Int32), vI cc, vI (-1 : Int32)] [(.int (126 : Int32)), (.int cc)]) _
          by_cases g2 : (126 : Int32) < cc
          · skip
            refine R1 (XS.icmpYes X298.here hx rfl (pc0 := 101) (pc' := 114) rfl (dq (dg des 34 rfl)) rfl (tlt g2).2.2.1 (by decide) (by decide)) ?_
            show Rch p e below T298 (mkF m 114 #[vR sb, vR x, vI (34 : Int32), vI (0 : Int32), vI (0 : Int32), vI cc, vI (-1 : Int32)] []) _
            exact t114 0 h2 (fun q => q.2 g2)
          · skip
            refine R1 (XS.icmpNo X298.here hx rfl (dq (dg des 34 rfl)) rfl (flt g2).2.2.1) ?_
            refine R1 (XS.aloadN X298.here hx rfl (dq (dg des 35 rfl)) rfl rfl) ?_
            refine R1 (XS.iload X298.here hx rfl (dq (dg des 36 rfl)) rfl) ?_
            show Rch p e below T298 (mkF m 107 #[vR sb, vR x, vI (34 : Int32), vI (0 : Int32), vI (0 : Int32), vI cc, vI (-1 : Int32)] [(.int cc), (.ref sb)]) _
            have HS315 : ∀ x ∈ [sb, va2], Safe Z EL vm296 h296 x := allS (Safe.exa (State.Warmed39.alike hZ296) BB.1.1 (by decide) (by decide)) (allS SW all0)
            obtain ⟨cq316, kq316, q316a, q316b, q316c⟩ := isOf hZ296 e298 BB.1.1
            obtain ⟨_, _, ⟨T316, L316, k316, n316⟩, -, X316, ⟨Lc316, hQ316, l316, y316, z316⟩, st316⟩ := X298.virtualBack hx (y := mN38) (z := mN38) hown296 (mw hZ296 hw 60 rfl) (mw hZ296 hw 61 rfl) (notFace_of_selects (args := #[]) (mw hZ296 hw 63 rfl)) (mw hZ296 hw 63 rfl) (mw hZ296 hw 62 rfl) (by decide) (backOf (W := 0) (rm_sbAppC l Z a0 hw [] sb va2 cp2 (cs ++ escL (ts.take 0)) cc h296 n0 (Nat.le_trans ZB Ex296.1) BB (Nat.le_trans ZB hsb) (Nat.le_trans ZB hv) (by first | omega | (simp only [List.length_append, List.length_cons, List.length_nil]; omega)) (lt255 g2) (B0.ext Ex296).1) hZ296 (wq hw 64 rfl) (wq hw 33 rfl) (by decide) (by decide)) q316a q316c (g := (mkF m 107 #[vR sb, vR x, vI (34 : Int32), vI (0 : Int32), vI (0 : Int32), vI cc, vI (-1 : Int32)] [(.int cc), (.ref sb)])) rfl (by rw [hml]; rfl) (Steps.refl _) (argsL := [(.int cc)]) (rest := []) (lenOf pd_30 rfl) rfl (w0 rfl) (dq (dg des 37 rfl)) (fun _ _ => ⟨rfl, e298, (by decide : 0 + 1 ≤ _), (by decide : 0 + 40 ≤ _)⟩)
            dsimp only [Pt.U, Pt.locs, Pt.cells, Pt.slots] at X316 l316 y316 z316 st316 hQ316
            subst l316 y316 z316
            obtain ⟨va316, cp316, rfl, Nq316, K316, or316, B316⟩ := hQ316
            have N316 := Fr.app N298 Nq316
            have Ex317 : Ext hB T316.heap := extKeep Ex296 K316 (allS hsb (allS hv all0))
            refine R2 st316 ?_
            show Rch p e below T316 (mkF m 110 #[vR sb, vR x, vI (34 : Int32), vI (0 : Int32), vI (0 : Int32), vI cc, vI (-1 : Int32)] [(.ref sb)]) _
            have le318 : hB.size ≤ va316 := le_or (k := 0) or316 hv Ex296.1
            have R316 := R296.trans (CHr.keep K316 HS315 R296.1)
            have hk316 := Nat.le_trans hk296 K316.1
            have SV316 : Safe Z EL vm296 T316.heap va316 := Safe.keep K316 HS315 R296.1 (safe_or or316 SW)
            refine R1 (XT.pop X316.here hx rfl (dq (dg des 38 rfl)) rfl rfl) ?_
            refine R1 (XS.goto X316.here hx rfl (pc0 := 111) (pc' := 128) rfl (dq (dg des 39 rfl)) (by decide) (by decide)) ?_
            refine R1 (XS.iinc X316.here hx rfl (dq (dg des 48 rfl)) rfl (l' := #[vR sb, vR x, vI (34 : Int32), vI (0 : Int32), vI (1 : Int32), vI cc, vI (-1 : Int32)]) rfl) ?_
            refine R1 (XS.goto X316.here hx rfl (pc0 := 131) (pc' := 3) rfl (dq (dg des 49 rfl)) (by decide) (by decide)) ?_
            show Rch p e below T316 (mkF m 3 #[vR sb, vR x, vI (34 : Int32), vI (0 : Int32), vI (1 : Int32), vI cc, vI (-1 : Int32)] []) _
            exact it1 _ _ _ _ _ _ _ _ _ (X316.mono (by decide) (by decide)) rfl N316 Ex317 hS296 hk316 hZ296 hown296 R316 hlt SV316 le318 (by rw [show escL (ts.take 1) = escL (ts.take 0) ++ esc1 (ts.getD 0 0) from esc_step hlt, hc, e1 h2 ⟨g1, g2⟩]; simpa [List.append_assoc] using B316)
      by_cases q1 : cc = (34 : Int32)
      · skip
        refine R1 (XS.icmpYes X298.here hx rfl (pc0 := 65) (pc' := 75) rfl (dq (dg des 18 rfl)) rfl (teq q1).1 (by decide) (by decide)) ?_
        show Rch p e below T298 (mkF m 75 #[vR sb, vR x, vI (34 : Int32), vI (0 : Int32), vI (0 : Int32), vI cc, vI (-1 : Int32)] []) _
        exact t75 0 (Or.inl q1)
      · skip
        refine R1 (XS.icmpNo X298.here hx rfl (dq (dg des 18 rfl)) rfl (feq q1).1) ?_
        refine R1 (XS.iload X298.here hx rfl (dq (dg des 19 rfl)) rfl) ?_
        refine R1 (XS.bipush X298.here hx rfl (dq (dg des 20 rfl)) ) ?_
        show Rch p e below T298 (mkF m 72 #[vR sb, vR x, vI (34 : Int32), vI (0 : Int32), vI (0 : Int32), vI cc, vI (-1 : Int32)] [(.int (92 : Int32)), (.int cc)]) _
        by_cases q2 : cc = (92 : Int32)
        · skip
          refine R1 (XS.icmpNo X298.here hx rfl (dq (dg des 21 rfl)) rfl (teq q2).2) ?_
          show Rch p e below T298 (mkF m 75 #[vR sb, vR x, vI (34 : Int32), vI (0 : Int32), vI (0 : Int32), vI cc, vI (-1 : Int32)] []) _
          exact t75 0 (Or.inr q2)
        · skip
          refine R1 (XS.icmpYes X298.here hx rfl (pc0 := 72) (pc' := 90) rfl (dq (dg des 21 rfl)) rfl (feq q2).2 (by decide) (by decide)) ?_
          show Rch p e below T298 (mkF m 90 #[vR sb, vR x, vI (34 : Int32), vI (0 : Int32), vI (0 : Int32), vI cc, vI (-1 : Int32)] []) _
          exact t90 0 (fun q => q.elim q1 q2)
    · skip
      have hge : ts.length ≤ 0 := Nat.le_of_not_lt hlt
      have hge' : ¬ (0 : Int32) < Int32.ofNat ts.length := ofN_le hge (by decide)
      refine R1 (XS.icmpYes X297.here hx rfl (pc0 := 9) (pc' := 134) rfl (dq (dg des 5 rfl)) rfl (flt hge').2.1 (by decide) (by decide)) ?_
      show Rch p e below T297 (mkF m 134 #[vR sb, vR x, vI (34 : Int32), vI (0 : Int32), vI (0 : Int32), .unset, .unset] []) _
      exact finWS (QS := Q_esc Z hB sb va x cap cs ts fm h0 n0) X297 hZ296 hEL hS296 (by rw [e297]; exact hk296) e297 R296 (x := va2) SW (exa_of BB.2.1.1) (v := none) (fun _ => rfl) (BodyLoose.notSynchronized Bd) (fun fs hr => X297.returnOut hx Bd.returns (dq (dg des 50 rfl)) hr) (by rw [e297]; exact ⟨cp2, rfl, N297, Ex296, hv, by rw [esc_all hge] at BB; exact BB⟩) (by decide) (by decide)
  refine R1 (XS.iconst X0.here hx rfl (dq (dg des 0 rfl)) ) ?_
  refine R1 (XS.istore X0.here hx rfl (dq (dg des 1 rfl)) rfl (l' := #[vR sb, vR x, vI (34 : Int32), vI (0 : Int32), vI (0 : Int32), .unset, .unset]) rfl) ?_
  show Rch p e below s₁ (mkF m 3 #[vR sb, vR x, vI (34 : Int32), vI (0 : Int32), vI (0 : Int32), .unset, .unset] []) _
  exact it0 _ _ _ _ _ _ _ X0 e0 N0 EB hS0 (Nat.zero_le _) hZ hown R0 (Nat.zero_le _) SV0 hva (by simpa [escL] using B)
theorem dou : dxs prog_65_method_3_code [(0, .new 7, 3), (3, .dup, 1), (4, .aload_n 0, 1), (5, .invokevirtual 9, 3), (8, .iconst 2, 1), (9, .iadd, 1), (10, .invokespecial 15, 3), (13, .astore_n 1, 1), (14, .aload_n 1, 1), (15, .bipush 34, 2), (17, .invokevirtual 28, 3), (20, .pop, 1), (21, .aload_n 1, 1), (22, .aload_n 0, 1), (23, .bipush 34, 2), (25, .iconst 0, 1), (26, .invokestatic 18, 3), (29, .aload_n 1, 1), (30, .bipush 34, 2), (32, .invokevirtual 28, 3), (35, .pop, 1), (36, .aload_n 1, 1), (37, .invokevirtual 24, 3), (40, .areturn, 1)] = true := by decide +kernel
theorem pn_outr : plainFor (⟨"com/example/ampersat/ampersat/text/Literals", "quoted", "(Ljava/lang/String;)Ljava/lang/String;"⟩ : MethodName) = true := plainFor_of_name (by first | (simp [plainName, overriddenIn]; done) | decide +kernel)
theorem ef_outr (m : MethodId) (x0 : Addr) : entryFrame m #[(.ref x0)] 2 = mkF m 0 #[vR x0, .unset] [] := by first | (simp [entryFrame, mkF, argsToLocals, Value.category]; done) | rfl
def Q_outr (Z : State) (x : Addr) (ts : List Int32) (fm : Value) (h0 : Heap) (n0 : Nat) (v : Option Value) (h : Heap) (L : List Loc) : Prop := ∃ t tb, v = some (.ref t) ∧ Fr n0 L ∧ Ext h0 h ∧ Lt Z h t tb ([34] ++ escL ts ++ [34])
set_option maxRecDepth 65536 in
set_option maxHeartbeats 40000000 in
theorem rm_outr (l : Launch) (Z : State) (a0 : Array Value) (hw : ∀ d ∈ tables_1, d.before a0 Z = true) (ws : List Jvm.Cond) (x : Addr) (ts : List Int32) (fm : Value) (h0 : Heap) (n0 : Nat) (Z0 : n0 ≤ h0.size) (TX : StrA Z h0 x ts) (B0 : Bg Z h0 fm) (hts : ts.length ≤ 3) :
    MetFree l mN47 (head1 (Jvm.Cond.code mN47 prog_65_method_3_code 2 (some (.object "java/lang/String")) :: ws) rO34) (fun a U => a = #[(.ref x)] ∧ Z.Warmed39 U.vm ∧ U.heap = h0 ∧ CHv Z EL U.vm h0) (fun _ _ _ _ _ => True) (fun _ U o U' => ∃ v L, o = .returned v ∧ Q_outr Z x ts fm h0 n0 v U'.heap L ∧ CHr Z EL U.vm U.heap U'.vm U'.heap ∧ ReturnedEndW U o U' L rO34.cells rO34.slots) := by
  refine MetFree.of_bodySF pn_outr hisR ?_
  intro p e s m args below meth c s₁ Bd hml0 hP hK
  obtain ⟨rfl, hZ, hh, H0⟩ := hP
  have hx := Bd.exec
  have hby := Bd.bytes
  have dq := @hb _ _ hby
  have hml : c.maxLocals = 2 := hml0
  have hown : s.vm.findClass "com/example/ampersat/ampersat/text/Literals" = some m.cls := findClass_of_methodNamed Bd.named
  have X0 : Stand p l e rO34 (s.setVm s.vm) m #[(.ref x)] below meth c s₁ [] 0 0 := Stand.of_body Bd
  have e0 : s₁.heap = h0 := by rw [← hh, Bd.state]; rfl
  have N0 := Fr.nil n0
  have hS0 : s.Since s.vm 0 := (State.WarmedH.refl s).since _
  have R0 : CHr Z EL s.vm s.heap s.vm h0 := by rw [hh]; exact CHr.refl H0
  have hZ : Z.Warmed39 (s.setVm s.vm).vm := hZ
  have hown : (s.setVm s.vm).vm.findClass "com/example/ampersat/ampersat/text/Literals" = some m.cls := hown
  have hEL := ew hw
  show Rch p e below s₁ _ _
  refine Rch.cast (ef_outr m x) ?_
  show Rch p e below s₁ (mkF m 0 #[vR x, .unset] []) _
  obtain ⟨T319, h319, X319, e319, E319, A319, D319, -, st319⟩ := newO X0 hx hZ hown (wq hw 31 rfl) (wq hw 32 rfl) (wq hw 33 rfl) e0 (g := (mkF m 0 #[vR x, .unset] [])) rfl (dq (dg dou 0 rfl)) (by decide) (by decide)
  obtain ⟨a319, g319⟩ : ∃ z, z = h0.size := ⟨_, rfl⟩
  rw [← g319] at A319 D319 st319
  have Ex320 : Ext h0 h319 := E319
  have le321 : h0.size ≤ a319 := Nat.le_of_eq g319.symm
  refine R0_ st319 ?_
  show Rch p e below T319 (mkF m 3 #[vR x, .unset] [(.ref a319)]) _
  refine R1 (XS.dup X319.here hx rfl (dq (dg dou 1 rfl)) rfl rfl) ?_
  refine R1 (XS.aloadN X319.here hx rfl (dq (dg dou 2 rfl)) rfl rfl) ?_
  show Rch p e below T319 (mkF m 5 #[vR x, .unset] [(.ref x), (.ref a319), (.ref a319)]) _
  obtain ⟨cq322, kq322, q322a, q322b, q322c⟩ := isOf hZ e319 ((TX.ext Ex320)).exa
  obtain ⟨_, _, ⟨T322, L322, k322, n322⟩, -, X322, ⟨Lc322, hQ322, l322, y322, z322⟩, st322⟩ := X319.virtualBack hx (y := mN31) (z := mN31) hown (mw hZ hw 34 rfl) (mw hZ hw 35 rfl) (notFace_of_selects (args := #[]) (mw hZ hw 37 rfl)) (mw hZ hw 37 rfl) (mw hZ hw 36 rfl) (by decide) (lenS (W := 2) hZ hw (TX.ext Ex320) (B0.ext Ex320).1 (by omega) (by decide) (by decide)) q322a q322c (g := (mkF m 5 #[vR x, .unset] [(.ref x), (.ref a319), (.ref a319)])) rfl (by rw [hml]; rfl) (Steps.refl _) (argsL := []) (rest := [(.ref a319), (.ref a319)]) (lenOf pd_17 rfl) rfl (w0 rfl) (dq (dg dou 3 rfl)) (fun _ _ => ⟨rfl, e319, (by decide : 1 + 0 ≤ _), (by decide : 4 + 0 ≤ _)⟩)
  dsimp only [Pt.U, Pt.locs, Pt.cells, Pt.slots] at X322 l322 y322 z322 st322 hQ322
  subst l322 y322 z322
  obtain ⟨rfl, hL322, e322⟩ := hQ322
  subst hL322
  have Nq322 := Fr.nil n0
  have N322 := Fr.app N0 Nq322
  refine R2 st322 ?_
  show Rch p e below T322 (mkF m 8 #[vR x, .unset] [(.int (Int32.ofNat ts.length)), (.ref a319), (.ref a319)]) _
  refine R1 (XS.iconst X322.here hx rfl (dq (dg dou 4 rfl)) ) ?_
  refine R1 (XS.iadd X322.here hx rfl (dq (dg dou 5 rfl)) rfl) ?_
  show Rch p e below T322 (mkF m 10 #[vR x, .unset] [(.int ((Int32.ofNat ts.length) + (2 : Int32))), (.ref a319), (.ref a319)]) _
  rw [add2n]
  show Rch p e below T322 (mkF m 10 #[vR x, .unset] [(.int (Int32.ofNat (ts.length + 2))), (.ref a319), (.ref a319)]) _
  have R323 := R0.trans (CHr.ext Ex320 R0.1)
  have hk324 := Nat.le_trans (Nat.zero_le _) Ex320.1
  have HS0 : ∀ x ∈ [a319], Safe Z EL s.vm h319 x := allS (Safe.exa (State.Warmed39.alike hZ) A319 (by decide) (by decide)) all0
  obtain ⟨_, _, ⟨T325, L325, k325, n325⟩, -, X325, ⟨Lc325, hQ325, l325, y325, z325⟩, st325⟩ := X322.specialBack hx (y := mN25) rfl hown (mw hZ hw 45 rfl) (mw hZ hw 46 rfl) (mw hZ hw 47 rfl) (by decide) (backOf (W := 1) (rm_sbI l Z a0 hw [] a319 (ts.length + 2) h319 n0 (Nat.le_trans Z0 Ex320.1) (Nat.le_trans Z0 le321) A319 ((D319 (Or.inl (wq hw 57 rfl)) (ty := (.array .byte)) (by decide)).ext Ext.rf) ((D319 (Or.inl (wq hw 59 rfl)) (ty := .byte) (by decide)).ext Ext.rf) ((D319 (Or.inl (wq hw 71 rfl)) (ty := .int) (by decide)).ext Ext.rf) (by omega) (B0.ext Ex320).1) hZ (wq hw 47 rfl) (wq hw 33 rfl) (by decide) (by decide)) (g := (mkF m 10 #[vR x, .unset] [(.int (Int32.ofNat (ts.length + 2))), (.ref a319), (.ref a319)])) rfl (by rw [hml]; rfl) (Steps.refl _) (a := a319) (argsL := [(.int (Int32.ofNat (ts.length + 2)))]) (rest := [(.ref a319)]) (lenOf pd_16 rfl) rfl (w0 rfl) (dq (dg dou 6 rfl)) (fun _ _ => ⟨rfl, e322, (by decide : 1 + 1 ≤ _), (by decide : 4 + 8 ≤ _)⟩)
  dsimp only [Pt.U, Pt.locs, Pt.cells, Pt.slots] at X325 l325 y325 z325 st325 hQ325
  subst l325 y325 z325
  obtain ⟨va325, rfl, Nq325, K325, le325_, B325⟩ := hQ325
  have N325 := Fr.app N322 Nq325
  have Ex326 : Ext h0 T325.heap := extKeep Ex320 K325 (allS le321 all0)
  refine R2 st325 ?_
  show Rch p e below T325 (mkF m 13 #[vR x, .unset] [(.ref a319)]) _
  have SV325 : Safe Z EL s.vm T325.heap va325 := Safe.keep K325 HS0 R323.1 (Safe.new le325_)
  have R325 := R323.trans (CHr.keep K325 HS0 R323.1)
  have hk325 := Nat.le_trans hk324 K325.1
  have le327 : h0.size ≤ va325 := Nat.le_trans Ex320.1 le325_
  refine R1 (XS.astoreN X325.here hx rfl (dq (dg dou 7 rfl)) rfl rfl (l' := #[vR x, vR a319]) rfl) ?_
  refine R1 (XS.aloadN X325.here hx rfl (dq (dg dou 8 rfl)) rfl rfl) ?_
  refine R1 (XS.bipush X325.here hx rfl (dq (dg dou 9 rfl)) ) ?_
  show Rch p e below T325 (mkF m 17 #[vR x, vR a319] [(.int (34 : Int32)), (.ref a319)]) _
  have HS329 : ∀ x ∈ [a319, va325], Safe Z EL s.vm T325.heap x := allS (Safe.exa (State.Warmed39.alike hZ) B325.1.1 (by decide) (by decide)) (allS SV325 all0)
  obtain ⟨cq330, kq330, q330a, q330b, q330c⟩ := isOf hZ rfl B325.1.1
  obtain ⟨_, _, ⟨T330, L330, k330, n330⟩, -, X330, ⟨Lc330, hQ330, l330, y330, z330⟩, st330⟩ := X325.virtualBack hx (y := mN38) (z := mN38) hown (mw hZ hw 60 rfl) (mw hZ hw 61 rfl) (notFace_of_selects (args := #[]) (mw hZ hw 63 rfl)) (mw hZ hw 63 rfl) (mw hZ hw 62 rfl) (by decide) (backOf (W := 0) (rm_sbAppC l Z a0 hw [] a319 va325 (ts.length + 2) ([]) (34 : Int32) T325.heap n0 (Nat.le_trans Z0 Ex326.1) B325 (Nat.le_trans Z0 le321) (Nat.le_trans Z0 le327) (by first | omega | (simp only [List.length_append, List.length_cons, List.length_nil]; omega)) (by decide) (B0.ext Ex326).1) hZ (wq hw 64 rfl) (wq hw 33 rfl) (by decide) (by decide)) q330a q330c (g := (mkF m 17 #[vR x, vR a319] [(.int (34 : Int32)), (.ref a319)])) rfl (by rw [hml]; rfl) (Steps.refl _) (argsL := [(.int (34 : Int32))]) (rest := []) (lenOf pd_30 rfl) rfl (w0 rfl) (dq (dg dou 10 rfl)) (fun _ _ => ⟨rfl, rfl, (by decide : 2 + 1 ≤ _), (by decide : 12 + 40 ≤ _)⟩)
  dsimp only [Pt.U, Pt.locs, Pt.cells, Pt.slots] at X330 l330 y330 z330 st330 hQ330
  subst l330 y330 z330
  obtain ⟨va330, cp330, rfl, Nq330, K330, or330, B330⟩ := hQ330
  have N330 := Fr.app N325 Nq330
  have Ex331 : Ext h0 T330.heap := extKeep Ex326 K330 (allS le321 (allS le327 all0))
  refine R2 st330 ?_
  show Rch p e below T330 (mkF m 20 #[vR x, vR a319] [(.ref a319)]) _
  have le332 : h0.size ≤ va330 := le_or (k := 0) or330 le327 Ex326.1
  have R330 := R325.trans (CHr.keep K330 HS329 R325.1)
  have hk330 := Nat.le_trans hk325 K330.1
  have SV330 : Safe Z EL s.vm T330.heap va330 := Safe.keep K330 HS329 R325.1 (safe_or or330 SV325)
  refine R1 (XT.pop X330.here hx rfl (dq (dg dou 11 rfl)) rfl rfl) ?_
  refine R1 (XS.aloadN X330.here hx rfl (dq (dg dou 12 rfl)) rfl rfl) ?_
  refine R1 (XS.aloadN X330.here hx rfl (dq (dg dou 13 rfl)) rfl rfl) ?_
  refine R1 (XS.bipush X330.here hx rfl (dq (dg dou 14 rfl)) ) ?_
  refine R1 (XS.iconst X330.here hx rfl (dq (dg dou 15 rfl)) ) ?_
  show Rch p e below T330 (mkF m 26 #[vR x, vR a319] [(.int (0 : Int32)), (.int (34 : Int32)), (.ref x), (.ref a319)]) _
  obtain ⟨_, _, ⟨T333, L333, k333, n333⟩, -, X333_, hS333_, hg333_, ⟨Lc333, hQ333, l333, y333, z333, CR333⟩, st333⟩ := callSS X330 hx (y := mN46) hown (mw hZ hw 86 rfl) (mw hZ hw 87 rfl) (mw hZ hw 29 rfl) (mw hZ hw 88 rfl) (by decide) (backOfSP (W := 0) (va := va330) (rm_esc l Z a0 hw [] h0 a319 va330 x cp330 ([] ++ [(34 : Int32)]) ts fm T330.heap n0 (Nat.le_trans Z0 Ex331.1) Z0 Ex331 B0 le321 le332 TX B330 (by decide) hts) hZ (wq hw 88 rfl) (wq hw 29 rfl) (by decide) (by decide) hEL R330.1 SV330 (exa_of B330.2.1.1)) (g := (mkF m 26 #[vR x, vR a319] [(.int (0 : Int32)), (.int (34 : Int32)), (.ref x), (.ref a319)])) rfl (by rw [hml]; rfl) (argsL := [(.ref a319), (.ref x), (.int (34 : Int32)), (.int (0 : Int32))]) (rest := []) (lenOf pd_33 rfl) rfl (w0 rfl) (dq (dg dou 16 rfl)) (fun _ _ => ⟨rfl, rfl, (by decide : 3 + 27 ≤ _), (by decide : 52 + 840 ≤ _)⟩)
  dsimp only [Pt.U, Pt.locs, Pt.cells, Pt.slots] at X333_ hS333_ hg333_ l333 y333 z333 st333 hQ333 CR333
  subst l333 y333 z333
  obtain ⟨X333, hS333, hZ333, hown333⟩ := rebS hS0 hk330 X333_ hS333_ hg333_ hZ hown
  obtain ⟨x333, hq333, SV333⟩ := hQ333
  obtain ⟨cp333, rfl, Nq333, E333, le333_, B333⟩ := hq333
  have N333 := Fr.app N330 Nq333
  have R333 := R330.trans CR333
  refine R2 st333 ?_
  show Rch p e below T333 (mkF m 29 #[vR x, vR a319] []) _
  refine R1 (XS.aloadN X333.here hx rfl (dq (dg dou 17 rfl)) rfl rfl) ?_
  refine R1 (XS.bipush X333.here hx rfl (dq (dg dou 18 rfl)) ) ?_
  show Rch p e below T333 (mkF m 32 #[vR x, vR a319] [(.int (34 : Int32)), (.ref a319)]) _
  have hle := esc_len ts
  have HS334 : ∀ x ∈ [a319, x333], Safe Z EL T333.vm T333.heap x := allS (Safe.exa (State.Warmed39.alike hZ333) B333.1.1 (by decide) (by decide)) (allS SV333 all0)
  obtain ⟨cq335, kq335, q335a, q335b, q335c⟩ := isOf hZ333 rfl B333.1.1
  obtain ⟨_, _, ⟨T335, L335, k335, n335⟩, -, X335, ⟨Lc335, hQ335, l335, y335, z335⟩, st335⟩ := X333.virtualBack hx (y := mN38) (z := mN38) hown333 (mw hZ333 hw 60 rfl) (mw hZ333 hw 61 rfl) (notFace_of_selects (args := #[]) (mw hZ333 hw 63 rfl)) (mw hZ333 hw 63 rfl) (mw hZ333 hw 62 rfl) (by decide) (backOf (W := 0) (rm_sbAppC l Z a0 hw [] a319 x333 cp333 ([] ++ [(34 : Int32)] ++ escL ts) (34 : Int32) T333.heap n0 (Nat.le_trans Z0 E333.1) B333 (Nat.le_trans Z0 le321) (Nat.le_trans Z0 le333_) (by first | omega | (simp only [List.length_append, List.length_cons, List.length_nil]; omega)) (by decide) (B0.ext E333).1) hZ333 (wq hw 64 rfl) (wq hw 33 rfl) (by decide) (by decide)) q335a q335c (g := (mkF m 32 #[vR x, vR a319] [(.int (34 : Int32)), (.ref a319)])) rfl (by rw [hml]; rfl) (Steps.refl _) (argsL := [(.int (34 : Int32))]) (rest := []) (lenOf pd_30 rfl) rfl (w0 rfl) (dq (dg dou 19 rfl)) (fun _ _ => ⟨rfl, rfl, (by decide : 30 + 1 ≤ _), (by decide : 892 + 40 ≤ _)⟩)
  dsimp only [Pt.U, Pt.locs, Pt.cells, Pt.slots] at X335 l335 y335 z335 st335 hQ335
  subst l335 y335 z335
  obtain ⟨va335, cp335, rfl, Nq335, K335, or335, B335⟩ := hQ335
  have N335 := Fr.app N333 Nq335
  have Ex336 : Ext h0 T335.heap := extKeep E333 K335 (allS le321 (allS le333_ all0))
  refine R2 st335 ?_
  show Rch p e below T335 (mkF m 35 #[vR x, vR a319] [(.ref a319)]) _
  have R335 := R333.trans (CHr.keep K335 HS334 R333.1)
  have hk335 := Nat.le_trans (Nat.le_refl _) K335.1
  have SV335 : Safe Z EL T333.vm T335.heap va335 := Safe.keep K335 HS334 R333.1 (safe_or or335 SV333)
  refine R1 (XT.pop X335.here hx rfl (dq (dg dou 20 rfl)) rfl rfl) ?_
  refine R1 (XS.aloadN X335.here hx rfl (dq (dg dou 21 rfl)) rfl rfl) ?_
  show Rch p e below T335 (mkF m 37 #[vR x, vR a319] [(.ref a319)]) _
  obtain ⟨cq338, kq338, q338a, q338b, q338c⟩ := isOf hZ333 rfl B335.1.1
  obtain ⟨_, _, ⟨T338, L338, k338, n338⟩, -, X338, ⟨Lc338, hQ338, l338, y338, z338⟩, st338⟩ := X335.virtualBack hx (y := mN44) (z := mN44) hown333 (mw hZ333 hw 89 rfl) (mw hZ333 hw 90 rfl) (notFace_of_selects (args := #[]) (mw hZ333 hw 92 rfl)) (mw hZ333 hw 92 rfl) (mw hZ333 hw 91 rfl) (by decide) (backOf (W := 0) (rm_sbStr l Z a0 hw [] a319 va335 cp335 ([] ++ [(34 : Int32)] ++ escL ts ++ [(34 : Int32)]) T335.heap n0 (Nat.le_trans Z0 Ex336.1) B335 (B0.ext Ex336).1) hZ333 (wq hw 93 rfl) (wq hw 33 rfl) (by decide) (by decide)) q338a q338c (g := (mkF m 37 #[vR x, vR a319] [(.ref a319)])) rfl (by rw [hml]; rfl) (Steps.refl _) (argsL := []) (rest := []) (lenOf pd_34 rfl) rfl (w0 rfl) (dq (dg dou 22 rfl)) (fun _ _ => ⟨rfl, rfl, (by decide : 31 + 2 ≤ _), (by decide : 932 + 44 ≤ _)⟩)
  dsimp only [Pt.U, Pt.locs, Pt.cells, Pt.slots] at X338 l338 y338 z338 st338 hQ338
  subst l338 y338 z338
  obtain ⟨t338, tb338, rfl, Nq338, E338, le338_, S338⟩ := hQ338
  have N338 := Fr.app N335 Nq338
  have Ex339 : Ext h0 T338.heap := Ex336.tr E338
  have Ex340 : Ext T335.heap T338.heap := E338
  refine R2 st338 ?_
  show Rch p e below T338 (mkF m 40 #[vR x, vR a319] [(.ref t338)]) _
  have R341 := R335.trans (CHr.ext Ex340 R335.1)
  have hk342 := Nat.le_trans hk335 Ex340.1
  exact Rch.finW (Q := Q_outr Z x ts fm h0 n0) X338 hZ333 hEL hS333 hk342 rfl R341 (v := some (.ref t338)) (fun h => by rw [Bd.returns] at h; cases h) (BodyLoose.notSynchronized Bd) (fun fs hr => retR X338 hx Bd.returns rfl rfl (dq (dg dou 23 rfl)) hr) ⟨t338, tb338, rfl, N338, Ex339, by simpa using S338⟩ (by decide) (by decide)
theorem del : dxs method_4_code [(0, .iload_n 0, 1), (1, .bipush 34, 2), (3, .if_icmp .eq 9, 3), (6, .iload_n 0, 1), (7, .bipush 92, 2), (9, .if_icmp .ne 5, 3), (12, .iconst 2, 1), (13, .ireturn, 1), (14, .iload_n 0, 1), (15, .bipush 32, 2), (17, .if_icmp .lt 11, 3), (20, .iload_n 0, 1), (21, .bipush 126, 2), (23, .if_icmp .gt 5, 3), (26, .iconst 1, 1), (27, .ireturn, 1), (28, .bipush 6, 2), (30, .ireturn, 1)] = true := by decide +kernel
theorem pn_elen : plainFor (⟨"com/example/ampersat/ampersat/text/LiteralsQuotedPinLaw", "width", "(C)I"⟩ : MethodName) = true := plainFor_of_name (by first | (simp [plainName, overriddenIn]; done) | decide +kernel)
def Q_elen (Z : State) (ch : Int32) (h0 : Heap) (n0 : Nat) (v : Option Value) (h : Heap) (L : List Loc) : Prop := v = some (.int (Int32.ofNat (esc1 ch).length)) ∧ Fr n0 L ∧ h = h0
set_option maxRecDepth 65536 in
set_option maxHeartbeats 40000000 in
theorem rm_elen (l : Launch) (Z : State) (a0 : Array Value) (hw : ∀ d ∈ tables_1, d.before a0 Z = true) (ws : List Jvm.Cond) (ch : Int32) (h0 : Heap) (n0 : Nat) (Z0 : n0 ≤ h0.size) :
    MetFree l mN48 (head1 (Jvm.Cond.code mN48 method_4_code 1 (some .int) :: ws) rO0) (fun a U => a = #[(.int ch)] ∧ Z.Warmed39 U.vm ∧ U.heap = h0) (fun _ _ _ _ _ => True) (fun _ U o U' => ∃ v L, o = .returned v ∧ Q_elen Z ch h0 n0 v U'.heap L ∧ FrameEnd U o U' L rO0.cells rO0.slots) := by
  refine MetFree.of_bodySF pn_elen hisR ?_
  intro p e s m args below meth c s₁ Bd hml0 hP hK
  obtain ⟨rfl, hZ, hh⟩ := hP
  have hx := Bd.exec
  have hby := Bd.bytes
  have dq := @hb _ _ hby
  have hml : c.maxLocals = 1 := hml0
  have X0 : Stand p l e rO0 s m #[(.int ch)] below meth c s₁ [] 0 0 := Stand.of_body Bd
  have e0 : s₁.heap = h0 := by rw [← hh, Bd.state]; rfl
  have N0 := Fr.nil n0
  show Rch p e below s₁ _ _
  refine Rch.cast (ef_nbl m ch) ?_
  show Rch p e below s₁ (mkF m 0 #[vI ch] []) _
  refine R1 (XS.iloadN X0.here hx rfl (dq (dg del 0 rfl)) rfl) ?_
  refine R1 (XS.bipush X0.here hx rfl (dq (dg del 1 rfl)) ) ?_
  show Rch p e below s₁ (mkF m 3 #[vI ch] [(.int (34 : Int32)), (.int ch)]) _
  have t12 : ∀ (u : Int32), is2 ch → Rch p e below s₁ (mkF m 12 #[vI ch] []) (fun U o => ∃ v L, o = .returned v ∧ Q_elen Z ch h0 n0 v U.heap L ∧ FrameEnd s o U L rO0.cells rO0.slots) := by
    intro u h2
    show Rch p e below s₁ (mkF m 12 #[vI ch] []) _
    refine R1 (XS.iconst X0.here hx rfl (dq (dg del 6 rfl)) ) ?_
    show Rch p e below s₁ (mkF m 13 #[vI ch] [(.int (2 : Int32))]) _
    exact Rch.fin (Q := Q_elen Z ch h0 n0) X0 (v := some (.int (2 : Int32))) (fun h => by rw [Bd.returns] at h; cases h) (BodyLoose.notSynchronized Bd) (fun fs hr => retI X0 hx Bd.returns (dq (dg del 7 rfl)) hr) (by rw [e0]; exact ⟨by rw [e2 h2]; rfl, N0, rfl⟩) (by decide) (by decide)
  have t28 : ∀ (u : Int32), ¬ is2 ch → ¬ is1 ch → Rch p e below s₁ (mkF m 28 #[vI ch] []) (fun U o => ∃ v L, o = .returned v ∧ Q_elen Z ch h0 n0 v U.heap L ∧ FrameEnd s o U L rO0.cells rO0.slots) := by
    intro u h2 h1
    show Rch p e below s₁ (mkF m 28 #[vI ch] []) _
    refine R1 (XS.bipush X0.here hx rfl (dq (dg del 16 rfl)) ) ?_
    show Rch p e below s₁ (mkF m 30 #[vI ch] [(.int (6 : Int32))]) _
    exact Rch.fin (Q := Q_elen Z ch h0 n0) X0 (v := some (.int (6 : Int32))) (fun h => by rw [Bd.returns] at h; cases h) (BodyLoose.notSynchronized Bd) (fun fs hr => retI X0 hx Bd.returns (dq (dg del 17 rfl)) hr) (by rw [e0]; exact ⟨by rw [e6 h2 h1]; rfl, N0, rfl⟩) (by decide) (by decide)
  by_cases q1 : ch = (34 : Int32)
  · skip
    refine R1 (XS.icmpYes X0.here hx rfl (pc0 := 3) (pc' := 12) rfl (dq (dg del 2 rfl)) rfl (teq q1).1 (by decide) (by decide)) ?_
    show Rch p e below s₁ (mkF m 12 #[vI ch] []) _
    exact t12 0 (Or.inl q1)
  · skip
    refine R1 (XS.icmpNo X0.here hx rfl (dq (dg del 2 rfl)) rfl (feq q1).1) ?_
    refine R1 (XS.iloadN X0.here hx rfl (dq (dg del 3 rfl)) rfl) ?_
    refine R1 (XS.bipush X0.here hx rfl (dq (dg del 4 rfl)) ) ?_
    show Rch p e below s₁ (mkF m 9 #[vI ch] [(.int (92 : Int32)), (.int ch)]) _
    by_cases q2 : ch = (92 : Int32)
    · skip
      refine R1 (XS.icmpNo X0.here hx rfl (dq (dg del 5 rfl)) rfl (teq q2).2) ?_
      show Rch p e below s₁ (mkF m 12 #[vI ch] []) _
      exact t12 0 (Or.inr q2)
    · skip
      refine R1 (XS.icmpYes X0.here hx rfl (pc0 := 9) (pc' := 14) rfl (dq (dg del 5 rfl)) rfl (feq q2).2 (by decide) (by decide)) ?_
      show Rch p e below s₁ (mkF m 14 #[vI ch] []) _
      have h2 : ¬ is2 ch := fun q => q.elim q1 q2
      refine R1 (XS.iloadN X0.here hx rfl (dq (dg del 8 rfl)) rfl) ?_
      refine R1 (XS.bipush X0.here hx rfl (dq (dg del 9 rfl)) ) ?_
      show Rch p e below s₁ (mkF m 17 #[vI ch] [(.int (32 : Int32)), (.int ch)]) _
      by_cases g1 : ch < (32 : Int32)
      · skip
        refine R1 (XS.icmpYes X0.here hx rfl (pc0 := 17) (pc' := 28) rfl (dq (dg del 10 rfl)) rfl (tlt g1).1 (by decide) (by decide)) ?_
        show Rch p e below s₁ (mkF m 28 #[vI ch] []) _
        exact t28 0 h2 (fun q => q.1 g1)
      · skip
        refine R1 (XS.icmpNo X0.here hx rfl (dq (dg del 10 rfl)) rfl (flt g1).1) ?_
        refine R1 (XS.iloadN X0.here hx rfl (dq (dg del 11 rfl)) rfl) ?_
        refine R1 (XS.bipush X0.here hx rfl (dq (dg del 12 rfl)) ) ?_
        show Rch p e below s₁ (mkF m 23 #[vI ch] [(.int (126 : Int32)), (.int ch)]) _
        by_cases g2 : (126 : Int32) < ch
        · skip
          refine R1 (XS.icmpYes X0.here hx rfl (pc0 := 23) (pc' := 28) rfl (dq (dg del 13 rfl)) rfl (tlt g2).2.2.1 (by decide) (by decide)) ?_
          show Rch p e below s₁ (mkF m 28 #[vI ch] []) _
          exact t28 0 h2 (fun q => q.2 g2)
        · skip
          refine R1 (XS.icmpNo X0.here hx rfl (dq (dg del 13 rfl)) rfl (flt g2).2.2.1) ?_
          refine R1 (XS.iconst X0.here hx rfl (dq (dg del 14 rfl)) ) ?_
          show Rch p e below s₁ (mkF m 27 #[vI ch] [(.int (1 : Int32))]) _
          exact Rch.fin (Q := Q_elen Z ch h0 n0) X0 (v := some (.int (1 : Int32))) (fun h => by rw [Bd.returns] at h; cases h) (BodyLoose.notSynchronized Bd) (fun fs hr => retI X0 hx Bd.returns (dq (dg del 15 rfl)) hr) (by rw [e0]; exact ⟨by rw [e1 h2 ⟨g1, g2⟩]; rfl, N0, rfl⟩) (by decide) (by decide)
theorem dhj : dxs method_5_code [(0, .iload_n 0, 1), (1, .bipush 10, 2), (3, .if_icmp .ge 9, 3), (6, .bipush 48, 2), (8, .iload_n 0, 1), (9, .iadd, 1), (10, .i2c, 1), (11, .ireturn, 1), (12, .bipush 97, 2), (14, .iload_n 0, 1), (15, .bipush 10, 2), (17, .isub, 1), (18, .iadd, 1), (19, .i2c, 1), (20, .ireturn, 1)] = true := by decide +kernel
theorem pn_hexJ : plainFor (⟨"com/example/ampersat/ampersat/text/LiteralsQuotedPinLaw", "hex", "(I)C"⟩ : MethodName) = true := plainFor_of_name (by first | (simp [plainName, overriddenIn]; done) | decide +kernel)
def Q_hexJ (Z : State) (mk : Nat) (h0 : Heap) (n0 : Nat) (v : Option Value) (h : Heap) (L : List Loc) : Prop := v = some (.int (hexL.getD mk 0)) ∧ Fr n0 L ∧ h = h0
set_option maxRecDepth 65536 in
set_option maxHeartbeats 40000000 in
theorem rm_hexJ (l : Launch) (Z : State) (a0 : Array Value) (hw : ∀ d ∈ tables_1, d.before a0 Z = true) (ws : List Jvm.Cond) (mk : Nat) (h0 : Heap) (n0 : Nat) (Z0 : n0 ≤ h0.size) (hk : mk < 16) :
    MetFree l mN49 (head1 (Jvm.Cond.code mN49 method_5_code 1 (some .char) :: ws) rO0) (fun a U => a = #[(.int (Int32.ofNat mk))] ∧ Z.Warmed39 U.vm ∧ U.heap = h0) (fun _ _ _ _ _ => True) (fun _ U o U' => ∃ v L, o = .returned v ∧ Q_hexJ Z mk h0 n0 v U'.heap L ∧ FrameEnd U o U' L rO0.cells rO0.slots) := by
  refine MetFree.of_bodySF pn_hexJ hisR ?_
  intro p e s m args below meth c s₁ Bd hml0 hP hK
  obtain ⟨rfl, hZ, hh⟩ := hP
  have hx := Bd.exec
  have hby := Bd.bytes
  have dq := @hb _ _ hby
  have hml : c.maxLocals = 1 := hml0
  have X0 : Stand p l e rO0 s m #[(.int (Int32.ofNat mk))] below meth c s₁ [] 0 0 := Stand.of_body Bd
  have e0 : s₁.heap = h0 := by rw [← hh, Bd.state]; rfl
  have N0 := Fr.nil n0
  show Rch p e below s₁ _ _
  refine Rch.cast (ef_nbl m (Int32.ofNat mk)) ?_
  show Rch p e below s₁ (mkF m 0 #[vI (Int32.ofNat mk)] []) _
  refine R1 (XS.iloadN X0.here hx rfl (dq (dg dhj 0 rfl)) rfl) ?_
  refine R1 (XS.bipush X0.here hx rfl (dq (dg dhj 1 rfl)) ) ?_
  show Rch p e below s₁ (mkF m 3 #[vI (Int32.ofNat mk)] [(.int (10 : Int32)), (.int (Int32.ofNat mk))]) _
  by_cases hlt : mk < 10
  · skip
    refine R1 (XS.icmpNo X0.here hx rfl (dq (dg dhj 2 rfl)) rfl (tlt (ofN_lt (n := 10) hlt (by decide))).2.1) ?_
    refine R1 (XS.bipush X0.here hx rfl (dq (dg dhj 3 rfl)) ) ?_
    refine R1 (XS.iloadN X0.here hx rfl (dq (dg dhj 4 rfl)) rfl) ?_
    refine R1 (XS.iadd X0.here hx rfl (dq (dg dhj 5 rfl)) rfl) ?_
    refine R1 (XT.i2c X0.here hx rfl (dq (dg dhj 6 rfl)) rfl) ?_
    show Rch p e below s₁ (mkF m 11 #[vI (Int32.ofNat mk)] [(.int (((48 : Int32) + (Int32.ofNat mk)).toUInt32.toUInt16.toUInt32.toInt32))]) _
    have ev : (((48 : Int32) + (Int32.ofNat mk)).toUInt32.toUInt16.toUInt32.toInt32) = hexL.getD mk 0 := by
      have t : ∀ k : Fin 16, k.val < 10 → (((48 : Int32) + (Int32.ofNat k.val)).toUInt32.toUInt16.toUInt32.toInt32) = hexL.getD k.val 0 := by decide +kernel
      exact t ⟨mk, hk⟩ hlt
    have hcm := (hex_b mk).1
    rw [ev]
    show Rch p e below s₁ (mkF m 11 #[vI (Int32.ofNat mk)] [(.int (hexL.getD mk 0))]) _
    exact Rch.fin (Q := Q_hexJ Z mk h0 n0) X0 (v := some (.int (hexL.getD mk 0))) (fun h => by rw [Bd.returns] at h; cases h) (BodyLoose.notSynchronized Bd) (fun fs hr => retOut X0 hx Bd.returns (StrChars.narrow_ch hcm.1 hcm.2) (Or.inl ⟨rfl, by simp, _, rfl⟩) (dq (dg dhj 7 rfl)) hr) (by rw [e0]; exact ⟨rfl, N0, rfl⟩) (by decide) (by decide)
  · skip
    refine R1 (XS.icmpYes X0.here hx rfl (pc0 := 3) (pc' := 12) rfl (dq (dg dhj 2 rfl)) rfl (flt (ofN_le (n := 10) (Nat.le_of_not_lt hlt) (by omega))).2.1 (by decide) (by decide)) ?_
    refine R1 (XS.bipush X0.here hx rfl (dq (dg dhj 8 rfl)) ) ?_
    refine R1 (XS.iloadN X0.here hx rfl (dq (dg dhj 9 rfl)) rfl) ?_
    refine R1 (XS.bipush X0.here hx rfl (dq (dg dhj 10 rfl)) ) ?_
    refine R1 (XS.isub X0.here hx rfl (dq (dg dhj 11 rfl)) rfl) ?_
    refine R1 (XS.iadd X0.here hx rfl (dq (dg dhj 12 rfl)) rfl) ?_
    refine R1 (XT.i2c X0.here hx rfl (dq (dg dhj 13 rfl)) rfl) ?_
    show Rch p e below s₁ (mkF m 20 #[vI (Int32.ofNat mk)] [(.int (((97 : Int32) + ((Int32.ofNat mk) - (10 : Int32))).toUInt32.toUInt16.toUInt32.toInt32))]) _
    have ev : (((97 : Int32) + ((Int32.ofNat mk) - (10 : Int32))).toUInt32.toUInt16.toUInt32.toInt32) = hexL.getD mk 0 := by
      have t : ∀ k : Fin 16, ¬ k.val < 10 → (((97 : Int32) + ((Int32.ofNat k.val) - (10 : Int32))).toUInt32.toUInt16.toUInt32.toInt32) = hexL.getD k.val 0 := by decide +kernel
      exact t ⟨mk, hk⟩ hlt
    have hcm := (hex_b mk).1
    rw [ev]
    show Rch p e below s₁ (mkF m 20 #[vI (Int32.ofNat mk)] [(.int (hexL.getD mk 0))]) _
    exact Rch.fin (Q := Q_hexJ Z mk h0 n0) X0 (v := some (.int (hexL.getD mk 0))) (fun h => by rw [Bd.returns] at h; cases h) (BodyLoose.notSynchronized Bd) (fun fs hr => retOut X0 hx Bd.returns (StrChars.narrow_ch hcm.1 hcm.2) (Or.inl ⟨rfl, by simp, _, rfl⟩) (dq (dg dhj 14 rfl)) hr) (by rw [e0]; exact ⟨rfl, N0, rfl⟩) (by decide) (by decide)
theorem dsg : dxs method_6_code [(0, .iload_n 2, 1), (1, .bipush 34, 2), (3, .if_icmp .eq 9, 3), (6, .iload_n 2, 1), (7, .bipush 92, 2), (9, .if_icmp .ne 30, 3), (12, .aload_n 0, 1), (13, .iload_n 1, 1), (14, .invokevirtual 30, 3), (17, .bipush 92, 2), (19, .if_icmp .ne 18, 3), (22, .aload_n 0, 1), (23, .iload_n 1, 1), (24, .iconst 1, 1), (25, .iadd, 1), (26, .invokevirtual 30, 3), (29, .iload_n 2, 1), (30, .if_icmp .ne 7, 3), (33, .iconst 1, 1), (34, .goto 4, 3), (38, .ireturn, 1), (39, .iload_n 2, 1), (40, .bipush 32, 2), (42, .if_icmp .lt 24, 3), (45, .iload_n 2, 1), (46, .bipush 126, 2), (48, .if_icmp .gt 18, 3), (51, .aload_n 0, 1), (52, .iload_n 1, 1), (53, .invokevirtual 30, 3), (56, .iload_n 2, 1), (57, .if_icmp .ne 7, 3), (60, .iconst 1, 1), (61, .goto 4, 3), (65, .ireturn, 1), (66, .aload_n 0, 1), (67, .iload_n 1, 1), (68, .invokevirtual 30, 3), (71, .bipush 92, 2), (73, .if_icmp .ne 95, 3), (76, .aload_n 0, 1), (77, .iload_n 1, 1), (78, .iconst 1, 1), (79, .iadd, 1), (80, .invokevirtual 30, 3), (83, .bipush 117, 2), (85, .if_icmp .ne 83, 3), (88, .aload_n 0, 1), (89, .iload_n 1, 1), (90, .iconst 2, 1), (91, .iadd, 1), (92, .invokevirtual 30, 3), (95, .iload_n 2, 1), (96, .bipush 12, 2), (98, .ishr, 1), (99, .bipush 15, 2), (101, .iand, 1), (102, .invokestatic 41, 3), (105, .if_icmp .ne 63, 3), (108, .aload_n 0, 1), (109, .iload_n 1, 1), (110, .iconst 3, 1), (111, .iadd, 1), (112, .invokevirtual 30, 3), (115, .iload_n 2, 1), (116, .bipush 8, 2), (118, .ishr, 1), (119, .bipush 15, 2), (121, .iand, 1), (122, .invokestatic 41, 3), (125, .if_icmp .ne 43, 3), (128, .aload_n 0, 1), (129, .iload_n 1, 1), (130, .iconst 4, 1), (131, .iadd, 1), (132, .invokevirtual 30, 3), (135, .iload_n 2, 1), (136, .iconst 4, 1), (137, .ishr, 1), (138, .bipush 15, 2), (140, .iand, 1), (141, .invokestatic 41, 3), (144, .if_icmp .ne 24, 3), (147, .aload_n 0, 1), (148, .iload_n 1, 1), (149, .iconst 5, 1), (150, .iadd, 1), (151, .invokevirtual 30, 3), (154, .iload_n 2, 1), (155, .bipush 15, 2), (157, .iand, 1), (158, .invokestatic 41, 3), (161, .if_icmp .ne 7, 3), (164, .iconst 1, 1), (165, .goto 4, 3), (169, .ireturn, 1)] = true := by decide +kernel
theorem pn_seg : plainFor (⟨"com/example/ampersat/ampersat/text/LiteralsQuotedPinLaw", "matches", "(Ljava/lang/String;IC)Z"⟩ : MethodName) = true := plainFor_of_name (by first | (simp [plainName, overriddenIn]; done) | decide +kernel)
def Q_seg (Z : State) (x : Addr) (rs ps qs : List Int32) (ch : Int32) (fm : Value) (h0 : Heap) (n0 : Nat) (v : Option Value) (h : Heap) (L : List Loc) : Prop := v = some (.int 1) ∧ Fr n0 L ∧ h = h0
set_option maxRecDepth 65536 in
set_option maxHeartbeats 40000000 in
theorem rm_seg (l : Launch) (Z : State) (a0 : Array Value) (hw : ∀ d ∈ tables_1, d.before a0 Z = true) (ws : List Jvm.Cond) (x : Addr) (rs ps qs : List Int32) (ch : Int32) (fm : Value) (h0 : Heap) (n0 : Nat) (Z0 : n0 ≤ h0.size) (S : StrA Z h0 x rs) (B0 : Bg Z h0 fm) (hrs : rs = ps ++ esc1 ch ++ qs) (hln : rs.length ≤ 20) :
    MetFree l mN50 (head1 (Jvm.Cond.code mN50 method_6_code 3 (some .boolean) :: ws) rO35) (fun a U => a = #[(.ref x), (.int (Int32.ofNat ps.length)), (.int ch)] ∧ Z.Warmed39 U.vm ∧ U.heap = h0) (fun _ _ _ _ _ => True) (fun _ U o U' => ∃ v L, o = .returned v ∧ Q_seg Z x rs ps qs ch fm h0 n0 v U'.heap L ∧ FrameEnd U o U' L rO35.cells rO35.slots) := by
  refine MetFree.of_bodySF pn_seg hisR ?_
  intro p e s m args below meth c s₁ Bd hml0 hP hK
  obtain ⟨rfl, hZ, hh⟩ := hP
  have hx := Bd.exec
  have hby := Bd.bytes
  have dq := @hb _ _ hby
  have hml : c.maxLocals = 3 := hml0
  have hown : s.vm.findClass "com/example/ampersat/ampersat/text/LiteralsQuotedPinLaw" = some m.cls := findClass_of_methodNamed Bd.named
  have X0 : Stand p l e rO35 s m #[(.ref x), (.int (Int32.ofNat ps.length)), (.int ch)] below meth c s₁ [] 0 0 := Stand.of_body Bd
  have e0 : s₁.heap = h0 := by rw [← hh, Bd.state]; rfl
  have N0 := Fr.nil n0
  show Rch p e below s₁ _ _
  refine Rch.cast (ef_put m x (Int32.ofNat ps.length) ch) ?_
  show Rch p e below s₁ (mkF m 0 #[vR x, vI (Int32.ofNat ps.length), vI ch] []) _
  refine R1 (XS.iloadN X0.here hx rfl (dq (dg dsg 0 rfl)) rfl) ?_
  refine R1 (XS.bipush X0.here hx rfl (dq (dg dsg 1 rfl)) ) ?_
  show Rch p e below s₁ (mkF m 3 #[vR x, vI (Int32.ofNat ps.length), vI ch] [(.int (34 : Int32)), (.int ch)]) _
  have t12 : ∀ (u : Int32), is2 ch → Rch p e below s₁ (mkF m 12 #[vR x, vI (Int32.ofNat ps.length), vI ch] []) (fun U o => ∃ v L, o = .returned v ∧ Q_seg Z x rs ps qs ch fm h0 n0 v U.heap L ∧ FrameEnd s o U L rO35.cells rO35.slots) := by
    intro u h2
    show Rch p e below s₁ (mkF m 12 #[vR x, vI (Int32.ofNat ps.length), vI ch] []) _
    refine R1 (XS.aloadN X0.here hx rfl (dq (dg dsg 6 rfl)) rfl rfl) ?_
    refine R1 (XS.iloadN X0.here hx rfl (dq (dg dsg 7 rfl)) rfl) ?_
    show Rch p e below s₁ (mkF m 14 #[vR x, vI (Int32.ofNat ps.length), vI ch] [(.int (Int32.ofNat ps.length)), (.ref x)]) _
    obtain ⟨cq343, kq343, q343a, q343b, q343c⟩ := isOf hZ e0 S.exa
    obtain ⟨_, _, ⟨T343, L343, k343, n343⟩, -, X343, ⟨Lc343, hQ343, l343, y343, z343⟩, st343⟩ := X0.virtualBack hx (y := mN7) (z := mN7) hown (mw hZ hw 129 rfl) (mw hZ hw 130 rfl) (notFace_of_selects (args := #[]) (mw hZ hw 132 rfl)) (mw hZ hw 132 rfl) (mw hZ hw 131 rfl) (by decide) (chS (W := 0) hZ hw S B0 ps.length (by rw [hrs, e2 h2]; simp only [hx4, List.length_append, List.length_cons, List.length_nil]; omega) (by omega) n0 Z0 (by decide) (by decide)) q343a q343c (g := (mkF m 14 #[vR x, vI (Int32.ofNat ps.length), vI ch] [(.int (Int32.ofNat ps.length)), (.ref x)])) rfl (by rw [hml]; rfl) (Steps.refl _) (argsL := [(.int (Int32.ofNat ps.length))]) (rest := []) (lenOf pd_29 rfl) rfl (w0 rfl) (dq (dg dsg 8 rfl)) (fun _ _ => ⟨rfl, e0, (by decide : 0 + 0 ≤ _), (by decide : 0 + 0 ≤ _)⟩)
    dsimp only [Pt.U, Pt.locs, Pt.cells, Pt.slots] at X343 l343 y343 z343 st343 hQ343
    subst l343 y343 z343
    obtain ⟨rfl, Nq343, e343⟩ := hQ343
    have N343 := Fr.app N0 Nq343
    refine R2 st343 ?_
    show Rch p e below T343 (mkF m 17 #[vR x, vI (Int32.ofNat ps.length), vI ch] [(.int (rs.getD ps.length 0))]) _
    rw [(show rs.getD ps.length 0 = (92 : Int32) from by rw [hrs, e2 h2, List.append_assoc]; exact (getD_mid ps _ _ 0).trans rfl)]
    show Rch p e below T343 (mkF m 17 #[vR x, vI (Int32.ofNat ps.length), vI ch] [(.int (92 : Int32))]) _
    refine R1 (XS.bipush X343.here hx rfl (dq (dg dsg 9 rfl)) ) ?_
    refine R1 (XS.icmpNo X343.here hx rfl (dq (dg dsg 10 rfl)) rfl (by decide : if_icmp.holds .ne (92 : Int32) (92 : Int32) = false)) ?_
    refine R1 (XS.aloadN X343.here hx rfl (dq (dg dsg 11 rfl)) rfl rfl) ?_
    refine R1 (XS.iloadN X343.here hx rfl (dq (dg dsg 12 rfl)) rfl) ?_
    refine R1 (XS.iconst X343.here hx rfl (dq (dg dsg 13 rfl)) ) ?_
    refine R1 (XS.iadd X343.here hx rfl (dq (dg dsg 14 rfl)) rfl) ?_
    show Rch p e below T343 (mkF m 26 #[vR x, vI (Int32.ofNat ps.length), vI ch] [(.int ((Int32.ofNat ps.length) + (1 : Int32))), (.ref x)]) _
    rw [add1n]
    show Rch p e below T343 (mkF m 26 #[vR x, vI (Int32.ofNat ps.length), vI ch] [(.int (Int32.ofNat (ps.length + 1))), (.ref x)]) _
    obtain ⟨cq344, kq344, q344a, q344b, q344c⟩ := isOf hZ e343 S.exa
    obtain ⟨_, _, ⟨T344, L344, k344, n344⟩, -, X344, ⟨Lc344, hQ344, l344, y344, z344⟩, st344⟩ := X343.virtualBack hx (y := mN7) (z := mN7) hown (mw hZ hw 129 rfl) (mw hZ hw 130 rfl) (notFace_of_selects (args := #[]) (mw hZ hw 132 rfl)) (mw hZ hw 132 rfl) (mw hZ hw 131 rfl) (by decide) (chS (W := 0) hZ hw S B0 (ps.length + 1) (by rw [hrs, e2 h2]; simp only [hx4, List.length_append, List.length_cons, List.length_nil]; omega) (by omega) n0 Z0 (by decide) (by decide)) q344a q344c (g := (mkF m 26 #[vR x, vI (Int32.ofNat ps.length), vI ch] [(.int (Int32.ofNat (ps.length + 1))), (.ref x)])) rfl (by rw [hml]; rfl) (Steps.refl _) (argsL := [(.int (Int32.ofNat (ps.length + 1)))]) (rest := []) (lenOf pd_29 rfl) rfl (w0 rfl) (dq (dg dsg 15 rfl)) (fun _ _ => ⟨rfl, e343, (by decide : 0 + 0 ≤ _), (by decide : 0 + 0 ≤ _)⟩)
    dsimp only [Pt.U, Pt.locs, Pt.cells, Pt.slots] at X344 l344 y344 z344 st344 hQ344
    subst l344 y344 z344
    obtain ⟨rfl, Nq344, e344⟩ := hQ344
    have N344 := Fr.app N343 Nq344
    refine R2 st344 ?_
    show Rch p e below T344 (mkF m 29 #[vR x, vI (Int32.ofNat ps.length), vI ch] [(.int (rs.getD (ps.length + 1) 0))]) _
    rw [(show rs.getD (ps.length + 1) 0 = ch from by rw [hrs, e2 h2, List.append_assoc]; exact (getD_mid ps _ _ 1).trans rfl)]
    show Rch p e below T344 (mkF m 29 #[vR x, vI (Int32.ofNat ps.length), vI ch] [(.int ch)]) _
    refine R1 (XS.iloadN X344.here hx rfl (dq (dg dsg 16 rfl)) rfl) ?_
    refine R1 (XS.icmpNo X344.here hx rfl (dq (dg dsg 17 rfl)) rfl (teq (rfl : ch = ch)).2) ?_
    refine R1 (XS.iconst X344.here hx rfl (dq (dg dsg 18 rfl)) ) ?_
    refine R1 (XS.goto X344.here hx rfl (pc0 := 34) (pc' := 38) rfl (dq (dg dsg 19 rfl)) (by decide) (by decide)) ?_
    show Rch p e below T344 (mkF m 38 #[vR x, vI (Int32.ofNat ps.length), vI ch] [(.int (1 : Int32))]) _
    exact Rch.fin (Q := Q_seg Z x rs ps qs ch fm h0 n0) X344 (v := some (.int (1 : Int32))) (fun h => by rw [Bd.returns] at h; cases h) (BodyLoose.notSynchronized Bd) (fun fs hr => retN X344 hx (t := .boolean) Bd.returns (by simp) (dq (dg dsg 20 rfl)) hr) (by rw [e344]; exact ⟨rfl, N344, rfl⟩) (by decide) (by decide)
  have t66 : ∀ (u : Int32), ¬ is2 ch → ¬ is1 ch → Rch p e below s₁ (mkF m 66 #[vR x, vI (Int32.ofNat ps.length), vI ch] []) (fun U o => ∃ v L, o = .returned v ∧ Q_seg Z x rs ps qs ch fm h0 n0 v U.heap L ∧ FrameEnd s o U L rO35.cells rO35.slots) := by
    intro u h2 h1
    show Rch p e below s₁ (mkF m 66 #[vR x, vI (Int32.ofNat ps.length), vI ch] []) _
    refine R1 (XS.aloadN X0.here hx rfl (dq (dg dsg 35 rfl)) rfl rfl) ?_
    refine R1 (XS.iloadN X0.here hx rfl (dq (dg dsg 36 rfl)) rfl) ?_
    show Rch p e below s₁ (mkF m 68 #[vR x, vI (Int32.ofNat ps.length), vI ch] [(.int (Int32.ofNat ps.length)), (.ref x)]) _
    obtain ⟨cq345, kq345, q345a, q345b, q345c⟩ := isOf hZ e0 S.exa
    obtain ⟨_, _, ⟨T345, L345, k345, n345⟩, -, X345, ⟨Lc345, hQ345, l345, y345, z345⟩, st345⟩ := X0.virtualBack hx (y := mN7) (z := mN7) hown (mw hZ hw 129 rfl) (mw hZ hw 130 rfl) (notFace_of_selects (args := #[]) (mw hZ hw 132 rfl)) (mw hZ hw 132 rfl) (mw hZ hw 131 rfl) (by decide) (chS (W := 0) hZ hw S B0 ps.length (by rw [hrs, e6 h2 h1]; simp only [hx4, List.length_append, List.length_cons, List.length_nil]; omega) (by omega) n0 Z0 (by decide) (by decide)) q345a q345c (g := (mkF m 68 #[vR x, vI (Int32.ofNat ps.length), vI ch] [(.int (Int32.ofNat ps.length)), (.ref x)])) rfl (by rw [hml]; rfl) (Steps.refl _) (argsL := [(.int (Int32.ofNat ps.length))]) (rest := []) (lenOf pd_29 rfl) rfl (w0 rfl) (dq (dg dsg 37 rfl)) (fun _ _ => ⟨rfl, e0, (by decide : 0 + 0 ≤ _), (by decide : 0 + 0 ≤ _)⟩)
    dsimp only [Pt.U, Pt.locs, Pt.cells, Pt.slots] at X345 l345 y345 z345 st345 hQ345
    subst l345 y345 z345
    obtain ⟨rfl, Nq345, e345⟩ := hQ345
    have N345 := Fr.app N0 Nq345
    refine R2 st345 ?_
    show Rch p e below T345 (mkF m 71 #[vR x, vI (Int32.ofNat ps.length), vI ch] [(.int (rs.getD ps.length 0))]) _
    rw [(show rs.getD ps.length 0 = (92 : Int32) from by rw [hrs, e6 h2 h1, List.append_assoc]; exact (getD_mid ps _ _ 0).trans rfl)]
    show Rch p e below T345 (mkF m 71 #[vR x, vI (Int32.ofNat ps.length), vI ch] [(.int (92 : Int32))]) _
    refine R1 (XS.bipush X345.here hx rfl (dq (dg dsg 38 rfl)) ) ?_
    refine R1 (XS.icmpNo X345.here hx rfl (dq (dg dsg 39 rfl)) rfl (by decide : if_icmp.holds .ne (92 : Int32) (92 : Int32) = false)) ?_
    refine R1 (XS.aloadN X345.here hx rfl (dq (dg dsg 40 rfl)) rfl rfl) ?_
    refine R1 (XS.iloadN X345.here hx rfl (dq (dg dsg 41 rfl)) rfl) ?_
    refine R1 (XS.iconst X345.here hx rfl (dq (dg dsg 42 rfl)) ) ?_
    refine R1 (XS.iadd X345.here hx rfl (dq (dg dsg 43 rfl)) rfl) ?_
    show Rch p e below T345 (mkF m 80 #[vR x, vI (Int32.ofNat ps.length), vI ch] [(.int ((Int32.ofNat ps.length) + (1 : Int32))), (.ref x)]) _
    rw [add1n]
    show Rch p e below T345 (mkF m 80 #[vR x, vI (Int32.ofNat ps.length), vI ch] [(.int (Int32.ofNat (ps.length + 1))), (.ref x)]) _
    obtain ⟨cq346, kq346, q346a, q346b, q346c⟩ := isOf hZ e345 S.exa
    obtain ⟨_, _, ⟨T346, L346, k346, n346⟩, -, X346, ⟨Lc346, hQ346, l346, y346, z346⟩, st346⟩ := X345.virtualBack hx (y := mN7) (z := mN7) hown (mw hZ hw 129 rfl) (mw hZ hw 130 rfl) (notFace_of_selects (args := #[]) (mw hZ hw 132 rfl)) (mw hZ hw 132 rfl) (mw hZ hw 131 rfl) (by decide) (chS (W := 0) hZ hw S B0 (ps.length + 1) (by rw [hrs, e6 h2 h1]; simp only [hx4, List.length_append, List.length_cons, List.length_nil]; omega) (by omega) n0 Z0 (by decide) (by decide)) q346a q346c (g := (mkF m 80 #[vR x, vI (Int32.ofNat ps.length), vI ch] [(.int (Int32.ofNat (ps.length + 1))), (.ref x)])) rfl (by rw [hml]; rfl) (Steps.refl _) (argsL := [(.int (Int32.ofNat (ps.length + 1)))]) (rest := []) (lenOf pd_29 rfl) rfl (w0 rfl) (dq (dg dsg 44 rfl)) (fun _ _ => ⟨rfl, e345, (by decide : 0 + 0 ≤ _), (by decide : 0 + 0 ≤ _)⟩)
    dsimp only [Pt.U, Pt.locs, Pt.cells, Pt.slots] at X346 l346 y346 z346 st346 hQ346
    subst l346 y346 z346
    obtain ⟨rfl, Nq346, e346⟩ := hQ346
    have N346 := Fr.app N345 Nq346
    refine R2 st346 ?_
    show Rch p e below T346 (mkF m 83 #[vR x, vI (Int32.ofNat ps.length), vI ch] [(.int (rs.getD (ps.length + 1) 0))]) _
    rw [(show rs.getD (ps.length + 1) 0 = (117 : Int32) from by rw [hrs, e6 h2 h1, List.append_assoc]; exact (getD_mid ps _ _ 1).trans rfl)]
    show Rch p e below T346 (mkF m 83 #[vR x, vI (Int32.ofNat ps.length), vI ch] [(.int (117 : Int32))]) _
    refine R1 (XS.bipush X346.here hx rfl (dq (dg dsg 45 rfl)) ) ?_
    refine R1 (XS.icmpNo X346.here hx rfl (dq (dg dsg 46 rfl)) rfl (by decide : if_icmp.holds .ne (117 : Int32) (117 : Int32) = false)) ?_
    refine R1 (XS.aloadN X346.here hx rfl (dq (dg dsg 47 rfl)) rfl rfl) ?_
    refine R1 (XS.iloadN X346.here hx rfl (dq (dg dsg 48 rfl)) rfl) ?_
    refine R1 (XS.iconst X346.here hx rfl (dq (dg dsg 49 rfl)) ) ?_
    refine R1 (XS.iadd X346.here hx rfl (dq (dg dsg 50 rfl)) rfl) ?_
    show Rch p e below T346 (mkF m 92 #[vR x, vI (Int32.ofNat ps.length), vI ch] [(.int ((Int32.ofNat ps.length) + (2 : Int32))), (.ref x)]) _
    rw [(show Int32.ofNat ps.length + (2 : Int32) = Int32.ofNat (ps.length + 2) from ofN_add _ 2)]
    show Rch p e below T346 (mkF m 92 #[vR x, vI (Int32.ofNat ps.length), vI ch] [(.int (Int32.ofNat (ps.length + 2))), (.ref x)]) _
    obtain ⟨cq347, kq347, q347a, q347b, q347c⟩ := isOf hZ e346 S.exa
    obtain ⟨_, _, ⟨T347, L347, k347, n347⟩, -, X347, ⟨Lc347, hQ347, l347, y347, z347⟩, st347⟩ := X346.virtualBack hx (y := mN7) (z := mN7) hown (mw hZ hw 129 rfl) (mw hZ hw 130 rfl) (notFace_of_selects (args := #[]) (mw hZ hw 132 rfl)) (mw hZ hw 132 rfl) (mw hZ hw 131 rfl) (by decide) (chS (W := 0) hZ hw S B0 (ps.length + 2) (by rw [hrs, e6 h2 h1]; simp only [hx4, List.length_append, List.length_cons, List.length_nil]; omega) (by omega) n0 Z0 (by decide) (by decide)) q347a q347c (g := (mkF m 92 #[vR x, vI (Int32.ofNat ps.length), vI ch] [(.int (Int32.ofNat (ps.length + 2))), (.ref x)])) rfl (by rw [hml]; rfl) (Steps.refl _) (argsL := [(.int (Int32.ofNat (ps.length + 2)))]) (rest := []) (lenOf pd_29 rfl) rfl (w0 rfl) (dq (dg dsg 51 rfl)) (fun _ _ => ⟨rfl, e346, (by decide : 0 + 0 ≤ _), (by decide : 0 + 0 ≤ _)⟩)
    dsimp only [Pt.U, Pt.locs, Pt.cells, Pt.slots] at X347 l347 y347 z347 st347 hQ347
    subst l347 y347 z347
    obtain ⟨rfl, Nq347, e347⟩ := hQ347
    have N347 := Fr.app N346 Nq347
    refine R2 st347 ?_
    show Rch p e below T347 (mkF m 95 #[vR x, vI (Int32.ofNat ps.length), vI ch] [(.int (rs.getD (ps.length + 2) 0))]) _
    rw [(show rs.getD (ps.length + 2) 0 = (hxAt ch (12 : Int32)) from by rw [hrs, e6 h2 h1, List.append_assoc]; exact (getD_mid ps _ _ 2).trans rfl)]
    show Rch p e below T347 (mkF m 95 #[vR x, vI (Int32.ofNat ps.length), vI ch] [(.int (hxAt ch (12 : Int32)))]) _
    refine R1 (XS.iloadN X347.here hx rfl (dq (dg dsg 52 rfl)) rfl) ?_
    refine R1 (XS.bipush X347.here hx rfl (dq (dg dsg 53 rfl)) ) ?_
    refine R1 (XT.ishr X347.here hx rfl (dq (dg dsg 54 rfl)) rfl) ?_
    refine R1 (XS.bipush X347.here hx rfl (dq (dg dsg 55 rfl)) ) ?_
    refine R1 (XS.iand X347.here hx rfl (dq (dg dsg 56 rfl)) rfl) ?_
    show Rch p e below T347 (mkF m 102 #[vR x, vI (Int32.ofNat ps.length), vI ch] [(.int ((ch >>> ((12 : Int32) &&& 31)) &&& (15 : Int32))), (.int (hxAt ch (12 : Int32)))]) _
    obtain ⟨kd0, ek0⟩ := nib (ch >>> ((12 : Int32) &&& 31))
    rw [ek0]
    show Rch p e below T347 (mkF m 102 #[vR x, vI (Int32.ofNat ps.length), vI ch] [(.int (Int32.ofNat kd0.val)), (.int (hxAt ch (12 : Int32)))]) _
    obtain ⟨_, _, ⟨T348, L348, k348, n348⟩, -, X348, ⟨Lc348, hQ348, l348, y348, z348⟩, st348⟩ := Jvm.LawKit.callS X347 hx (y := mN49) hown (mw hZ hw 230 rfl) (mw hZ hw 231 rfl) (mw hZ hw 3 rfl) (mw hZ hw 232 rfl) (by decide) (backOf (W := 1) (rm_hexJ l Z a0 hw [] kd0.val h0 n0 Z0 kd0.isLt) hZ (wq hw 232 rfl) (wq hw 3 rfl) (by decide) (by decide)) (g := (mkF m 102 #[vR x, vI (Int32.ofNat ps.length), vI ch] [(.int (Int32.ofNat kd0.val)), (.int (hxAt ch (12 : Int32)))])) rfl (by rw [hml]; rfl) (argsL := [(.int (Int32.ofNat kd0.val))]) (rest := [(.int (hxAt ch (12 : Int32)))]) (lenOf pd_29 rfl) rfl (w0 rfl) (dq (dg dsg 57 rfl)) (fun _ _ => ⟨rfl, e347, (by decide : 0 + 0 ≤ _), (by decide : 0 + 0 ≤ _)⟩)
    dsimp only [Pt.U, Pt.locs, Pt.cells, Pt.slots] at X348 l348 y348 z348 st348 hQ348
    subst l348 y348 z348
    obtain ⟨rfl, Nq348, e348⟩ := hQ348
    have N348 := Fr.app N347 Nq348
    refine R0_ st348 ?_
    show Rch p e below T348 (mkF m 105 #[vR x, vI (Int32.ofNat ps.length), vI ch] [(.int (hexL.getD kd0.val 0)), (.int (hxAt ch (12 : Int32)))]) _
    rw [(show hexL.getD kd0.val 0 = (hxAt ch (12 : Int32)) from hx_of ek0)]
    show Rch p e below T348 (mkF m 105 #[vR x, vI (Int32.ofNat ps.length), vI ch] [(.int (hxAt ch (12 : Int32))), (.int (hxAt ch (12 : Int32)))]) _
    refine R1 (XS.icmpNo X348.here hx rfl (dq (dg dsg 58 rfl)) rfl (teq (rfl : (hxAt ch (12 : Int32)) = (hxAt ch (12 : Int32)))).2) ?_
    refine R1 (XS.aloadN X348.here hx rfl (dq (dg dsg 59 rfl)) rfl rfl) ?_
    refine R1 (XS.iloadN X348.here hx rfl (dq (dg dsg 60 rfl)) rfl) ?_
    refine R1 (XS.iconst X348.here hx rfl (dq (dg dsg 61 rfl)) ) ?_
    refine R1 (XS.iadd X348.here hx rfl (dq (dg dsg 62 rfl)) rfl) ?_
    show Rch p e below T348 (mkF m 112 #[vR x, vI (Int32.ofNat ps.length), vI ch] [(.int ((Int32.ofNat ps.length) + (3 : Int32))), (.ref x)]) _
    rw [(show Int32.ofNat ps.length + (3 : Int32) = Int32.ofNat (ps.length + 3) from ofN_add _ 3)]
    show Rch p e below T348 (mkF m 112 #[vR x, vI (Int32.ofNat ps.length), vI ch] [(.int (Int32.ofNat (ps.length + 3))), (.ref x)]) _
    obtain ⟨cq349, kq349, q349a, q349b, q349c⟩ := isOf hZ e348 S.exa
    obtain ⟨_, _, ⟨T349, L349, k349, n349⟩, -, X349, ⟨Lc349, hQ349, l349, y349, z349⟩, st349⟩ := X348.virtualBack hx (y := mN7) (z := mN7) hown (mw hZ hw 129 rfl) (mw hZ hw 130 rfl) (notFace_of_selects (args := #[]) (mw hZ hw 132 rfl)) (mw hZ hw 132 rfl) (mw hZ hw 131 rfl) (by decide) (chS (W := 0) hZ hw S B0 (ps.length + 3) (by rw [hrs, e6 h2 h1]; simp only [hx4, List.length_append, List.length_cons, List.length_nil]; omega) (by omega) n0 Z0 (by decide) (by decide)) q349a q349c (g := (mkF m 112 #[vR x, vI (Int32.ofNat ps.length), vI ch] [(.int (Int32.ofNat (ps.length + 3))), (.ref x)])) rfl (by rw [hml]; rfl) (Steps.refl _) (argsL := [(.int (Int32.ofNat (ps.length + 3)))]) (rest := []) (lenOf pd_29 rfl) rfl (w0 rfl) (dq (dg dsg 63 rfl)) (fun _ _ => ⟨rfl, e348, (by decide : 0 + 0 ≤ _), (by decide : 0 + 0 ≤ _)⟩)
    dsimp only [Pt.U, Pt.locs, Pt.cells, Pt.slots] at X349 l349 y349 z349 st349 hQ349
    subst l349 y349 z349
    obtain ⟨rfl, Nq349, e349⟩ := hQ349
    have N349 := Fr.app N348 Nq349
    refine R2 st349 ?_
    show Rch p e below T349 (mkF m 115 #[vR x, vI (Int32.ofNat ps.length), vI ch] [(.int (rs.getD (ps.length + 3) 0))]) _
    rw [(show rs.getD (ps.length + 3) 0 = (hxAt ch (8 : Int32)) from by rw [hrs, e6 h2 h1, List.append_assoc]; exact (getD_mid ps _ _ 3).trans rfl)]
    show Rch p e below T349 (mkF m 115 #[vR x, vI (Int32.ofNat ps.length), vI ch] [(.int (hxAt ch (8 : Int32)))]) _
    refine R1 (XS.iloadN X349.here hx rfl (dq (dg dsg 64 rfl)) rfl) ?_
    refine R1 (XS.bipush X349.here hx rfl (dq (dg dsg 65 rfl)) ) ?_
    refine R1 (XT.ishr X349.here hx rfl (dq (dg dsg 66 rfl)) rfl) ?_
    refine R1 (XS.bipush X349.here hx rfl (dq (dg dsg 67 rfl)) ) ?_
    refine R1 (XS.iand X349.here hx rfl (dq (dg dsg 68 rfl)) rfl) ?_
    show Rch p e below T349 (mkF m 122 #[vR x, vI (Int32.ofNat ps.length), vI ch] [(.int ((ch >>> ((8 : Int32) &&& 31)) &&& (15 : Int32))), (.int (hxAt ch (8 : Int32)))]) _
    obtain ⟨kd1, ek1⟩ := nib (ch >>> ((8 : Int32) &&& 31))
    rw [ek1]
    show Rch p e below T349 (mkF m 122 #[vR x, vI (Int32.ofNat ps.length), vI ch] [(.int (Int32.ofNat kd1.val)), (.int (hxAt ch (8 : Int32)))]) _
    obtain ⟨_, _, ⟨T350, L350, k350, n350⟩, -, X350, ⟨Lc350, hQ350, l350, y350, z350⟩, st350⟩ := Jvm.LawKit.callS X349 hx (y := mN49) hown (mw hZ hw 230 rfl) (mw hZ hw 231 rfl) (mw hZ hw 3 rfl) (mw hZ hw 232 rfl) (by decide) (backOf (W := 1) (rm_hexJ l Z a0 hw [] kd1.val h0 n0 Z0 kd1.isLt) hZ (wq hw 232 rfl) (wq hw 3 rfl) (by decide) (by decide)) (g := (mkF m 122 #[vR x, vI (Int32.ofNat ps.length), vI ch] [(.int (Int32.ofNat kd1.val)), (.int (hxAt ch (8 : Int32)))])) rfl (by rw [hml]; rfl) (argsL := [(.int (Int32.ofNat kd1.val))]) (rest := [(.int (hxAt ch (8 : Int32)))]) (lenOf pd_29 rfl) rfl (w0 rfl) (dq (dg dsg 69 rfl)) (fun _ _ => ⟨rfl, e349, (by decide : 0 + 0 ≤ _), (by decide : 0 + 0 ≤ _)⟩)
    dsimp only [Pt.U, Pt.locs, Pt.cells, Pt.slots] at X350 l350 y350 z350 st350 hQ350
    subst l350 y350 z350
    obtain ⟨rfl, Nq350, e350⟩ := hQ350
    have N350 := Fr.app N349 Nq350
    refine R0_ st350 ?_
    show Rch p e below T350 (mkF m 125 #[vR x, vI (Int32.ofNat ps.length), vI ch] [(.int (hexL.getD kd1.val 0)), (.int (hxAt ch (8 : Int32)))]) _
    rw [(show hexL.getD kd1.val 0 = (hxAt ch (8 : Int32)) from hx_of ek1)]
    show Rch p e below T350 (mkF m 125 #[vR x, vI (Int32.ofNat ps.length), vI ch] [(.int (hxAt ch (8 : Int32))), (.int (hxAt ch (8 : Int32)))]) _
    refine R1 (XS.icmpNo X350.here hx rfl (dq (dg dsg 70 rfl)) rfl (teq (rfl : (hxAt ch (8 : Int32)) = (hxAt ch (8 : Int32)))).2) ?_
    refine R1 (XS.aloadN X350.here hx rfl (dq (dg dsg 71 rfl)) rfl rfl) ?_
    refine R1 (XS.iloadN X350.here hx rfl (dq (dg dsg 72 rfl)) rfl) ?_
    refine R1 (XS.iconst X350.here hx rfl (dq (dg dsg 73 rfl)) ) ?_
    refine R1 (XS.iadd X350.here hx rfl (dq (dg dsg 74 rfl)) rfl) ?_
    show Rch p e below T350 (mkF m 132 #[vR x, vI (Int32.ofNat ps.length), vI ch] [(.int ((Int32.ofNat ps.length) + (4 : Int32))), (.ref x)]) _
    rw [(show Int32.ofNat ps.length + (4 : Int32) = Int32.ofNat (ps.length + 4) from ofN_add _ 4)]
    show Rch p e below T350 (mkF m 132 #[vR x, vI (Int32.ofNat ps.length), vI ch] [(.int (Int32.ofNat (ps.length + 4))), (.ref x)]) _
    obtain ⟨cq351, kq351, q351a, q351b, q351c⟩ := isOf hZ e350 S.exa
    obtain ⟨_, _, ⟨T351, L351, k351, n351⟩, -, X351, ⟨Lc351, hQ351, l351, y351, z351⟩, st351⟩ := X350.virtualBack hx (y := mN7) (z := mN7) hown (mw hZ hw 129 rfl) (mw hZ hw 130 rfl) (notFace_of_selects (args := #[]) (mw hZ hw 132 rfl)) (mw hZ hw 132 rfl) (mw hZ hw 131 rfl) (by decide) (chS (W := 0) hZ hw S B0 (ps.length + 4) (by rw [hrs, e6 h2 h1]; simp only [hx4, List.length_append, List.length_cons, List.length_nil]; omega) (by omega) n0 Z0 (by decide) (by decide)) q351a q351c (g := (mkF m 132 #[vR x, vI (Int32.ofNat ps.length), vI ch] [(.int (Int32.ofNat (ps.length + 4))), (.ref x)])) rfl (by rw [hml]; rfl) (Steps.refl _) (argsL := [(.int (Int32.ofNat (ps.length + 4)))]) (rest := []) (lenOf pd_29 rfl) rfl (w0 rfl) (dq (dg dsg 75 rfl)) (fun _ _ => ⟨rfl, e350, (by decide : 0 + 0 ≤ _), (by decide : 0 + 0 ≤ _)⟩)
    dsimp only [Pt.U, Pt.locs, Pt.cells, Pt.slots] at X351 l351 y351 z351 st351 hQ351
    subst l351 y351 z351
    obtain ⟨rfl, Nq351, e351⟩ := hQ351
    have N351 := Fr.app N350 Nq351
    refine R2 st351 ?_
    show Rch p e below T351 (mkF m 135 #[vR x, vI (Int32.ofNat ps.length), vI ch] [(.int (rs.getD (ps.length + 4) 0))]) _
    rw [(show rs.getD (ps.length + 4) 0 = (hxAt ch (4 : Int32)) from by rw [hrs, e6 h2 h1, List.append_assoc]; exact (getD_mid ps _ _ 4).trans rfl)]
    show Rch p e below T351 (mkF m 135 #[vR x, vI (Int32.ofNat ps.length), vI ch] [(.int (hxAt ch (4 : Int32)))]) _
    refine R1 (XS.iloadN X351.here hx rfl (dq (dg dsg 76 rfl)) rfl) ?_
    refine R1 (XS.iconst X351.here hx rfl (dq (dg dsg 77 rfl)) ) ?_
    refine R1 (XT.ishr X351.here hx rfl (dq (dg dsg 78 rfl)) rfl) ?_
    refine R1 (XS.bipush X351.here hx rfl (dq (dg dsg 79 rfl)) ) ?_
    refine R1 (XS.iand X351.here hx rfl (dq (dg dsg 80 rfl)) rfl) ?_
    show Rch p e below T351 (mkF m 141 #[vR x, vI (Int32.ofNat ps.length), vI ch] [(.int ((ch >>> ((4 : Int32) &&& 31)) &&& (15 : Int32))), (.int (hxAt ch (4 : Int32)))]) _
    obtain ⟨kd2, ek2⟩ := nib (ch >>> ((4 : Int32) &&& 31))
    rw [ek2]
    show Rch p e below T351 (mkF m 141 #[vR x, vI (Int32.ofNat ps.length), vI ch] [(.int (Int32.ofNat kd2.val)), (.int (hxAt ch (4 : Int32)))]) _
    obtain ⟨_, _, ⟨T352, L352, k352, n352⟩, -, X352, ⟨Lc352, hQ352, l352, y352, z352⟩, st352⟩ := Jvm.LawKit.callS X351 hx (y := mN49) hown (mw hZ hw 230 rfl) (mw hZ hw 231 rfl) (mw hZ hw 3 rfl) (mw hZ hw 232 rfl) (by decide) (backOf (W := 1) (rm_hexJ l Z a0 hw [] kd2.val h0 n0 Z0 kd2.isLt) hZ (wq hw 232 rfl) (wq hw 3 rfl) (by decide) (by decide)) (g := (mkF m 141 #[vR x, vI (Int32.ofNat ps.length), vI ch] [(.int (Int32.ofNat kd2.val)), (.int (hxAt ch (4 : Int32)))])) rfl (by rw [hml]; rfl) (argsL := [(.int (Int32.ofNat kd2.val))]) (rest := [(.int (hxAt ch (4 : Int32)))]) (lenOf pd_29 rfl) rfl (w0 rfl) (dq (dg dsg 81 rfl)) (fun _ _ => ⟨rfl, e351, (by decide : 0 + 0 ≤ _), (by decide : 0 + 0 ≤ _)⟩)
    dsimp only [Pt.U, Pt.locs, Pt.cells, Pt.slots] at X352 l352 y352 z352 st352 hQ352
    subst l352 y352 z352
    obtain ⟨rfl, Nq352, e352⟩ := hQ352
    have N352 := Fr.app N351 Nq352
    refine R0_ st352 ?_
    show Rch p e below T352 (mkF m 144 #[vR x, vI (Int32.ofNat ps.length), vI ch] [(.int (hexL.getD kd2.val 0)), (.int (hxAt ch (4 : Int32)))]) _
    rw [(show hexL.getD kd2.val 0 = (hxAt ch (4 : Int32)) from hx_of ek2)]
    show Rch p e below T352 (mkF m 144 #[vR x, vI (Int32.ofNat ps.length), vI ch] [(.int (hxAt ch (4 : Int32))), (.int (hxAt ch (4 : Int32)))]) _
    refine R1 (XS.icmpNo X352.here hx rfl (dq (dg dsg 82 rfl)) rfl (teq (rfl : (hxAt ch (4 : Int32)) = (hxAt ch (4 : Int32)))).2) ?_
    refine R1 (XS.aloadN X352.here hx rfl (dq (dg dsg 83 rfl)) rfl rfl) ?_
    refine R1 (XS.iloadN X352.here hx rfl (dq (dg dsg 84 rfl)) rfl) ?_
    refine R1 (XS.iconst X352.here hx rfl (dq (dg dsg 85 rfl)) ) ?_
    refine R1 (XS.iadd X352.here hx rfl (dq (dg dsg 86 rfl)) rfl) ?_
    show Rch p e below T352 (mkF m 151 #[vR x, vI (Int32.ofNat ps.length), vI ch] [(.int ((Int32.ofNat ps.length) + (5 : Int32))), (.ref x)]) _
    rw [(show Int32.ofNat ps.length + (5 : Int32) = Int32.ofNat (ps.length + 5) from ofN_add _ 5)]
    show Rch p e below T352 (mkF m 151 #[vR x, vI (Int32.ofNat ps.length), vI ch] [(.int (Int32.ofNat (ps.length + 5))), (.ref x)]) _
    obtain ⟨cq353, kq353, q353a, q353b, q353c⟩ := isOf hZ e352 S.exa
    obtain ⟨_, _, ⟨T353, L353, k353, n353⟩, -, X353, ⟨Lc353, hQ353, l353, y353, z353⟩, st353⟩ := X352.virtualBack hx (y := mN7) (z := mN7) hown (mw hZ hw 129 rfl) (mw hZ hw 130 rfl) (notFace_of_selects (args := #[]) (mw hZ hw 132 rfl)) (mw hZ hw 132 rfl) (mw hZ hw 131 rfl) (by decide) (chS (W := 0) hZ hw S B0 (ps.length + 5) (by rw [hrs, e6 h2 h1]; simp only [hx4, List.length_append, List.length_cons, List.length_nil]; omega) (by omega) n0 Z0 (by decide) (by decide)) q353a q353c (g := (mkF m 151 #[vR x, vI (Int32.ofNat ps.length), vI ch] [(.int (Int32.ofNat (ps.length + 5))), (.ref x)])) rfl (by rw [hml]; rfl) (Steps.refl _) (argsL := [(.int (Int32.ofNat (ps.length + 5)))]) (rest := []) (lenOf pd_29 rfl) rfl (w0 rfl) (dq (dg dsg 87 rfl)) (fun _ _ => ⟨rfl, e352, (by decide : 0 + 0 ≤ _), (by decide : 0 + 0 ≤ _)⟩)
    dsimp only [Pt.U, Pt.locs, Pt.cells, Pt.slots] at X353 l353 y353 z353 st353 hQ353
    subst l353 y353 z353
    obtain ⟨rfl, Nq353, e353⟩ := hQ353
    have N353 := Fr.app N352 Nq353
    refine R2 st353 ?_
    show Rch p e below T353 (mkF m 154 #[vR x, vI (Int32.ofNat ps.length), vI ch] [(.int (rs.getD (ps.length + 5) 0))]) _
    rw [(show rs.getD (ps.length + 5) 0 = (hxAt ch (0 : Int32)) from by rw [hrs, e6 h2 h1, List.append_assoc]; exact (getD_mid ps _ _ 5).trans rfl)]
    show Rch p e below T353 (mkF m 154 #[vR x, vI (Int32.ofNat ps.length), vI ch] [(.int (hxAt ch (0 : Int32)))]) _
    refine R1 (XS.iloadN X353.here hx rfl (dq (dg dsg 88 rfl)) rfl) ?_
    refine R1 (XS.bipush X353.here hx rfl (dq (dg dsg 89 rfl)) ) ?_
    refine R1 (XS.iand X353.here hx rfl (dq (dg dsg 90 rfl)) rfl) ?_
    show Rch p e below T353 (mkF m 158 #[vR x, vI (Int32.ofNat ps.length), vI ch] [(.int (ch &&& (15 : Int32))), (.int (hxAt ch (0 : Int32)))]) _
    have es : (ch &&& (15 : Int32)) = ((ch >>> ((0 : Int32) &&& 31)) &&& (15 : Int32)) := by rw [shr0]
    rw [es]
    obtain ⟨kd3, ek3⟩ := nib (ch >>> ((0 : Int32) &&& 31))
    rw [ek3]
    show Rch p e below T353 (mkF m 158 #[vR x, vI (Int32.ofNat ps.length), vI ch] [(.int (Int32.ofNat kd3.val)), (.int (hxAt ch (0 : Int32)))]) _
    obtain ⟨_, _, ⟨T354, L354, k354, n354⟩, -, X354, ⟨Lc354, hQ354, l354, y354, z354⟩, st354⟩ := Jvm.LawKit.callS X353 hx (y := mN49) hown (mw hZ hw 230 rfl) (mw hZ hw 231 rfl) (mw hZ hw 3 rfl) (mw hZ hw 232 rfl) (by decide) (backOf (W := 1) (rm_hexJ l Z a0 hw [] kd3.val h0 n0 Z0 kd3.isLt) hZ (wq hw 232 rfl) (wq hw 3 rfl) (by decide) (by decide)) (g := (mkF m 158 #[vR x, vI (Int32.ofNat ps.length), vI ch] [(.int (Int32.ofNat kd3.val)), (.int (hxAt ch (0 : Int32)))])) rfl (by rw [hml]; rfl) (argsL := [(.int (Int32.ofNat kd3.val))]) (rest := [(.int (hxAt ch (0 : Int32)))]) (lenOf pd_29 rfl) rfl (w0 rfl) (dq (dg dsg 91 rfl)) (fun _ _ => ⟨rfl, e353, (by decide : 0 + 0 ≤ _), (by decide : 0 + 0 ≤ _)⟩)
    dsimp only [Pt.U, Pt.locs, Pt.cells, Pt.slots] at X354 l354 y354 z354 st354 hQ354
    subst l354 y354 z354
    obtain ⟨rfl, Nq354, e354⟩ := hQ354
    have N354 := Fr.app N353 Nq354
    refine R0_ st354 ?_
    show Rch p e below T354 (mkF m 161 #[vR x, vI (Int32.ofNat ps.length), vI ch] [(.int (hexL.getD kd3.val 0)), (.int (hxAt ch (0 : Int32)))]) _
    rw [(show hexL.getD kd3.val 0 = (hxAt ch (0 : Int32)) from hx_of ek3)]
    show Rch p e below T354 (mkF m 161 #[vR x, vI (Int32.ofNat ps.length), vI ch] [(.int (hxAt ch (0 : Int32))), (.int (hxAt ch (0 : Int32)))]) _
    refine R1 (XS.icmpNo X354.here hx rfl (dq (dg dsg 92 rfl)) rfl (teq (rfl : (hxAt ch (0 : Int32)) = (hxAt ch (0 : Int32)))).2) ?_
    refine R1 (XS.iconst X354.here hx rfl (dq (dg dsg 93 rfl)) ) ?_
    refine R1 (XS.goto X354.here hx rfl (pc0 := 165) (pc' := 169) rfl (dq (dg dsg 94 rfl)) (by decide) (by decide)) ?_
    show Rch p e below T354 (mkF m 169 #[vR x, vI (Int32.ofNat ps.length), vI ch] [(.int (1 : Int32))]) _
    exact Rch.fin (Q := Q_seg Z x rs ps qs ch fm h0 n0) X354 (v := some (.int (1 : Int32))) (fun h => by rw [Bd.returns] at h; cases h) (BodyLoose.notSynchronized Bd) (fun fs hr => retN X354 hx (t := .boolean) Bd.returns (by simp) (dq (dg dsg 95 rfl)) hr) (by rw [e354]; exact ⟨rfl, N354, rfl⟩) (by decide) (by decide)
  by_cases q1 : ch = (34 : Int32)
  · skip
    refine R1 (XS.icmpYes X0.here hx rfl (pc0 := 3) (pc' := 12) rfl (dq (dg dsg 2 rfl)) rfl (teq q1).1 (by decide) (by decide)) ?_
    show Rch p e below s₁ (mkF m 12 #[vR x, vI (Int32.ofNat ps.length), vI ch] []) _
    exact t12 0 (Or.inl q1)
  · skip
    refine R1 (XS.icmpNo X0.here hx rfl (dq (dg dsg 2 rfl)) rfl (feq q1).1) ?_
    refine R1 (XS.iloadN X0.here hx rfl (dq (dg dsg 3 rfl)) rfl) ?_
    refine R1 (XS.bipush X0.here hx rfl (dq (dg dsg 4 rfl)) ) ?_
    show Rch p e below s₁ (mkF m 9 #[vR x, vI (Int32.ofNat ps.length), vI ch] [(.int (92 : Int32)), (.int ch)]) _
    by_cases q2 : ch = (92 : Int32)
    · skip
      refine R1 (XS.icmpNo X0.here hx rfl (dq (dg dsg 5 rfl)) rfl (teq q2).2) ?_
      show Rch p e below s₁ (mkF m 12 #[vR x, vI (Int32.ofNat ps.length), vI ch] []) _
      exact t12 0 (Or.inr q2)
    · skip
      refine R1 (XS.icmpYes X0.here hx rfl (pc0 := 9) (pc' := 39) rfl (dq (dg dsg 5 rfl)) rfl (feq q2).2 (by decide) (by decide)) ?_
      show Rch p e below s₁ (mkF m 39 #[vR x, vI (Int32.ofNat ps.length), vI ch] []) _
      have h2 : ¬ is2 ch := fun q => q.elim q1 q2
      refine R1 (XS.iloadN X0.here hx rfl (dq (dg dsg 21 rfl)) rfl) ?_
      refine R1 (XS.bipush X0.here hx rfl (dq (dg dsg 22 rfl)) ) ?_
      show Rch p e below s₁ (mkF m 42 #[vR x, vI (Int32.ofNat ps.length), vI ch] [(.int (32 : Int32)), (.int ch)]) _
      by_cases g1 : ch < (32 : Int32)
      · skip
        refine R1 (XS.icmpYes X0.here hx rfl (pc0 := 42) (pc' := 66) rfl (dq (dg dsg 23 rfl)) rfl (tlt g1).1 (by decide) (by decide)) ?_
        show Rch p e below s₁ (mkF m 66 #[vR x, vI (Int32.ofNat ps.length), vI ch] []) _
        exact t66 0 h2 (fun q => q.1 g1)
      · skip
        refine R1 (XS.icmpNo X0.here hx rfl (dq (dg dsg 23 rfl)) rfl (flt g1).1) ?_
        refine R1 (XS.iloadN X0.here hx rfl (dq (dg dsg 24 rfl)) rfl) ?_
        refine R1 (XS.bipush X0.here hx rfl (dq (dg dsg 25 rfl)) ) ?_
        show Rch p e below s₁ (mkF m 48 #[vR x, vI (Int32.ofNat ps.length), vI ch] [(.int (126 : Int32)), (.int ch)]) _
        by_cases g2 : (126 : Int32) < ch
        · skip
          refine R1 (XS.icmpYes X0.here hx rfl (pc0 := 48) (pc' := 66) rfl (dq (dg dsg 26 rfl)) rfl (tlt g2).2.2.1 (by decide) (by decide)) ?_
          show Rch p e below s₁ (mkF m 66 #[vR x, vI (Int32.ofNat ps.length), vI ch] []) _
          exact t66 0 h2 (fun q => q.2 g2)
        · skip
          refine R1 (XS.icmpNo X0.here hx rfl (dq (dg dsg 26 rfl)) rfl (flt g2).2.2.1) ?_
          show Rch p e below s₁ (mkF m 51 #[vR x, vI (Int32.ofNat ps.length), vI ch] []) _
          have h1 : is1 ch := ⟨g1, g2⟩
          refine R1 (XS.aloadN X0.here hx rfl (dq (dg dsg 27 rfl)) rfl rfl) ?_
          refine R1 (XS.iloadN X0.here hx rfl (dq (dg dsg 28 rfl)) rfl) ?_
          show Rch p e below s₁ (mkF m 53 #[vR x, vI (Int32.ofNat ps.length), vI ch] [(.int (Int32.ofNat ps.length)), (.ref x)]) _
          obtain ⟨cq355, kq355, q355a, q355b, q355c⟩ := isOf hZ e0 S.exa
          obtain ⟨_, _, ⟨T355, L355, k355, n355⟩, -, X355, ⟨Lc355, hQ355, l355, y355, z355⟩, st355⟩ := X0.virtualBack hx (y := mN7) (z := mN7) hown (mw hZ hw 129 rfl) (mw hZ hw 130 rfl) (notFace_of_selects (args := #[]) (mw hZ hw 132 rfl)) (mw hZ hw 132 rfl) (mw hZ hw 131 rfl) (by decide) (chS (W := 0) hZ hw S B0 ps.length (by rw [hrs, e1 h2 h1]; simp only [hx4, List.length_append, List.length_cons, List.length_nil]; omega) (by omega) n0 Z0 (by decide) (by decide)) q355a q355c (g := (mkF m 53 #[vR x, vI (Int32.ofNat ps.length), vI ch] [(.int (Int32.ofNat ps.length)), (.ref x)])) rfl (by rw [hml]; rfl) (Steps.refl _) (argsL := [(.int (Int32.ofNat ps.length))]) (rest := []) (lenOf pd_29 rfl) rfl (w0 rfl) (dq (dg dsg 29 rfl)) (fun _ _ => ⟨rfl, e0, (by decide : 0 + 0 ≤ _), (by decide : 0 + 0 ≤ _)⟩)
          dsimp only [Pt.U, Pt.locs, Pt.cells, Pt.slots] at X355 l355 y355 z355 st355 hQ355
          subst l355 y355 z355
          obtain ⟨rfl, Nq355, e355⟩ := hQ355
          have N355 := Fr.app N0 Nq355
          refine R2 st355 ?_
          show Rch p e below T355 (mkF m 56 #[vR x, vI (Int32.ofNat ps.length), vI ch] [(.int (rs.getD ps.length 0))]) _
          rw [(show rs.getD ps.length 0 = ch from by rw [hrs, e1 h2 h1, List.append_assoc]; exact (getD_mid ps _ _ 0).trans rfl)]
          show Rch p e below T355 (mkF m 56 #[vR x, vI (Int32.ofNat ps.length), vI ch] [(.int ch)]) _
          refine R1 (XS.iloadN X355.here hx rfl (dq (dg dsg 30 rfl)) rfl) ?_
          refine R1 (XS.icmpNo X355.here hx rfl (dq (dg dsg 31 rfl)) rfl (teq (rfl : ch = ch)).2) ?_
          refine R1 (XS.iconst X355.here hx rfl (dq (dg dsg 32 rfl)) ) ?_
          refine R1 (XS.goto X355.here hx rfl (pc0 := 61) (pc' := 65) rfl (dq (dg dsg 33 rfl)) (by decide) (by decide)) ?_
          show Rch p e below T355 (mkF m 65 #[vR x, vI (Int32.ofNat ps.length), vI ch] [(.int (1 : Int32))]) _
          exact Rch.fin (Q := Q_seg Z x rs ps qs ch fm h0 n0) X355 (v := some (.int (1 : Int32))) (fun h => by rw [Bd.returns] at h; cases h) (BodyLoose.notSynchronized Bd) (fun fs hr => retN X355 hx (t := .boolean) Bd.returns (by simp) (dq (dg dsg 34 rfl)) hr) (by rw [e355]; exact ⟨rfl, N355, rfl⟩) (by decide) (by decide)
theorem q_bd (L : List Int32) : ∀ x ∈ [34] ++ escL L ++ [34], ¬ x < 0 ∧ ¬ (255 : Int32) < x := fun x hx => by
  rcases List.mem_append.mp hx with q | q
  · rcases List.mem_append.mp q with r | r
    · cases List.mem_singleton.mp r; decide
    · exact escL_bd L x r
  · cases List.mem_singleton.mp q; decide
theorem q_len (L : List Int32) (h : L.length ≤ 3) : ([34] ++ escL L ++ [34]).length ≤ 20 := by
  have a := esc_len L
  simp only [List.length_append, List.length_cons, List.length_nil]; omega
theorem q_last (E : List Int32) : ([34] ++ E ++ [34]).getD (([34] ++ E ++ [34]).length - 1) 0 = (34 : Int32) := by
  have e : ([34] ++ E ++ [34] : List Int32).length - 1 = ([34] ++ E : List Int32).length + 0 := by simp only [List.length_append, List.length_cons, List.length_nil]; omega
  rw [e]
  exact (getD_mid ([34] ++ E) [34] [] 0).trans rfl
theorem q_pos (E : List Int32) : 1 ≤ ([34] ++ E ++ [34] : List Int32).length := by simp only [List.length_append, List.length_cons, List.length_nil]; omega
theorem qlen_0 : ((((2 : Int32) + (0 : Int32)) + (0 : Int32)) + (0 : Int32)) = Int32.ofNat ([34] ++ escL [] ++ [34]).length := rfl
theorem qlen_1 (a : Int32) : ((((2 : Int32) + Int32.ofNat (esc1 a).length) + (0 : Int32)) + (0 : Int32)) = Int32.ofNat ([34] ++ escL [a] ++ [34]).length := by
  have e : ([34] ++ escL [a] ++ [34]).length = 2 + (esc1 a).length := by simp only [escL, List.length_append, List.length_cons, List.length_nil]; omega
  rw [e, ← ofN_add, addz, addz]; rfl
theorem qlen_2 (a b : Int32) : ((((2 : Int32) + Int32.ofNat (esc1 a).length) + Int32.ofNat (esc1 b).length) + (0 : Int32)) = Int32.ofNat ([34] ++ escL [a, b] ++ [34]).length := by
  have e : ([34] ++ escL [a, b] ++ [34]).length = 2 + (esc1 a).length + (esc1 b).length := by simp only [escL, List.length_append, List.length_cons, List.length_nil]; omega
  rw [e, ← ofN_add, ← ofN_add, addz]; rfl
theorem qlen_3 (a b c : Int32) : ((((2 : Int32) + Int32.ofNat (esc1 a).length) + Int32.ofNat (esc1 b).length) + Int32.ofNat (esc1 c).length) = Int32.ofNat ([34] ++ escL [a, b, c] ++ [34]).length := by
  have e : ([34] ++ escL [a, b, c] ++ [34]).length = 2 + (esc1 a).length + (esc1 b).length + (esc1 c).length := by simp only [escL, List.length_append, List.length_cons, List.length_nil]; omega
  rw [e, ← ofN_add, ← ofN_add, ← ofN_add]; rfl
theorem qoff_1 (a : Int32) : ((1 : Int32) + Int32.ofNat (esc1 a).length) = Int32.ofNat ([34] ++ esc1 a).length := by rw [List.length_append, ← ofN_add]; rfl
theorem qoff_2 (a b : Int32) : (((1 : Int32) + Int32.ofNat (esc1 a).length) + Int32.ofNat (esc1 b).length) = Int32.ofNat ([34] ++ esc1 a ++ esc1 b).length := by rw [List.length_append, List.length_append, ← ofN_add, ← ofN_add]; rfl
theorem dtt : dxs method_3_code [(0, .iload_n 0, 1), (1, .ifCond .ne 14, 3), (4, .new 25, 3), (7, .dup, 1), (8, .iconst 0, 1), (9, .newarray .char, 2), (11, .invokespecial 38, 3), (14, .areturn, 1), (15, .iload_n 0, 1), (16, .iconst 1, 1), (17, .if_icmp .ne 18, 3), (20, .new 25, 3), (23, .dup, 1), (24, .iconst 1, 1), (25, .newarray .char, 2), (27, .dup, 1), (28, .iconst 0, 1), (29, .iload_n 1, 1), (30, .castore, 1), (31, .invokespecial 38, 3), (34, .areturn, 1), (35, .iload_n 0, 1), (36, .iconst 2, 1), (37, .if_icmp .ne 22, 3), (40, .new 25, 3), (43, .dup, 1), (44, .iconst 2, 1), (45, .newarray .char, 2), (47, .dup, 1), (48, .iconst 0, 1), (49, .iload_n 1, 1), (50, .castore, 1), (51, .dup, 1), (52, .iconst 1, 1), (53, .iload_n 2, 1), (54, .castore, 1), (55, .invokespecial 38, 3), (58, .areturn, 1), (59, .new 25, 3), (62, .dup, 1), (63, .iconst 3, 1), (64, .newarray .char, 2), (66, .dup, 1), (67, .iconst 0, 1), (68, .iload_n 1, 1), (69, .castore, 1), (70, .dup, 1), (71, .iconst 1, 1), (72, .iload_n 2, 1), (73, .castore, 1), (74, .dup, 1), (75, .iconst 2, 1), (76, .iload_n 3, 1), (77, .castore, 1), (78, .invokespecial 38, 3), (81, .areturn, 1)] = true := by decide +kernel
theorem pn_text0 : plainFor (⟨"com/example/ampersat/ampersat/text/LiteralsQuotedPinLaw", "text", "(ICCC)Ljava/lang/String;"⟩ : MethodName) = true := plainFor_of_name (by first | (simp [plainName, overriddenIn]; done) | decide +kernel)
theorem ef_text0 (m : MethodId) (x0 : Int32) (x1 : Int32) (x2 : Int32) (x3 : Int32) : entryFrame m #[(.int x0), (.int x1), (.int x2), (.int x3)] 4 = mkF m 0 #[vI x0, vI x1, vI x2, vI x3] [] := by first | (simp [entryFrame, mkF, argsToLocals, Value.category]; done) | rfl
def Q_text0 (Z : State) (c0 c1 c2 : Int32) (fm : Value) (h0 : Heap) (n0 : Nat) (v : Option Value) (h : Heap) (L : List Loc) : Prop := ∃ t, v = some (.ref t) ∧ Fr n0 L ∧ Ext h0 h ∧ StrA Z h t ([] : List Int32)
set_option maxRecDepth 65536 in
set_option maxHeartbeats 40000000 in
theorem rm_text0 (l : Launch) (Z : State) (a0 : Array Value) (hw : ∀ d ∈ tables_1, d.before a0 Z = true) (ws : List Jvm.Cond) (c0 c1 c2 : Int32) (fm : Value) (h0 : Heap) (n0 : Nat) (Z0 : n0 ≤ h0.size) (B : Bg Z h0 fm) (k0 : C16 c0) (k1 : C16 c1) (k2 : C16 c2) :
    MetFree l mN51 (head1 (Jvm.Cond.code mN51 method_3_code 4 (some (.object "java/lang/String")) :: ws) rO36) (fun a U => a = #[(.int (0 : Int32)), (.int c0), (.int c1), (.int c2)] ∧ Z.Warmed39 U.vm ∧ U.heap = h0 ∧ CHv Z EL U.vm h0) (fun _ _ _ _ _ => True) (fun _ U o U' => ∃ v L, o = .returned v ∧ Q_text0 Z c0 c1 c2 fm h0 n0 v U'.heap L ∧ CHr Z EL U.vm U.heap U'.vm U'.heap ∧ ReturnedEndW U o U' L rO36.cells rO36.slots) := by
  refine MetFree.of_bodySF pn_text0 hisR ?_
  intro p e s m args below meth c s₁ Bd hml0 hP hK
  obtain ⟨rfl, hZ, hh, H0⟩ := hP
  have hx := Bd.exec
  have hby := Bd.bytes
  have dq := @hb _ _ hby
  have hml : c.maxLocals = 4 := hml0
  have hown : s.vm.findClass "com/example/ampersat/ampersat/text/LiteralsQuotedPinLaw" = some m.cls := findClass_of_methodNamed Bd.named
  have X0 : Stand p l e rO36 (s.setVm s.vm) m #[(.int (0 : Int32)), (.int c0), (.int c1), (.int c2)] below meth c s₁ [] 0 0 := Stand.of_body Bd
  have e0 : s₁.heap = h0 := by rw [← hh, Bd.state]; rfl
  have N0 := Fr.nil n0
  have hS0 : s.Since s.vm 0 := (State.WarmedH.refl s).since _
  have R0 : CHr Z EL s.vm s.heap s.vm h0 := by rw [hh]; exact CHr.refl H0
  have hZ : Z.Warmed39 (s.setVm s.vm).vm := hZ
  have hown : (s.setVm s.vm).vm.findClass "com/example/ampersat/ampersat/text/LiteralsQuotedPinLaw" = some m.cls := hown
  have hEL := ew hw
  show Rch p e below s₁ _ _
  refine Rch.cast (ef_text0 m (0 : Int32) c0 c1 c2) ?_
  show Rch p e below s₁ (mkF m 0 #[vI (0 : Int32), vI c0, vI c1, vI c2] []) _
  refine R1 (XS.iloadN X0.here hx rfl (dq (dg dtt 0 rfl)) rfl) ?_
  refine R1 (XS.ifNo X0.here hx rfl (dq (dg dtt 1 rfl)) rfl (by decide : ifCond.holds .ne (0 : Int32) = false)) ?_
  show Rch p e below s₁ (mkF m 4 #[vI (0 : Int32), vI c0, vI c1, vI c2] []) _
  obtain ⟨T356, h356, X356, e356, E356, A356, D356, -, st356⟩ := newO X0 hx hZ hown (wq hw 5 rfl) (wq hw 6 rfl) (wq hw 7 rfl) e0 (g := (mkF m 4 #[vI (0 : Int32), vI c0, vI c1, vI c2] [])) rfl (dq (dg dtt 2 rfl)) (by decide) (by decide)
  obtain ⟨a356, g356⟩ : ∃ z, z = h0.size := ⟨_, rfl⟩
  rw [← g356] at A356 D356 st356
  have Ex357 : Ext h0 h356 := E356
  have le358 : h0.size ≤ a356 := Nat.le_of_eq g356.symm
  refine R0_ st356 ?_
  show Rch p e below T356 (mkF m 7 #[vI (0 : Int32), vI c0, vI c1, vI c2] [(.ref a356)]) _
  refine R1 (XS.dup X356.here hx rfl (dq (dg dtt 3 rfl)) rfl rfl) ?_
  refine R1 (XS.iconst X356.here hx rfl (dq (dg dtt 4 rfl)) ) ?_
  show Rch p e below T356 (mkF m 9 #[vI (0 : Int32), vI c0, vI c1, vI c2] [(.int (0 : Int32)), (.ref a356), (.ref a356)]) _
  obtain ⟨T359, h359, k359, X359, e359, E359, A359, st359⟩ := newP X356 hx hZ (wq hw 8 rfl) e356 (g := (mkF m 9 #[vI (0 : Int32), vI c0, vI c1, vI c2] [(.int (0 : Int32)), (.ref a356), (.ref a356)])) rfl (dq (dg dtt 5 rfl)) rfl (by decide : ¬ ((0 : Int32) < (0 : Int32))) (cap := 0) (by decide : ((0 : Int32)).toNatClampNeg ≤ 0) (by decide) (by decide) (by decide)
  obtain ⟨a359, g359⟩ : ∃ z, z = h356.size := ⟨_, rfl⟩
  rw [← g359] at A359 st359
  have Ex360 : Ext h0 h359 := Ex357.tr E359
  have Ex361 : Ext h356 h359 := E359
  refine R0_ st359 ?_
  show Rch p e below T359 (mkF m 11 #[vI (0 : Int32), vI c0, vI c1, vI c2] [(.ref a359), (.ref a356), (.ref a356)]) _
  have V359 : Arv Z h359 a359 k359 .char (0 : Int32) [] (.int (0 : Int32)) := (Arv.new A359 (by decide : ¬ ((0 : Int32) < (0 : Int32)))).pad (pad_rep [] (.int (0 : Int32)) 0)
  have R364 := R0.trans (CHr.ext Ex360 R0.1)
  have hk365 := Nat.le_trans (Nat.zero_le _) Ex360.1
  obtain ⟨_, _, ⟨T366, L366, k366, n366⟩, -, X366_, hS366_, hg366_, ⟨Lc366, hQ366, l366, y366, z366, CR366⟩, st366⟩ := X359.specialBackS hx (y := mN9) rfl hown (mw hZ hw 9 rfl) (mw hZ hw 10 rfl) (mw hZ hw 11 rfl) (by decide) (backOfSH (W := 1) (rm_new1e l Z a0 hw [] a356 a359 k359 h359 n0 (Nat.le_trans Z0 Ex360.1) (Nat.le_trans Z0 le358) (A356.ext Ex361) ((D356 (Or.inr (wq hw 21 rfl)) (ty := (.array .byte)) (by decide)).ext Ex361) ((D356 (Or.inr (wq hw 22 rfl)) (ty := .byte) (by decide)).ext Ex361) V359) hZ (wq hw 11 rfl) (wq hw 7 rfl) (by decide) (by decide) hEL R364.1) (g := (mkF m 11 #[vI (0 : Int32), vI c0, vI c1, vI c2] [(.ref a359), (.ref a356), (.ref a356)])) rfl (by rw [hml]; rfl) (Steps.refl _) (a := a356) (argsL := [(.ref a359)]) (rest := [(.ref a356)]) (lenOf pd_35 rfl) rfl (w0 rfl) (dq (dg dtt 6 rfl)) (fun _ _ => ⟨rfl, e359, (by decide : 2 + 4 ≤ _), (by decide : 4 + 8 ≤ _)⟩)
  dsimp only [Pt.U, Pt.locs, Pt.cells, Pt.slots] at X366_ hS366_ hg366_ l366 y366 z366 st366 hQ366 CR366
  subst l366 y366 z366
  obtain ⟨X366, hS366, hZ366, hown366⟩ := rebS hS0 (by rw [e359]; exact hk365) X366_ hS366_ hg366_ hZ hown
  obtain ⟨rfl, Nq366, K366, Q366⟩ := hQ366
  have N366 := Fr.app N0 Nq366
  have R366 := R364.trans CR366
  have Ex367 : Ext h0 T366.heap := extKeep1 Ex360 K366 le358
  refine R2 st366 ?_
  show Rch p e below T366 (mkF m 14 #[vI (0 : Int32), vI c0, vI c1, vI c2] [(.ref a356)]) _
  exact Rch.finW (Q := Q_text0 Z c0 c1 c2 fm h0 n0) X366 hZ366 hEL hS366 (Nat.le_refl _) rfl R366 (v := some (.ref a356)) (fun h => by rw [Bd.returns] at h; cases h) (BodyLoose.notSynchronized Bd) (fun fs hr => retR X366 hx Bd.returns rfl rfl (dq (dg dtt 7 rfl)) hr) ⟨a356, rfl, N366, Ex367, Q366⟩ (by decide) (by decide)
def Q_text1 (Z : State) (c0 c1 c2 : Int32) (fm : Value) (h0 : Heap) (n0 : Nat) (v : Option Value) (h : Heap) (L : List Loc) : Prop := ∃ t, v = some (.ref t) ∧ Fr n0 L ∧ Ext h0 h ∧ StrA Z h t ([c0] : List Int32)
set_option maxRecDepth 65536 in
set_option maxHeartbeats 40000000 in
theorem rm_text1 (l : Launch) (Z : State) (a0 : Array Value) (hw : ∀ d ∈ tables_1, d.before a0 Z = true) (ws : List Jvm.Cond) (c0 c1 c2 : Int32) (fm : Value) (h0 : Heap) (n0 : Nat) (Z0 : n0 ≤ h0.size) (B : Bg Z h0 fm) (k0 : C16 c0) (k1 : C16 c1) (k2 : C16 c2) :
    MetFree l mN51 (head1 (Jvm.Cond.code mN51 method_3_code 4 (some (.object "java/lang/String")) :: ws) rO37) (fun a U => a = #[(.int (1 : Int32)), (.int c0), (.int c1), (.int c2)] ∧ Z.Warmed39 U.vm ∧ U.heap = h0 ∧ CHv Z EL U.vm h0) (fun _ _ _ _ _ => True) (fun _ U o U' => ∃ v L, o = .returned v ∧ Q_text1 Z c0 c1 c2 fm h0 n0 v U'.heap L ∧ CHr Z EL U.vm U.heap U'.vm U'.heap ∧ ReturnedEndW U o U' L rO37.cells rO37.slots) := by
  refine MetFree.of_bodySF pn_text0 hisR ?_
  intro p e s m args below meth c s₁ Bd hml0 hP hK
  obtain ⟨rfl, hZ, hh, H0⟩ := hP
  have hx := Bd.exec
  have hby := Bd.bytes
  have dq := @hb _ _ hby
  have hml : c.maxLocals = 4 := hml0
  have hown : s.vm.findClass "com/example/ampersat/ampersat/text/LiteralsQuotedPinLaw" = some m.cls := findClass_of_methodNamed Bd.named
  have X0 : Stand p l e rO37 (s.setVm s.vm) m #[(.int (1 : Int32)), (.int c0), (.int c1), (.int c2)] below meth c s₁ [] 0 0 := Stand.of_body Bd
  have e0 : s₁.heap = h0 := by rw [← hh, Bd.state]; rfl
  have N0 := Fr.nil n0
  have hS0 : s.Since s.vm 0 := (State.WarmedH.refl s).since _
  have R0 : CHr Z EL s.vm s.heap s.vm h0 := by rw [hh]; exact CHr.refl H0
  have hZ : Z.Warmed39 (s.setVm s.vm).vm := hZ
  have hown : (s.setVm s.vm).vm.findClass "com/example/ampersat/ampersat/text/LiteralsQuotedPinLaw" = some m.cls := hown
  have hEL := ew hw
  show Rch p e below s₁ _ _
  refine Rch.cast (ef_text0 m (1 : Int32) c0 c1 c2) ?_
  show Rch p e below s₁ (mkF m 0 #[vI (1 : Int32), vI c0, vI c1, vI c2] []) _
  refine R1 (XS.iloadN X0.here hx rfl (dq (dg dtt 0 rfl)) rfl) ?_
  refine R1 (XS.ifYes X0.here hx rfl (pc0 := 1) (pc' := 15) rfl (dq (dg dtt 1 rfl)) rfl (by decide : ifCond.holds .ne (1 : Int32) = true) (by decide) (by decide)) ?_
  refine R1 (XS.iloadN X0.here hx rfl (dq (dg dtt 8 rfl)) rfl) ?_
  refine R1 (XS.iconst X0.here hx rfl (dq (dg dtt 9 rfl)) ) ?_
  refine R1 (XS.icmpNo X0.here hx rfl (dq (dg dtt 10 rfl)) rfl (by decide : if_icmp.holds .ne (1 : Int32) (1 : Int32) = false)) ?_
  show Rch p e below s₁ (mkF m 20 #[vI (1 : Int32), vI c0, vI c1, vI c2] []) _
  obtain ⟨T368, h368, X368, e368, E368, A368, D368, -, st368⟩ := newO X0 hx hZ hown (wq hw 5 rfl) (wq hw 6 rfl) (wq hw 7 rfl) e0 (g := (mkF m 20 #[vI (1 : Int32), vI c0, vI c1, vI c2] [])) rfl (dq (dg dtt 11 rfl)) (by decide) (by decide)
  obtain ⟨a368, g368⟩ : ∃ z, z = h0.size := ⟨_, rfl⟩
  rw [← g368] at A368 D368 st368
  have Ex369 : Ext h0 h368 := E368
  have le370 : h0.size ≤ a368 := Nat.le_of_eq g368.symm
  refine R0_ st368 ?_
  show Rch p e below T368 (mkF m 23 #[vI (1 : Int32), vI c0, vI c1, vI c2] [(.ref a368)]) _
  refine R1 (XS.dup X368.here hx rfl (dq (dg dtt 12 rfl)) rfl rfl) ?_
  refine R1 (XS.iconst X368.here hx rfl (dq (dg dtt 13 rfl)) ) ?_
  show Rch p e below T368 (mkF m 25 #[vI (1 : Int32), vI c0, vI c1, vI c2] [(.int (1 : Int32)), (.ref a368), (.ref a368)]) _
  obtain ⟨T371, h371, k371, X371, e371, E371, A371, st371⟩ := newP X368 hx hZ (wq hw 8 rfl) e368 (g := (mkF m 25 #[vI (1 : Int32), vI c0, vI c1, vI c2] [(.int (1 : Int32)), (.ref a368), (.ref a368)])) rfl (dq (dg dtt 14 rfl)) rfl (by decide : ¬ ((1 : Int32) < (0 : Int32))) (cap := 1) (by decide : ((1 : Int32)).toNatClampNeg ≤ 1) (by decide) (by decide) (by decide)
  obtain ⟨a371, g371⟩ : ∃ z, z = h368.size := ⟨_, rfl⟩
  rw [← g371] at A371 st371
  have Ex372 : Ext h0 h371 := Ex369.tr E371
  have Ex373 : Ext h368 h371 := E371
  have le374 : h0.size ≤ a371 := Nat.le_trans Ex369.1 (Nat.le_of_eq g371.symm)
  have le375 : h368.size ≤ a371 := Nat.le_of_eq g371.symm
  refine R0_ st371 ?_
  show Rch p e below T371 (mkF m 27 #[vI (1 : Int32), vI c0, vI c1, vI c2] [(.ref a371), (.ref a368), (.ref a368)]) _
  have V371 : Arv Z h371 a371 k371 .char (1 : Int32) [(.int (0 : Int32))] (.int (0 : Int32)) := (Arv.new A371 (by decide : ¬ ((1 : Int32) < (0 : Int32)))).pad (pad_rep [] (.int (0 : Int32)) 1)
  refine R1 (XS.dup X371.here hx rfl (dq (dg dtt 15 rfl)) rfl rfl) ?_
  refine R1 (XS.iconst X371.here hx rfl (dq (dg dtt 16 rfl)) ) ?_
  refine R1 (XS.iloadN X371.here hx rfl (dq (dg dtt 17 rfl)) rfl) ?_
  show Rch p e below T371 (mkF m 30 #[vI (1 : Int32), vI c0, vI c1, vI c2] [(.int c0), (.int (0 : Int32)), (.ref a371), (.ref a371), (.ref a368), (.ref a368)]) _
  obtain ⟨T376, h376, L376, sl376, X376, e376, W376, V376, N376, st376⟩ := stCv X371 hx hZ e371 V371 N0 (Nat.le_trans Z0 le374) (j := (0 : Int32)) ⟨by decide, by decide⟩ 0 rfl (Nat.le_of_ble_eq_true rfl) (g := (mkF m 30 #[vI (1 : Int32), vI c0, vI c1, vI c2] [(.int c0), (.int (0 : Int32)), (.ref a371), (.ref a371), (.ref a368), (.ref a368)])) rfl rfl (dq (dg dtt 18 rfl))
  have V376_ := V376
  rw [k0.2] at V376_
  have V376' : Arv Z h376 a371 k371 .char (1 : Int32) [(.int c0)] (.int (0 : Int32)) := V376_
  have Ex377 : Ext h0 h376 := extWr Ex372 W376 le374
  have Ex378 : Ext h368 h376 := extWr Ex373 W376 le375
  refine R0_ st376 ?_
  show Rch p e below T376 (mkF m 31 #[vI (1 : Int32), vI c0, vI c1, vI c2] [(.ref a371), (.ref a368), (.ref a368)]) _
  obtain ⟨_, _, ⟨T379, L379, k379, n379⟩, -, X379, ⟨Lc379, hQ379, l379, y379, z379⟩, st379⟩ := X376.specialBack hx (y := mN9) rfl hown (mw hZ hw 9 rfl) (mw hZ hw 10 rfl) (mw hZ hw 11 rfl) (by decide) (newS (W := 1) hZ hw (cs := [c0]) (Nat.le_trans Z0 le370) (Nat.le_trans Z0 Ex377.1) (A368.ext Ex378) ((D368 (Or.inr (wq hw 21 rfl)) (ty := (.array .byte)) (by decide)).ext Ex378) ((D368 (Or.inr (wq hw 22 rfl)) (ty := .byte) (by decide)).ext Ex378) V376' (B.ext Ex377) (c16_cons k0.1 c16_nil) (Nat.le_of_ble_eq_true rfl) (Nat.le_of_ble_eq_true rfl) (by decide) (by decide)) (g := (mkF m 31 #[vI (1 : Int32), vI c0, vI c1, vI c2] [(.ref a371), (.ref a368), (.ref a368)])) rfl (by rw [hml]; rfl) (Steps.refl _) (a := a368) (argsL := [(.ref a371)]) (rest := [(.ref a368)]) (lenOf pd_35 rfl) rfl (w0 rfl) (dq (dg dtt 19 rfl)) (fun _ _ => ⟨rfl, e376, (by decide : 2 + 2 ≤ _), (by decide : 5 + 9 ≤ _)⟩)
  dsimp only [Pt.U, Pt.locs, Pt.cells, Pt.slots] at X379 l379 y379 z379 st379 hQ379
  subst l379 y379 z379
  obtain ⟨rfl, Nq379, K379, Q379⟩ := hQ379
  have N379 := Fr.app N376 Nq379
  have Ex380 : Ext h0 T379.heap := extKeep1 Ex377 K379 le370
  refine R2 st379 ?_
  show Rch p e below T379 (mkF m 34 #[vI (1 : Int32), vI c0, vI c1, vI c2] [(.ref a368)]) _
  have R381 := R0.trans (CHr.ext Ex380 R0.1)
  have hk382 := Nat.le_trans (Nat.zero_le _) Ex380.1
  exact Rch.finW (Q := Q_text1 Z c0 c1 c2 fm h0 n0) X379 hZ hEL hS0 hk382 rfl R381 (v := some (.ref a368)) (fun h => by rw [Bd.returns] at h; cases h) (BodyLoose.notSynchronized Bd) (fun fs hr => retR X379 hx Bd.returns rfl rfl (dq (dg dtt 20 rfl)) hr) ⟨a368, rfl, N379, Ex380, Q379⟩ (by decide) (by decide)
def Q_text2 (Z : State) (c0 c1 c2 : Int32) (fm : Value) (h0 : Heap) (n0 : Nat) (v : Option Value) (h : Heap) (L : List Loc) : Prop := ∃ t, v = some (.ref t) ∧ Fr n0 L ∧ Ext h0 h ∧ StrA Z h t ([c0, c1] : List Int32)
set_option maxRecDepth 65536 in
set_option maxHeartbeats 40000000 in
theorem rm_text2 (l : Launch) (Z : State) (a0 : Array Value) (hw : ∀ d ∈ tables_1, d.before a0 Z = true) (ws : List Jvm.Cond) (c0 c1 c2 : Int32) (fm : Value) (h0 : Heap) (n0 : Nat) (Z0 : n0 ≤ h0.size) (B : Bg Z h0 fm) (k0 : C16 c0) (k1 : C16 c1) (k2 : C16 c2) :
    MetFree l mN51 (head1 (Jvm.Cond.code mN51 method_3_code 4 (some (.object "java/lang/String")) :: ws) rO38) (fun a U => a = #[(.int (2 : Int32)), (.int c0), (.int c1), (.int c2)] ∧ Z.Warmed39 U.vm ∧ U.heap = h0 ∧ CHv Z EL U.vm h0) (fun _ _ _ _ _ => True) (fun _ U o U' => ∃ v L, o = .returned v ∧ Q_text2 Z c0 c1 c2 fm h0 n0 v U'.heap L ∧ CHr Z EL U.vm U.heap U'.vm U'.heap ∧ ReturnedEndW U o U' L rO38.cells rO38.slots) := by
  refine MetFree.of_bodySF pn_text0 hisR ?_
  intro p e s m args below meth c s₁ Bd hml0 hP hK
  obtain ⟨rfl, hZ, hh, H0⟩ := hP
  have hx := Bd.exec
  have hby := Bd.bytes
  have dq := @hb _ _ hby
  have hml : c.maxLocals = 4 := hml0
  have hown : s.vm.findClass "com/example/ampersat/ampersat/text/LiteralsQuotedPinLaw" = some m.cls := findClass_of_methodNamed Bd.named
  have X0 : Stand p l e rO38 (s.setVm s.vm) m #[(.int (2 : Int32)), (.int c0), (.int c1), (.int c2)] below meth c s₁ [] 0 0 := Stand.of_body Bd
  have e0 : s₁.heap = h0 := by rw [← hh, Bd.state]; rfl
  have N0 := Fr.nil n0
  have hS0 : s.Since s.vm 0 := (State.WarmedH.refl s).since _
  have R0 : CHr Z EL s.vm s.heap s.vm h0 := by rw [hh]; exact CHr.refl H0
  have hZ : Z.Warmed39 (s.setVm s.vm).vm := hZ
  have hown : (s.setVm s.vm).vm.findClass "com/example/ampersat/ampersat/text/LiteralsQuotedPinLaw" = some m.cls := hown
  have hEL := ew hw
  show Rch p e below s₁ _ _
  refine Rch.cast (ef_text0 m (2 : Int32) c0 c1 c2) ?_
  show Rch p e below s₁ (mkF m 0 #[vI (2 : Int32), vI c0, vI c1, vI c2] []) _
  refine R1 (XS.iloadN X0.here hx rfl (dq (dg dtt 0 rfl)) rfl) ?_
  refine R1 (XS.ifYes X0.here hx rfl (pc0 := 1) (pc' := 15) rfl (dq (dg dtt 1 rfl)) rfl (by decide : ifCond.holds .ne (2 : Int32) = true) (by decide) (by decide)) ?_
  refine R1 (XS.iloadN X0.here hx rfl (dq (dg dtt 8 rfl)) rfl) ?_
  refine R1 (XS.iconst X0.here hx rfl (dq (dg dtt 9 rfl)) ) ?_
  refine R1 (XS.icmpYes X0.here hx rfl (pc0 := 17) (pc' := 35) rfl (dq (dg dtt 10 rfl)) rfl (by decide : if_icmp.holds .ne (2 : Int32) (1 : Int32) = true) (by decide) (by decide)) ?_
  refine R1 (XS.iloadN X0.here hx rfl (dq (dg dtt 21 rfl)) rfl) ?_
  refine R1 (XS.iconst X0.here hx rfl (dq (dg dtt 22 rfl)) ) ?_
  refine R1 (XS.icmpNo X0.here hx rfl (dq (dg dtt 23 rfl)) rfl (by decide : if_icmp.holds .ne (2 : Int32) (2 : Int32) = false)) ?_
  show Rch p e below s₁ (mkF m 40 #[vI (2 : Int32), vI c0, vI c1, vI c2] []) _
  obtain ⟨T383, h383, X383, e383, E383, A383, D383, -, st383⟩ := newO X0 hx hZ hown (wq hw 5 rfl) (wq hw 6 rfl) (wq hw 7 rfl) e0 (g := (mkF m 40 #[vI (2 : Int32), vI c0, vI c1, vI c2] [])) rfl (dq (dg dtt 24 rfl)) (by decide) (by decide)
  obtain ⟨a383, g383⟩ : ∃ z, z = h0.size := ⟨_, rfl⟩
  rw [← g383] at A383 D383 st383
  have Ex384 : Ext h0 h383 := E383
  have le385 : h0.size ≤ a383 := Nat.le_of_eq g383.symm
  refine R0_ st383 ?_
  show Rch p e below T383 (mkF m 43 #[vI (2 : Int32), vI c0, vI c1, vI c2] [(.ref a383)]) _
  refine R1 (XS.dup X383.here hx rfl (dq (dg dtt 25 rfl)) rfl rfl) ?_
  refine R1 (XS.iconst X383.here hx rfl (dq (dg dtt 26 rfl)) ) ?_
  show Rch p e below T383 (mkF m 45 #[vI (2 : Int32), vI c0, vI c1, vI c2] [(.int (2 : Int32)), (.ref a383), (.ref a383)]) _
  obtain ⟨T386, h386, k386, X386, e386, E386, A386, st386⟩ := newP X383 hx hZ (wq hw 8 rfl) e383 (g := (mkF m 45 #[vI (2 : Int32), vI c0, vI c1, vI c2] [(.int (2 : Int32)), (.ref a383), (.ref a383)])) rfl (dq (dg dtt 27 rfl)) rfl (by decide : ¬ ((2 : Int32) < (0 : Int32))) (cap := 2) (by decide : ((2 : Int32)).toNatClampNeg ≤ 2) (by decide) (by decide) (by decide)
  obtain ⟨a386, g386⟩ : ∃ z, z = h383.size := ⟨_, rfl⟩
  rw [← g386] at A386 st386
  have Ex387 : Ext h0 h386 := Ex384.tr E386
  have Ex388 : Ext h383 h386 := E386
  have le389 : h0.size ≤ a386 := Nat.le_trans Ex384.1 (Nat.le_of_eq g386.symm)
  have le390 : h383.size ≤ a386 := Nat.le_of_eq g386.symm
  refine R0_ st386 ?_
  show Rch p e below T386 (mkF m 47 #[vI (2 : Int32), vI c0, vI c1, vI c2] [(.ref a386), (.ref a383), (.ref a383)]) _
  have V386 : Arv Z h386 a386 k386 .char (2 : Int32) [(.int (0 : Int32)), (.int (0 : Int32))] (.int (0 : Int32)) := (Arv.new A386 (by decide : ¬ ((2 : Int32) < (0 : Int32)))).pad (pad_rep [] (.int (0 : Int32)) 2)
  refine R1 (XS.dup X386.here hx rfl (dq (dg dtt 28 rfl)) rfl rfl) ?_
  refine R1 (XS.iconst X386.here hx rfl (dq (dg dtt 29 rfl)) ) ?_
  refine R1 (XS.iloadN X386.here hx rfl (dq (dg dtt 30 rfl)) rfl) ?_
  show Rch p e below T386 (mkF m 50 #[vI (2 : Int32), vI c0, vI c1, vI c2] [(.int c0), (.int (0 : Int32)), (.ref a386), (.ref a386), (.ref a383), (.ref a383)]) _
  obtain ⟨T391, h391, L391, sl391, X391, e391, W391, V391, N391, st391⟩ := stCv X386 hx hZ e386 V386 N0 (Nat.le_trans Z0 le389) (j := (0 : Int32)) ⟨by decide, by decide⟩ 0 rfl (Nat.le_of_ble_eq_true rfl) (g := (mkF m 50 #[vI (2 : Int32), vI c0, vI c1, vI c2] [(.int c0), (.int (0 : Int32)), (.ref a386), (.ref a386), (.ref a383), (.ref a383)])) rfl rfl (dq (dg dtt 31 rfl))
  have V391_ := V391
  rw [k0.2] at V391_
  have V391' : Arv Z h391 a386 k386 .char (2 : Int32) [(.int c0), (.int (0 : Int32))] (.int (0 : Int32)) := V391_
  have Ex392 : Ext h0 h391 := extWr Ex387 W391 le389
  have Ex393 : Ext h383 h391 := extWr Ex388 W391 le390
  refine R0_ st391 ?_
  show Rch p e below T391 (mkF m 51 #[vI (2 : Int32), vI c0, vI c1, vI c2] [(.ref a386), (.ref a383), (.ref a383)]) _
  refine R1 (XS.dup X391.here hx rfl (dq (dg dtt 32 rfl)) rfl rfl) ?_
  refine R1 (XS.iconst X391.here hx rfl (dq (dg dtt 33 rfl)) ) ?_
  refine R1 (XS.iloadN X391.here hx rfl (dq (dg dtt 34 rfl)) rfl) ?_
  show Rch p e below T391 (mkF m 54 #[vI (2 : Int32), vI c0, vI c1, vI c2] [(.int c1), (.int (1 : Int32)), (.ref a386), (.ref a386), (.ref a383), (.ref a383)]) _
  obtain ⟨T394, h394, L394, sl394, X394, e394, W394, V394, N394, st394⟩ := stCv X391 hx hZ e391 V391' N391 (Nat.le_trans Z0 le389) (j := (1 : Int32)) ⟨by decide, by decide⟩ 1 rfl (Nat.le_of_ble_eq_true rfl) (g := (mkF m 54 #[vI (2 : Int32), vI c0, vI c1, vI c2] [(.int c1), (.int (1 : Int32)), (.ref a386), (.ref a386), (.ref a383), (.ref a383)])) rfl rfl (dq (dg dtt 35 rfl))
  have V394_ := V394
  rw [k1.2] at V394_
  have V394' : Arv Z h394 a386 k386 .char (2 : Int32) [(.int c0), (.int c1)] (.int (0 : Int32)) := V394_
  have Ex395 : Ext h0 h394 := extWr Ex392 W394 le389
  have Ex396 : Ext h383 h394 := extWr Ex393 W394 le390
  refine R0_ st394 ?_
  show Rch p e below T394 (mkF m 55 #[vI (2 : Int32), vI c0, vI c1, vI c2] [(.ref a386), (.ref a383), (.ref a383)]) _
  obtain ⟨_, _, ⟨T397, L397, k397, n397⟩, -, X397, ⟨Lc397, hQ397, l397, y397, z397⟩, st397⟩ := X394.specialBack hx (y := mN9) rfl hown (mw hZ hw 9 rfl) (mw hZ hw 10 rfl) (mw hZ hw 11 rfl) (by decide) (newS (W := 1) hZ hw (cs := [c0, c1]) (Nat.le_trans Z0 le385) (Nat.le_trans Z0 Ex395.1) (A383.ext Ex396) ((D383 (Or.inr (wq hw 21 rfl)) (ty := (.array .byte)) (by decide)).ext Ex396) ((D383 (Or.inr (wq hw 22 rfl)) (ty := .byte) (by decide)).ext Ex396) V394' (B.ext Ex395) (c16_cons k0.1 (c16_cons k1.1 c16_nil)) (Nat.le_of_ble_eq_true rfl) (Nat.le_of_ble_eq_true rfl) (by decide) (by decide)) (g := (mkF m 55 #[vI (2 : Int32), vI c0, vI c1, vI c2] [(.ref a386), (.ref a383), (.ref a383)])) rfl (by rw [hml]; rfl) (Steps.refl _) (a := a383) (argsL := [(.ref a386)]) (rest := [(.ref a383)]) (lenOf pd_35 rfl) rfl (w0 rfl) (dq (dg dtt 36 rfl)) (fun _ _ => ⟨rfl, e394, (by decide : 2 + 2 ≤ _), (by decide : 6 + 9 ≤ _)⟩)
  dsimp only [Pt.U, Pt.locs, Pt.cells, Pt.slots] at X397 l397 y397 z397 st397 hQ397
  subst l397 y397 z397
  obtain ⟨rfl, Nq397, K397, Q397⟩ := hQ397
  have N397 := Fr.app N394 Nq397
  have Ex398 : Ext h0 T397.heap := extKeep1 Ex395 K397 le385
  refine R2 st397 ?_
  show Rch p e below T397 (mkF m 58 #[vI (2 : Int32), vI c0, vI c1, vI c2] [(.ref a383)]) _
  have R399 := R0.trans (CHr.ext Ex398 R0.1)
  have hk400 := Nat.le_trans (Nat.zero_le _) Ex398.1
  exact Rch.finW (Q := Q_text2 Z c0 c1 c2 fm h0 n0) X397 hZ hEL hS0 hk400 rfl R399 (v := some (.ref a383)) (fun h => by rw [Bd.returns] at h; cases h) (BodyLoose.notSynchronized Bd) (fun fs hr => retR X397 hx Bd.returns rfl rfl (dq (dg dtt 37 rfl)) hr) ⟨a383, rfl, N397, Ex398, Q397⟩ (by decide) (by decide)
def Q_text3 (Z : State) (c0 c1 c2 : Int32) (fm : Value) (h0 : Heap) (n0 : Nat) (v : Option Value) (h : Heap) (L : List Loc) : Prop := ∃ t, v = some (.ref t) ∧ Fr n0 L ∧ Ext h0 h ∧ StrA Z h t ([c0, c1, c2] : List Int32)
set_option maxRecDepth 65536 in
set_option maxHeartbeats 40000000 in
theorem rm_text3 (l : Launch) (Z : State) (a0 : Array Value) (hw : ∀ d ∈ tables_1, d.before a0 Z = true) (ws : List Jvm.Cond) (c0 c1 c2 : Int32) (fm : Value) (h0 : Heap) (n0 : Nat) (Z0 : n0 ≤ h0.size) (B : Bg Z h0 fm) (k0 : C16 c0) (k1 : C16 c1) (k2 : C16 c2) :
    MetFree l mN51 (head1 (Jvm.Cond.code mN51 method_3_code 4 (some (.object "java/lang/String")) :: ws) rO39) (fun a U => a = #[(.int (3 : Int32)), (.int c0), (.int c1), (.int c2)] ∧ Z.Warmed39 U.vm ∧ U.heap = h0 ∧ CHv Z EL U.vm h0) (fun _ _ _ _ _ => True) (fun _ U o U' => ∃ v L, o = .returned v ∧ Q_text3 Z c0 c1 c2 fm h0 n0 v U'.heap L ∧ CHr Z EL U.vm U.heap U'.vm U'.heap ∧ ReturnedEndW U o U' L rO39.cells rO39.slots) := by
  refine MetFree.of_bodySF pn_text0 hisR ?_
  intro p e s m args below meth c s₁ Bd hml0 hP hK
  obtain ⟨rfl, hZ, hh, H0⟩ := hP
  have hx := Bd.exec
  have hby := Bd.bytes
  have dq := @hb _ _ hby
  have hml : c.maxLocals = 4 := hml0
  have hown : s.vm.findClass "com/example/ampersat/ampersat/text/LiteralsQuotedPinLaw" = some m.cls := findClass_of_methodNamed Bd.named
  have X0 : Stand p l e rO39 (s.setVm s.vm) m #[(.int (3 : Int32)), (.int c0), (.int c1), (.int c2)] below meth c s₁ [] 0 0 := Stand.of_body Bd
  have e0 : s₁.heap = h0 := by rw [← hh, Bd.state]; rfl
  have N0 := Fr.nil n0
  have hS0 : s.Since s.vm 0 := (State.WarmedH.refl s).since _
  have R0 : CHr Z EL s.vm s.heap s.vm h0 := by rw [hh]; exact CHr.refl H0
  have hZ : Z.Warmed39 (s.setVm s.vm).vm := hZ
  have hown : (s.setVm s.vm).vm.findClass "com/example/ampersat/ampersat/text/LiteralsQuotedPinLaw" = some m.cls := hown
  have hEL := ew hw
  show Rch p e below s₁ _ _
  refine Rch.cast (ef_text0 m (3 : Int32) c0 c1 c2) ?_
  show Rch p e below s₁ (mkF m 0 #[vI (3 : Int32), vI c0, vI c1, vI c2] []) _
  refine R1 (XS.iloadN X0.here hx rfl (dq (dg dtt 0 rfl)) rfl) ?_
  refine R1 (XS.ifYes X0.here hx rfl (pc0 := 1) (pc' := 15) rfl (dq (dg dtt 1 rfl)) rfl (by decide : ifCond.holds .ne (3 : Int32) = true) (by decide) (by decide)) ?_
  refine R1 (XS.iloadN X0.here hx rfl (dq (dg dtt 8 rfl)) rfl) ?_
  refine R1 (XS.iconst X0.here hx rfl (dq (dg dtt 9 rfl)) ) ?_
  refine R1 (XS.icmpYes X0.here hx rfl (pc0 := 17) (pc' := 35) rfl (dq (dg dtt 10 rfl)) rfl (by decide : if_icmp.holds .ne (3 : Int32) (1 : Int32) = true) (by decide) (by decide)) ?_
  refine R1 (XS.iloadN X0.here hx rfl (dq (dg dtt 21 rfl)) rfl) ?_
  refine R1 (XS.iconst X0.here hx rfl (dq (dg dtt 22 rfl)) ) ?_
  refine R1 (XS.icmpYes X0.here hx rfl (pc0 := 37) (pc' := 59) rfl (dq (dg dtt 23 rfl)) rfl (by decide : if_icmp.holds .ne (3 : Int32) (2 : Int32) = true) (by decide) (by decide)) ?_
  show Rch p e below s₁ (mkF m 59 #[vI (3 : Int32), vI c0, vI c1, vI c2] []) _
  obtain ⟨T401, h401, X401, e401, E401, A401, D401, -, st401⟩ := newO X0 hx hZ hown (wq hw 5 rfl) (wq hw 6 rfl) (wq hw 7 rfl) e0 (g := (mkF m 59 #[vI (3 : Int32), vI c0, vI c1, vI c2] [])) rfl (dq (dg dtt 38 rfl)) (by decide) (by decide)
  obtain ⟨a401, g401⟩ : ∃ z, z = h0.size := ⟨_, rfl⟩
  rw [← g401] at A401 D401 st401
  have Ex402 : Ext h0 h401 := E401
  have le403 : h0.size ≤ a401 := Nat.le_of_eq g401.symm
  refine R0_ st401 ?_
  show Rch p e below T401 (mkF m 62 #[vI (3 : Int32), vI c0, vI c1, vI c2] [(.ref a401)]) _
  refine R1 (XS.dup X401.here hx rfl (dq (dg dtt 39 rfl)) rfl rfl) ?_
  refine R1 (XS.iconst X401.here hx rfl (dq (dg dtt 40 rfl)) ) ?_
  show Rch p e below T401 (mkF m 64 #[vI (3 : Int32), vI c0, vI c1, vI c2] [(.int (3 : Int32)), (.ref a401), (.ref a401)]) _
  obtain ⟨T404, h404, k404, X404, e404, E404, A404, st404⟩ := newP X401 hx hZ (wq hw 8 rfl) e401 (g := (mkF m 64 #[vI (3 : Int32), vI c0, vI c1, vI c2] [(.int (3 : Int32)), (.ref a401), (.ref a401)])) rfl (dq (dg dtt 41 rfl)) rfl (by decide : ¬ ((3 : Int32) < (0 : Int32))) (cap := 3) (by decide : ((3 : Int32)).toNatClampNeg ≤ 3) (by decide) (by decide) (by decide)
  obtain ⟨a404, g404⟩ : ∃ z, z = h401.size := ⟨_, rfl⟩
  rw [← g404] at A404 st404
  have Ex405 : Ext h0 h404 := Ex402.tr E404
  have Ex406 : Ext h401 h404 := E404
  have le407 : h0.size ≤ a404 := Nat.le_trans Ex402.1 (Nat.le_of_eq g404.symm)
  have le408 : h401.size ≤ a404 := Nat.le_of_eq g404.symm
  refine R0_ st404 ?_
  show Rch p e below T404 (mkF m 66 #[vI (3 : Int32), vI c0, vI c1, vI c2] [(.ref a404), (.ref a401), (.ref a401)]) _
  have V404 : Arv Z h404 a404 k404 .char (3 : Int32) [(.int (0 : Int32)), (.int (0 : Int32)), (.int (0 : Int32))] (.int (0 : Int32)) := (Arv.new A404 (by decide : ¬ ((3 : Int32) < (0 : Int32)))).pad (pad_rep [] (.int (0 : Int32)) 3)
  refine R1 (XS.dup X404.here hx rfl (dq (dg dtt 42 rfl)) rfl rfl) ?_
  refine R1 (XS.iconst X404.here hx rfl (dq (dg dtt 43 rfl)) ) ?_
  refine R1 (XS.iloadN X404.here hx rfl (dq (dg dtt 44 rfl)) rfl) ?_
  show Rch p e below T404 (mkF m 69 #[vI (3 : Int32), vI c0, vI c1, vI c2] [(.int c0), (.int (0 : Int32)), (.ref a404), (.ref a404), (.ref a401), (.ref a401)]) _
  obtain ⟨T409, h409, L409, sl409, X409, e409, W409, V409, N409, st409⟩ := stCv X404 hx hZ e404 V404 N0 (Nat.le_trans Z0 le407) (j := (0 : Int32)) ⟨by decide, by decide⟩ 0 rfl (Nat.le_of_ble_eq_true rfl) (g := (mkF m 69 #[vI (3 : Int32), vI c0, vI c1, vI c2] [(.int c0), (.int (0 : Int32)), (.ref a404), (.ref a404), (.ref a401), (.ref a401)])) rfl rfl (dq (dg dtt 45 rfl))
  have V409_ := V409
  rw [k0.2] at V409_
  have V409' : Arv Z h409 a404 k404 .char (3 : Int32) [(.int c0), (.int (0 : Int32)), (.int (0 : Int32))] (.int (0 : Int32)) := V409_
  have Ex410 : Ext h0 h409 := extWr Ex405 W409 le407
  have Ex411 : Ext h401 h409 := extWr Ex406 W409 le408
  refine R0_ st409 ?_
  show Rch p e below T409 (mkF m 70 #[vI (3 : Int32), vI c0, vI c1, vI c2] [(.ref a404), (.ref a401), (.ref a401)]) _
  refine R1 (XS.dup X409.here hx rfl (dq (dg dtt 46 rfl)) rfl rfl) ?_
  refine R1 (XS.iconst X409.here hx rfl (dq (dg dtt 47 rfl)) ) ?_
  refine R1 (XS.iloadN X409.here hx rfl (dq (dg dtt 48 rfl)) rfl) ?_
  show Rch p e below T409 (mkF m 73 #[vI (3 : Int32), vI c0, vI c1, vI c2] [(.int c1), (.int (1 : Int32)), (.ref a404), (.ref a404), (.ref a401), (.ref a401)]) _
  obtain ⟨T412, h412, L412, sl412, X412, e412, W412, V412, N412, st412⟩ := stCv X409 hx hZ e409 V409' N409 (Nat.le_trans Z0 le407) (j := (1 : Int32)) ⟨by decide, by decide⟩ 1 rfl (Nat.le_of_ble_eq_true rfl) (g := (mkF m 73 #[vI (3 : Int32), vI c0, vI c1, vI c2] [(.int c1), (.int (1 : Int32)), (.ref a404), (.ref a404), (.ref a401), (.ref a401)])) rfl rfl (dq (dg dtt 49 rfl))
  have V412_ := V412
  rw [k1.2] at V412_
  have V412' : Arv Z h412 a404 k404 .char (3 : Int32) [(.int c0), (.int c1), (.int (0 : Int32))] (.int (0 : Int32)) := V412_
  have Ex413 : Ext h0 h412 := extWr Ex410 W412 le407
  have Ex414 : Ext h401 h412 := extWr Ex411 W412 le408
  refine R0_ st412 ?_
  show Rch p e below T412 (mkF m 74 #[vI (3 : Int32), vI c0, vI c1, vI c2] [(.ref a404), (.ref a401), (.ref a401)]) _
  refine R1 (XS.dup X412.here hx rfl (dq (dg dtt 50 rfl)) rfl rfl) ?_
  refine R1 (XS.iconst X412.here hx rfl (dq (dg dtt 51 rfl)) ) ?_
  refine R1 (XS.iloadN X412.here hx rfl (dq (dg dtt 52 rfl)) rfl) ?_
  show Rch p e below T412 (mkF m 77 #[vI (3 : Int32), vI c0, vI c1, vI c2] [(.int c2), (.int (2 : Int32)), (.ref a404), (.ref a404), (.ref a401), (.ref a401)]) _
  obtain ⟨T415, h415, L415, sl415, X415, e415, W415, V415, N415, st415⟩ := stCv X412 hx hZ e412 V412' N412 (Nat.le_trans Z0 le407) (j := (2 : Int32)) ⟨by decide, by decide⟩ 2 rfl (Nat.le_of_ble_eq_true rfl) (g := (mkF m 77 #[vI (3 : Int32), vI c0, vI c1, vI c2] [(.int c2), (.int (2 : Int32)), (.ref a404), (.ref a404), (.ref a401), (.ref a401)])) rfl rfl (dq (dg dtt 53 rfl))
  have V415_ := V415
  rw [k2.2] at V415_
  have V415' : Arv Z h415 a404 k404 .char (3 : Int32) [(.int c0), (.int c1), (.int c2)] (.int (0 : Int32)) := V415_
  have Ex416 : Ext h0 h415 := extWr Ex413 W415 le407
  have Ex417 : Ext h401 h415 := extWr Ex414 W415 le408
  refine R0_ st415 ?_
  show Rch p e below T415 (mkF m 78 #[vI (3 : Int32), vI c0, vI c1, vI c2] [(.ref a404), (.ref a401), (.ref a401)]) _
  obtain ⟨_, _, ⟨T418, L418, k418, n418⟩, -, X418, ⟨Lc418, hQ418, l418, y418, z418⟩, st418⟩ := X415.specialBack hx (y := mN9) rfl hown (mw hZ hw 9 rfl) (mw hZ hw 10 rfl) (mw hZ hw 11 rfl) (by decide) (newS (W := 1) hZ hw (cs := [c0, c1, c2]) (Nat.le_trans Z0 le403) (Nat.le_trans Z0 Ex416.1) (A401.ext Ex417) ((D401 (Or.inr (wq hw 21 rfl)) (ty := (.array .byte)) (by decide)).ext Ex417) ((D401 (Or.inr (wq hw 22 rfl)) (ty := .byte) (by decide)).ext Ex417) V415' (B.ext Ex416) (c16_cons k0.1 (c16_cons k1.1 (c16_cons k2.1 c16_nil))) (Nat.le_of_ble_eq_true rfl) (Nat.le_of_ble_eq_true rfl) (by decide) (by decide)) (g := (mkF m 78 #[vI (3 : Int32), vI c0, vI c1, vI c2] [(.ref a404), (.ref a401), (.ref a401)])) rfl (by rw [hml]; rfl) (Steps.refl _) (a := a401) (argsL := [(.ref a404)]) (rest := [(.ref a401)]) (lenOf pd_35 rfl) rfl (w0 rfl) (dq (dg dtt 54 rfl)) (fun _ _ => ⟨rfl, e415, (by decide : 2 + 2 ≤ _), (by decide : 7 + 9 ≤ _)⟩)
  dsimp only [Pt.U, Pt.locs, Pt.cells, Pt.slots] at X418 l418 y418 z418 st418 hQ418
  subst l418 y418 z418
  obtain ⟨rfl, Nq418, K418, Q418⟩ := hQ418
  have N418 := Fr.app N415 Nq418
  have Ex419 : Ext h0 T418.heap := extKeep1 Ex416 K418 le403
  refine R2 st418 ?_
  show Rch p e below T418 (mkF m 81 #[vI (3 : Int32), vI c0, vI c1, vI c2] [(.ref a401)]) _
  have R420 := R0.trans (CHr.ext Ex419 R0.1)
  have hk421 := Nat.le_trans (Nat.zero_le _) Ex419.1
  exact Rch.finW (Q := Q_text3 Z c0 c1 c2 fm h0 n0) X418 hZ hEL hS0 hk421 rfl R420 (v := some (.ref a401)) (fun h => by rw [Bd.returns] at h; cases h) (BodyLoose.notSynchronized Bd) (fun fs hr => retR X418 hx Bd.returns rfl rfl (dq (dg dtt 55 rfl)) hr) ⟨a401, rfl, N418, Ex419, Q418⟩ (by decide) (by decide)
theorem dlw : dxs code [(0, .iload_n 0, 1), (1, .iconst 3, 1), (2, .iand, 1), (3, .istore 4, 2), (5, .iload_n 1, 1), (6, .ldc 7, 2), (8, .iand, 1), (9, .i2c, 1), (10, .istore 5, 2), (12, .iload_n 2, 1), (13, .ldc 7, 2), (15, .iand, 1), (16, .i2c, 1), (17, .istore 6, 2), (19, .iload_n 3, 1), (20, .ldc 7, 2), (22, .iand, 1), (23, .i2c, 1), (24, .istore 7, 2), (26, .iload 4, 2), (28, .iload 5, 2), (30, .iload 6, 2), (32, .iload 7, 2), (34, .invokestatic 8, 3), (37, .astore 8, 2), (39, .aload 8, 2), (41, .invokestatic 14, 3), (44, .astore 9, 2), (46, .iload 4, 2), (48, .ifCond .le 11, 3), (51, .iload 5, 2), (53, .invokestatic 20, 3), (56, .goto 4, 3), (59, .iconst 0, 1), (60, .istore 10, 2), (62, .iload 4, 2), (64, .iconst 1, 1), (65, .if_icmp .le 11, 3), (68, .iload 6, 2), (70, .invokestatic 20, 3), (73, .goto 4, 3), (76, .iconst 0, 1), (77, .istore 11, 2), (79, .iload 4, 2), (81, .iconst 2, 1), (82, .if_icmp .le 11, 3), (85, .iload 7, 2), (87, .invokestatic 20, 3), (90, .goto 4, 3), (93, .iconst 0, 1), (94, .istore 12, 2), (96, .iconst 2, 1), (97, .iload 10, 2), (99, .iadd, 1), (100, .iload 11, 2), (102, .iadd, 1), (103, .iload 12, 2), (105, .iadd, 1), (106, .istore 13, 2), (108, .aload 9, 2), (110, .invokevirtual 24, 3), (113, .iload 13, 2), (115, .if_icmp .eq 5, 3), (120, .aload 9, 2), (122, .iconst 0, 1), (123, .invokevirtual 30, 3), (126, .bipush 34, 2), (128, .if_icmp .ne 17, 3), (131, .aload 9, 2), (133, .iload 13, 2), (135, .iconst 1, 1), (136, .isub, 1), (137, .invokevirtual 30, 3), (140, .bipush 34, 2), (142, .if_icmp .eq 5, 3), (147, .iload 4, 2), (149, .ifCond .le 16, 3), (152, .aload 9, 2), (154, .iconst 1, 1), (155, .iload 5, 2), (157, .invokestatic 34, 3), (160, .ifCond .ne 5, 3), (165, .iload 4, 2), (167, .iconst 1, 1), (168, .if_icmp .le 19, 3), (171, .aload 9, 2), (173, .iconst 1, 1), (174, .iload 10, 2), (176, .iadd, 1), (177, .iload 6, 2), (179, .invokestatic 34, 3), (182, .ifCond .ne 5, 3), (187, .iload 4, 2), (189, .iconst 2, 1), (190, .if_icmp .le 22, 3), (193, .aload 9, 2), (195, .iconst 1, 1), (196, .iload 10, 2), (198, .iadd, 1), (199, .iload 11, 2), (201, .iadd, 1), (202, .iload 7, 2), (204, .invokestatic 34, 3), (207, .ifCond .ne 5, 3), (212, .iconst 1, 1), (213, .ireturn, 1)] = true := by decide +kernel
theorem pn_law : plainFor x = true := by first | exact plainFor_of_name (by first | (simp [plainName, overriddenIn]; done) | decide +kernel) | exact Jvm.Free.JP.mathPlain rfl (by decide +kernel)
theorem ef_law (m : MethodId) (x0 : Int32) (x1 : Int32) (x2 : Int32) (x3 : Int32) : entryFrame m #[(.int x0), (.int x1), (.int x2), (.int x3)] maxLocals = mkF m 0 #[vI x0, vI x1, vI x2, vI x3, .unset, .unset, .unset, .unset, .unset, .unset, .unset, .unset, .unset, .unset] [] := by first | (simp [entryFrame, mkF, argsToLocals, Value.category, maxLocals]; done) | rfl
def Q_law (Z : State) (p0 p1 p2 p3 : Int32) (fm : Value) (h0 : Heap) (n0 : Nat) (v : Option Value) (h : Heap) (L : List Loc) : Prop := v = some (.int 1) ∧ Fr n0 L
set_option maxRecDepth 65536 in
set_option maxHeartbeats 40000000 in
theorem rm_law (l : Launch) (Z : State) (a0 : Array Value) (hw : ∀ d ∈ tables_1, d.before a0 Z = true) (ws : List Jvm.Cond) (p0 p1 p2 p3 : Int32) (fm : Value) (h0 : Heap) (n0 : Nat) (Z0 : n0 ≤ h0.size) (B : Bg Z h0 fm) :
    MetFree l x (head1 (Jvm.Cond.code x code maxLocals ret :: ws) room_1) (fun a U => a = #[(.int p0), (.int p1), (.int p2), (.int p3)] ∧ Z.Warmed39 U.vm ∧ U.heap = h0 ∧ CHv Z EL U.vm h0) (fun _ _ _ _ _ => True) (fun _ U o U' => ∃ v L, o = .returned v ∧ Q_law Z p0 p1 p2 p3 fm h0 n0 v U'.heap L ∧ CHr Z EL U.vm U.heap U'.vm U'.heap ∧ ReturnedEndW U o U' L 40 3328) := by
  refine MetFree.of_bodySF pn_law hisR ?_
  intro p e s m args below meth c s₁ Bd hml0 hP hK
  obtain ⟨rfl, hZ, hh, H0⟩ := hP
  have hx := Bd.exec
  have hby := Bd.bytes
  have dq := @hb _ _ hby
  have hml : c.maxLocals = 14 := hml0
  have hown : s.vm.findClass "com/example/ampersat/ampersat/text/LiteralsQuotedPinLaw" = some m.cls := findClass_of_methodNamed Bd.named
  have X0 : Stand p l e room_1 (s.setVm s.vm) m #[(.int p0), (.int p1), (.int p2), (.int p3)] below meth c s₁ [] 0 0 := Stand.of_body Bd
  have e0 : s₁.heap = h0 := by rw [← hh, Bd.state]; rfl
  have N0 := Fr.nil n0
  have hS0 : s.Since s.vm 0 := (State.WarmedH.refl s).since _
  have R0 : CHr Z EL s.vm s.heap s.vm h0 := by rw [hh]; exact CHr.refl H0
  have hZ : Z.Warmed39 (s.setVm s.vm).vm := hZ
  have hown : (s.setVm s.vm).vm.findClass "com/example/ampersat/ampersat/text/LiteralsQuotedPinLaw" = some m.cls := hown
  have hEL := ew hw
  show Rch p e below s₁ _ _
  refine Rch.cast (ef_law m p0 p1 p2 p3) ?_
  show Rch p e below s₁ (mkF m 0 #[vI p0, vI p1, vI p2, vI p3, .unset, .unset, .unset, .unset, .unset, .unset, .unset, .unset, .unset, .unset] []) _
  refine R1 (XS.iloadN X0.here hx rfl (dq (dg dlw 0 rfl)) rfl) ?_
  refine R1 (XS.iconst X0.here hx rfl (dq (dg dlw 1 rfl)) ) ?_
  refine R1 (XS.iand X0.here hx rfl (dq (dg dlw 2 rfl)) rfl) ?_
  show Rch p e below s₁ (mkF m 3 #[vI p0, vI p1, vI p2, vI p3, .unset, .unset, .unset, .unset, .unset, .unset, .unset, .unset, .unset, .unset] [(.int (p0 &&& (3 : Int32)))]) _
  rcases and3 p0 with hn | hn | hn | hn
  · skip
    rw [hn]
    show Rch p e below s₁ (mkF m 3 #[vI p0, vI p1, vI p2, vI p3, .unset, .unset, .unset, .unset, .unset, .unset, .unset, .unset, .unset, .unset] [(.int (0 : Int32))]) _
    refine R1 (XS.istore X0.here hx rfl (dq (dg dlw 3 rfl)) rfl (l' := #[vI p0, vI p1, vI p2, vI p3, vI (0 : Int32), .unset, .unset, .unset, .unset, .unset, .unset, .unset, .unset, .unset]) rfl) ?_
    refine R1 (XS.iloadN X0.here hx rfl (dq (dg dlw 4 rfl)) rfl) ?_
    show Rch p e below s₁ (mkF m 6 #[vI p0, vI p1, vI p2, vI p3, vI (0 : Int32), .unset, .unset, .unset, .unset, .unset, .unset, .unset, .unset, .unset] [(.int p1)]) _
    refine R0_ (X0.ldcInt hx hown (mw hZ hw 0 rfl) (g := (mkF m 6 #[vI p0, vI p1, vI p2, vI p3, vI (0 : Int32), .unset, .unset, .unset, .unset, .unset, .unset, .unset, .unset, .unset] [(.int p1)])) rfl (dq (dg dlw 5 rfl))) ?_
    show Rch p e below s₁ (mkF m 8 #[vI p0, vI p1, vI p2, vI p3, vI (0 : Int32), .unset, .unset, .unset, .unset, .unset, .unset, .unset, .unset, .unset] [(.int (65535 : Int32)), (.int p1)]) _
    refine R1 (XS.iand X0.here hx rfl (dq (dg dlw 6 rfl)) rfl) ?_
    refine R1 (XT.i2c X0.here hx rfl (dq (dg dlw 7 rfl)) rfl) ?_
    show Rch p e below s₁ (mkF m 10 #[vI p0, vI p1, vI p2, vI p3, vI (0 : Int32), .unset, .unset, .unset, .unset, .unset, .unset, .unset, .unset, .unset] [(.int ((p1 &&& (65535 : Int32)).toUInt32.toUInt16.toUInt32.toInt32))]) _
    generalize hc0 : ((p1 &&& (65535 : Int32)).toUInt32.toUInt16.toUInt32.toInt32) = c0
    have k0 : C16 c0 := hc0 ▸ c16_i2c _
    show Rch p e below s₁ (mkF m 10 #[vI p0, vI p1, vI p2, vI p3, vI (0 : Int32), .unset, .unset, .unset, .unset, .unset, .unset, .unset, .unset, .unset] [(.int c0)]) _
    refine R1 (XS.istore X0.here hx rfl (dq (dg dlw 8 rfl)) rfl (l' := #[vI p0, vI p1, vI p2, vI p3, vI (0 : Int32), vI c0, .unset, .unset, .unset, .unset, .unset, .unset, .unset, .unset]) rfl) ?_
    refine R1 (XS.iloadN X0.here hx rfl (dq (dg dlw 9 rfl)) rfl) ?_
    show Rch p e below s₁ (mkF m 13 #[vI p0, vI p1, vI p2, vI p3, vI (0 : Int32), vI c0, .unset, .unset, .unset, .unset, .unset, .unset, .unset, .unset] [(.int p2)]) _
    refine R0_ (X0.ldcInt hx hown (mw hZ hw 0 rfl) (g := (mkF m 13 #[vI p0, vI p1, vI p2, vI p3, vI (0 : Int32), vI c0, .unset, .unset, .unset, .unset, .unset, .unset, .unset, .unset] [(.int p2)])) rfl (dq (dg dlw 10 rfl))) ?_
    show Rch p e below s₁ (mkF m 15 #[vI p0, vI p1, vI p2, vI p3, vI (0 : Int32), vI c0, .unset, .unset, .unset, .unset, .unset, .unset, .unset, .unset] [(.int (65535 : Int32)), (.int p2)]) _
    refine R1 (XS.iand X0.here hx rfl (dq (dg dlw 11 rfl)) rfl) ?_
    refine R1 (XT.i2c X0.here hx rfl (dq (dg dlw 12 rfl)) rfl) ?_
    show Rch p e below s₁ (mkF m 17 #[vI p0, vI p1, vI p2, vI p3, vI (0 : Int32), vI c0, .unset, .unset, .unset, .unset, .unset, .unset, .unset, .unset] [(.int ((p2 &&& (65535 : Int32)).toUInt32.toUInt16.toUInt32.toInt32))]) _
    generalize hc1 : ((p2 &&& (65535 : Int32)).toUInt32.toUInt16.toUInt32.toInt32) = c1
    have k1 : C16 c1 := hc1 ▸ c16_i2c _
    show Rch p e below s₁ (mkF m 17 #[vI p0, vI p1, vI p2, vI p3, vI (0 : Int32), vI c0, .unset, .unset, .unset, .unset, .unset, .unset, .unset, .unset] [(.int c1)]) _
    refine R1 (XS.istore X0.here hx rfl (dq (dg dlw 13 rfl)) rfl (l' := #[vI p0, vI p1, vI p2, vI p3, vI (0 : Int32), vI c0, vI c1, .unset, .unset, .unset, .unset, .unset, .unset, .unset]) rfl) ?_
    refine R1 (XS.iloadN X0.here hx rfl (dq (dg dlw 14 rfl)) rfl) ?_
    show Rch p e below s₁ (mkF m 20 #[vI p0, vI p1, vI p2, vI p3, vI (0 : Int32), vI c0, vI c1, .unset, .unset, .unset, .unset, .unset, .unset, .unset] [(.int p3)]) _
    refine R0_ (X0.ldcInt hx hown (mw hZ hw 0 rfl) (g := (mkF m 20 #[vI p0, vI p1, vI p2, vI p3, vI (0 : Int32), vI c0, vI c1, .unset, .unset, .unset, .unset, .unset, .unset, .unset] [(.int p3)])) rfl (dq (dg dlw 15 rfl))) ?_
    show Rch p e below s₁ (mkF m 22 #[vI p0, vI p1, vI p2, vI p3, vI (0 : Int32), vI c0, vI c1, .unset, .unset, .unset, .unset, .unset, .unset, .unset] [(.int (65535 : Int32)), (.int p3)]) _
    refine R1 (XS.iand X0.here hx rfl (dq (dg dlw 16 rfl)) rfl) ?_
    refine R1 (XT.i2c X0.here hx rfl (dq (dg dlw 17 rfl)) rfl) ?_
    show Rch p e below s₁ (mkF m 24 #[vI p0, vI p1, vI p2, vI p3, vI (0 : Int32), vI c0, vI c1, .unset, .unset, .unset, .unset, .unset, .unset, .unset] [(.int ((p3 &&& (65535 : Int32)).toUInt32.toUInt16.toUInt32.toInt32))]) _
    generalize hc2 : ((p3 &&& (65535 : Int32)).toUInt32.toUInt16.toUInt32.toInt32) = c2
    have k2 : C16 c2 := hc2 ▸ c16_i2c _
    show Rch p e below s₁ (mkF m 24 #[vI p0, vI p1, vI p2, vI p3, vI (0 : Int32), vI c0, vI c1, .unset, .unset, .unset, .unset, .unset, .unset, .unset] [(.int c2)]) _
    refine R1 (XS.istore X0.here hx rfl (dq (dg dlw 18 rfl)) rfl (l' := #[vI p0, vI p1, vI p2, vI p3, vI (0 : Int32), vI c0, vI c1, vI c2, .unset, .unset, .unset, .unset, .unset, .unset]) rfl) ?_
    refine R1 (XS.iload X0.here hx rfl (dq (dg dlw 19 rfl)) rfl) ?_
    refine R1 (XS.iload X0.here hx rfl (dq (dg dlw 20 rfl)) rfl) ?_
    refine R1 (XS.iload X0.here hx rfl (dq (dg dlw 21 rfl)) rfl) ?_
    refine R1 (XS.iload X0.here hx rfl (dq (dg dlw 22 rfl)) rfl) ?_
    show Rch p e below s₁ (mkF m 34 #[vI p0, vI p1, vI p2, vI p3, vI (0 : Int32), vI c0, vI c1, vI c2, .unset, .unset, .unset, .unset, .unset, .unset] [(.int c2), (.int c1), (.int c0), (.int (0 : Int32))]) _
    obtain ⟨_, _, ⟨T422, L422, k422, n422⟩, -, X422_, hS422_, hg422_, ⟨Lc422, hQ422, l422, y422, z422, CR422⟩, st422⟩ := callSS X0 hx (y := mN51) hown (mw hZ hw 1 rfl) (mw hZ hw 2 rfl) (mw hZ hw 3 rfl) (mw hZ hw 4 rfl) (by decide) (backOfSH (W := 0) (rm_text0 l Z a0 hw [] c0 c1 c2 fm h0 n0 Z0 B k0 k1 k2) hZ (wq hw 4 rfl) (wq hw 3 rfl) (by decide) (by decide) hEL R0.1) (g := (mkF m 34 #[vI p0, vI p1, vI p2, vI p3, vI (0 : Int32), vI c0, vI c1, vI c2, .unset, .unset, .unset, .unset, .unset, .unset] [(.int c2), (.int c1), (.int c0), (.int (0 : Int32))])) rfl (by rw [hml]; rfl) (argsL := [(.int (0 : Int32)), (.int c0), (.int c1), (.int c2)]) (rest := []) (lenOf pd_36 rfl) rfl (w0 rfl) (dq (dg dlw 23 rfl)) (fun _ _ => ⟨rfl, e0, (by decide : 0 + 6 ≤ _), (by decide : 0 + 12 ≤ _)⟩)
    dsimp only [Pt.U, Pt.locs, Pt.cells, Pt.slots] at X422_ hS422_ hg422_ l422 y422 z422 st422 hQ422 CR422
    subst l422 y422 z422
    obtain ⟨X422, hS422, hZ422, hown422⟩ := rebS hS0 (by rw [e0]; exact (Nat.zero_le _)) X422_ hS422_ hg422_ hZ hown
    obtain ⟨t422, rfl, Nq422, E422, S422⟩ := hQ422
    have N422 := Fr.app N0 Nq422
    have R422 := R0.trans CR422
    have Ex423 : Ext h0 T422.heap := E422
    refine R2 st422 ?_
    show Rch p e below T422 (mkF m 37 #[vI p0, vI p1, vI p2, vI p3, vI (0 : Int32), vI c0, vI c1, vI c2, .unset, .unset, .unset, .unset, .unset, .unset] [(.ref t422)]) _
    refine R1 (XS.astore X422.here hx rfl (dq (dg dlw 24 rfl)) rfl rfl (l' := #[vI p0, vI p1, vI p2, vI p3, vI (0 : Int32), vI c0, vI c1, vI c2, vR t422, .unset, .unset, .unset, .unset, .unset]) rfl) ?_
    refine R1 (XS.aload X422.here hx rfl (dq (dg dlw 25 rfl)) rfl rfl) ?_
    show Rch p e below T422 (mkF m 41 #[vI p0, vI p1, vI p2, vI p3, vI (0 : Int32), vI c0, vI c1, vI c2, vR t422, .unset, .unset, .unset, .unset, .unset] [(.ref t422)]) _
    obtain ⟨_, _, ⟨T424, L424, k424, n424⟩, -, X424_, hS424_, hg424_, ⟨Lc424, hQ424, l424, y424, z424, CR424⟩, st424⟩ := callSS X422 hx (y := mN47) hown422 (mw hZ422 hw 27 rfl) (mw hZ422 hw 28 rfl) (mw hZ422 hw 29 rfl) (mw hZ422 hw 30 rfl) (by decide) (backOfSH (W := 0) (rm_outr l Z a0 hw [] t422 ([] : List Int32) fm T422.heap n0 (Nat.le_trans Z0 Ex423.1) S422 (B.ext Ex423) (Nat.le_of_ble_eq_true rfl)) hZ422 (wq hw 30 rfl) (wq hw 29 rfl) (by decide) (by decide) hEL R422.1) (g := (mkF m 41 #[vI p0, vI p1, vI p2, vI p3, vI (0 : Int32), vI c0, vI c1, vI c2, vR t422, .unset, .unset, .unset, .unset, .unset] [(.ref t422)])) rfl (by rw [hml]; rfl) (argsL := [(.ref t422)]) (rest := []) (lenOf pd_37 rfl) rfl (w0 rfl) (dq (dg dlw 26 rfl)) (fun _ _ => ⟨rfl, rfl, (by decide : 6 + 33 ≤ _), (by decide : 12 + 976 ≤ _)⟩)
    dsimp only [Pt.U, Pt.locs, Pt.cells, Pt.slots] at X424_ hS424_ hg424_ l424 y424 z424 st424 hQ424 CR424
    subst l424 y424 z424
    obtain ⟨X424, hS424, hZ424, hown424⟩ := rebS hS422 (Nat.le_refl _) X424_ hS424_ hg424_ hZ422 hown422
    obtain ⟨t424, tb424, rfl, Nq424, E424, S424⟩ := hQ424
    have N424 := Fr.app N422 Nq424
    have R424 := R422.trans CR424
    have Ex425 : Ext h0 T424.heap := Ex423.tr E424
    refine R2 st424 ?_
    show Rch p e below T424 (mkF m 44 #[vI p0, vI p1, vI p2, vI p3, vI (0 : Int32), vI c0, vI c1, vI c2, vR t422, .unset, .unset, .unset, .unset, .unset] [(.ref t424)]) _
    obtain ⟨rs, hrs⟩ : ∃ z, z = ([34] ++ escL ([] : List Int32) ++ [34]) := ⟨_, rfl⟩
    rw [← hrs] at S424
    have SX : StrA Z T424.heap t424 rs := S424.strA (by rw [hrs]; exact q_bd _)
    have hln : rs.length ≤ 20 := by rw [hrs]; exact q_len _ (Nat.le_of_ble_eq_true rfl)
    have hpo : 1 ≤ rs.length := by rw [hrs]; exact q_pos _
    refine R1 (XS.astore X424.here hx rfl (dq (dg dlw 27 rfl)) rfl rfl (l' := #[vI p0, vI p1, vI p2, vI p3, vI (0 : Int32), vI c0, vI c1, vI c2, vR t422, vR t424, .unset, .unset, .unset, .unset]) rfl) ?_
    refine R1 (XS.iload X424.here hx rfl (dq (dg dlw 28 rfl)) rfl) ?_
    refine R1 (XS.ifYes X424.here hx rfl (pc0 := 48) (pc' := 59) rfl (dq (dg dlw 29 rfl)) rfl (by decide : ifCond.holds .le (0 : Int32) = true) (by decide) (by decide)) ?_
    refine R1 (XS.iconst X424.here hx rfl (dq (dg dlw 33 rfl)) ) ?_
    refine R1 (XS.istore X424.here hx rfl (dq (dg dlw 34 rfl)) rfl (l' := #[vI p0, vI p1, vI p2, vI p3, vI (0 : Int32), vI c0, vI c1, vI c2, vR t422, vR t424, vI (0 : Int32), .unset, .unset, .unset]) rfl) ?_
    refine R1 (XS.iload X424.here hx rfl (dq (dg dlw 35 rfl)) rfl) ?_
    refine R1 (XS.iconst X424.here hx rfl (dq (dg dlw 36 rfl)) ) ?_
    refine R1 (XS.icmpYes X424.here hx rfl (pc0 := 65) (pc' := 76) rfl (dq (dg dlw 37 rfl)) rfl (by decide : if_icmp.holds .le (0 : Int32) (1 : Int32) = true) (by decide) (by decide)) ?_
    refine R1 (XS.iconst X424.here hx rfl (dq (dg dlw 41 rfl)) ) ?_
    refine R1 (XS.istore X424.here hx rfl (dq (dg dlw 42 rfl)) rfl (l' := #[vI p0, vI p1, vI p2, vI p3, vI (0 : Int32), vI c0, vI c1, vI c2, vR t422, vR t424, vI (0 : Int32), vI (0 : Int32), .unset, .unset]) rfl) ?_
    refine R1 (XS.iload X424.here hx rfl (dq (dg dlw 43 rfl)) rfl) ?_
    refine R1 (XS.iconst X424.here hx rfl (dq (dg dlw 44 rfl)) ) ?_
    refine R1 (XS.icmpYes X424.here hx rfl (pc0 := 82) (pc' := 93) rfl (dq (dg dlw 45 rfl)) rfl (by decide : if_icmp.holds .le (0 : Int32) (2 : Int32) = true) (by decide) (by decide)) ?_
    show Rch p e below T424 (mkF m 93 #[vI p0, vI p1, vI p2, vI p3, vI (0 : Int32), vI c0, vI c1, vI c2, vR t422, vR t424, vI (0 : Int32), vI (0 : Int32), .unset, .unset] []) _
    refine R1 (XS.iconst X424.here hx rfl (dq (dg dlw 49 rfl)) ) ?_
    refine R1 (XS.istore X424.here hx rfl (dq (dg dlw 50 rfl)) rfl (l' := #[vI p0, vI p1, vI p2, vI p3, vI (0 : Int32), vI c0, vI c1, vI c2, vR t422, vR t424, vI (0 : Int32), vI (0 : Int32), vI (0 : Int32), .unset]) rfl) ?_
    refine R1 (XS.iconst X424.here hx rfl (dq (dg dlw 51 rfl)) ) ?_
    refine R1 (XS.iload X424.here hx rfl (dq (dg dlw 52 rfl)) rfl) ?_
    refine R1 (XS.iadd X424.here hx rfl (dq (dg dlw 53 rfl)) rfl) ?_
    refine R1 (XS.iload X424.here hx rfl (dq (dg dlw 54 rfl)) rfl) ?_
    refine R1 (XS.iadd X424.here hx rfl (dq (dg dlw 55 rfl)) rfl) ?_
    refine R1 (XS.iload X424.here hx rfl (dq (dg dlw 56 rfl)) rfl) ?_
    refine R1 (XS.iadd X424.here hx rfl (dq (dg dlw 57 rfl)) rfl) ?_
    show Rch p e below T424 (mkF m 106 #[vI p0, vI p1, vI p2, vI p3, vI (0 : Int32), vI c0, vI c1, vI c2, vR t422, vR t424, vI (0 : Int32), vI (0 : Int32), vI (0 : Int32), .unset] [(.int ((((2 : Int32) + (0 : Int32)) + (0 : Int32)) + (0 : Int32)))]) _
    rw [(show ((((2 : Int32) + (0 : Int32)) + (0 : Int32)) + (0 : Int32)) = Int32.ofNat rs.length from by rw [hrs]; exact qlen_0 )]
    show Rch p e below T424 (mkF m 106 #[vI p0, vI p1, vI p2, vI p3, vI (0 : Int32), vI c0, vI c1, vI c2, vR t422, vR t424, vI (0 : Int32), vI (0 : Int32), vI (0 : Int32), .unset] [(.int (Int32.ofNat rs.length))]) _
    refine R1 (XS.istore X424.here hx rfl (dq (dg dlw 58 rfl)) rfl (l' := #[vI p0, vI p1, vI p2, vI p3, vI (0 : Int32), vI c0, vI c1, vI c2, vR t422, vR t424, vI (0 : Int32), vI (0 : Int32), vI (0 : Int32), vI (Int32.ofNat rs.length)]) rfl) ?_
    refine R1 (XS.aload X424.here hx rfl (dq (dg dlw 59 rfl)) rfl rfl) ?_
    show Rch p e below T424 (mkF m 110 #[vI p0, vI p1, vI p2, vI p3, vI (0 : Int32), vI c0, vI c1, vI c2, vR t422, vR t424, vI (0 : Int32), vI (0 : Int32), vI (0 : Int32), vI (Int32.ofNat rs.length)] [(.ref t424)]) _
    obtain ⟨cq427, kq427, q427a, q427b, q427c⟩ := isOf hZ424 rfl (SX).exa
    obtain ⟨_, _, ⟨T427, L427, k427, n427⟩, -, X427, ⟨Lc427, hQ427, l427, y427, z427⟩, st427⟩ := X424.virtualBack hx (y := mN31) (z := mN31) hown424 (mw hZ424 hw 128 rfl) (mw hZ424 hw 35 rfl) (notFace_of_selects (args := #[]) (mw hZ424 hw 37 rfl)) (mw hZ424 hw 37 rfl) (mw hZ424 hw 36 rfl) (by decide) (lenS (W := 0) hZ424 hw SX (B.ext Ex425).1 (by omega) (by decide) (by decide)) q427a q427c (g := (mkF m 110 #[vI p0, vI p1, vI p2, vI p3, vI (0 : Int32), vI c0, vI c1, vI c2, vR t422, vR t424, vI (0 : Int32), vI (0 : Int32), vI (0 : Int32), vI (Int32.ofNat rs.length)] [(.ref t424)])) rfl (by rw [hml]; rfl) (Steps.refl _) (argsL := []) (rest := []) (lenOf pd_17 rfl) rfl (w0 rfl) (dq (dg dlw 60 rfl)) (fun _ _ => ⟨rfl, rfl, (by decide : 39 + 0 ≤ _), (by decide : 988 + 0 ≤ _)⟩)
    dsimp only [Pt.U, Pt.locs, Pt.cells, Pt.slots] at X427 l427 y427 z427 st427 hQ427
    subst l427 y427 z427
    obtain ⟨rfl, hL427, e427⟩ := hQ427
    subst hL427
    have Nq427 := Fr.nil n0
    have N427 := Fr.app N424 Nq427
    refine R2 st427 ?_
    show Rch p e below T427 (mkF m 113 #[vI p0, vI p1, vI p2, vI p3, vI (0 : Int32), vI c0, vI c1, vI c2, vR t422, vR t424, vI (0 : Int32), vI (0 : Int32), vI (0 : Int32), vI (Int32.ofNat rs.length)] [(.int (Int32.ofNat rs.length))]) _
    refine R1 (XS.iload X427.here hx rfl (dq (dg dlw 61 rfl)) rfl) ?_
    refine R1 (XS.icmpYes X427.here hx rfl (pc0 := 115) (pc' := 120) rfl (dq (dg dlw 62 rfl)) rfl (teq (rfl : Int32.ofNat rs.length = Int32.ofNat rs.length)).1 (by decide) (by decide)) ?_
    refine R1 (XS.aload X427.here hx rfl (dq (dg dlw 63 rfl)) rfl rfl) ?_
    refine R1 (XS.iconst X427.here hx rfl (dq (dg dlw 64 rfl)) ) ?_
    show Rch p e below T427 (mkF m 123 #[vI p0, vI p1, vI p2, vI p3, vI (0 : Int32), vI c0, vI c1, vI c2, vR t422, vR t424, vI (0 : Int32), vI (0 : Int32), vI (0 : Int32), vI (Int32.ofNat rs.length)] [(.int (0 : Int32)), (.ref t424)]) _
    obtain ⟨cq428, kq428, q428a, q428b, q428c⟩ := isOf hZ424 e427 (SX).exa
    obtain ⟨_, _, ⟨T428, L428, k428, n428⟩, -, X428, ⟨Lc428, hQ428, l428, y428, z428⟩, st428⟩ := X427.virtualBack hx (y := mN7) (z := mN7) hown424 (mw hZ424 hw 129 rfl) (mw hZ424 hw 130 rfl) (notFace_of_selects (args := #[]) (mw hZ424 hw 132 rfl)) (mw hZ424 hw 132 rfl) (mw hZ424 hw 131 rfl) (by decide) (chS (W := 0) hZ424 hw SX (B.ext Ex425) 0 (by omega) (by omega) n0 (Nat.le_trans Z0 Ex425.1) (by decide) (by decide)) q428a q428c (g := (mkF m 123 #[vI p0, vI p1, vI p2, vI p3, vI (0 : Int32), vI c0, vI c1, vI c2, vR t422, vR t424, vI (0 : Int32), vI (0 : Int32), vI (0 : Int32), vI (Int32.ofNat rs.length)] [(.int (0 : Int32)), (.ref t424)])) rfl (by rw [hml]; rfl) (Steps.refl _) (argsL := [(.int (0 : Int32))]) (rest := []) (lenOf pd_29 rfl) rfl (w0 rfl) (dq (dg dlw 65 rfl)) (fun _ _ => ⟨rfl, e427, (by decide : 39 + 0 ≤ _), (by decide : 988 + 0 ≤ _)⟩)
    dsimp only [Pt.U, Pt.locs, Pt.cells, Pt.slots] at X428 l428 y428 z428 st428 hQ428
    subst l428 y428 z428
    obtain ⟨rfl, Nq428, e428⟩ := hQ428
    have N428 := Fr.app N427 Nq428
    refine R2 st428 ?_
    show Rch p e below T428 (mkF m 126 #[vI p0, vI p1, vI p2, vI p3, vI (0 : Int32), vI c0, vI c1, vI c2, vR t422, vR t424, vI (0 : Int32), vI (0 : Int32), vI (0 : Int32), vI (Int32.ofNat rs.length)] [(.int (rs.getD 0 0))]) _
    rw [(show rs.getD 0 0 = (34 : Int32) from by rw [hrs]; rfl)]
    show Rch p e below T428 (mkF m 126 #[vI p0, vI p1, vI p2, vI p3, vI (0 : Int32), vI c0, vI c1, vI c2, vR t422, vR t424, vI (0 : Int32), vI (0 : Int32), vI (0 : Int32), vI (Int32.ofNat rs.length)] [(.int (34 : Int32))]) _
    refine R1 (XS.bipush X428.here hx rfl (dq (dg dlw 66 rfl)) ) ?_
    refine R1 (XS.icmpNo X428.here hx rfl (dq (dg dlw 67 rfl)) rfl (by decide : if_icmp.holds .ne (34 : Int32) (34 : Int32) = false)) ?_
    refine R1 (XS.aload X428.here hx rfl (dq (dg dlw 68 rfl)) rfl rfl) ?_
    refine R1 (XS.iload X428.here hx rfl (dq (dg dlw 69 rfl)) rfl) ?_
    refine R1 (XS.iconst X428.here hx rfl (dq (dg dlw 70 rfl)) ) ?_
    refine R1 (XS.isub X428.here hx rfl (dq (dg dlw 71 rfl)) rfl) ?_
    show Rch p e below T428 (mkF m 137 #[vI p0, vI p1, vI p2, vI p3, vI (0 : Int32), vI c0, vI c1, vI c2, vR t422, vR t424, vI (0 : Int32), vI (0 : Int32), vI (0 : Int32), vI (Int32.ofNat rs.length)] [(.int ((Int32.ofNat rs.length) - (1 : Int32))), (.ref t424)]) _
    rw [(show Int32.ofNat rs.length - (1 : Int32) = Int32.ofNat (rs.length - 1) from ofN_sub hpo (by omega))]
    show Rch p e below T428 (mkF m 137 #[vI p0, vI p1, vI p2, vI p3, vI (0 : Int32), vI c0, vI c1, vI c2, vR t422, vR t424, vI (0 : Int32), vI (0 : Int32), vI (0 : Int32), vI (Int32.ofNat rs.length)] [(.int (Int32.ofNat (rs.length - 1))), (.ref t424)]) _
    obtain ⟨cq429, kq429, q429a, q429b, q429c⟩ := isOf hZ424 e428 (SX).exa
    obtain ⟨_, _, ⟨T429, L429, k429, n429⟩, -, X429, ⟨Lc429, hQ429, l429, y429, z429⟩, st429⟩ := X428.virtualBack hx (y := mN7) (z := mN7) hown424 (mw hZ424 hw 129 rfl) (mw hZ424 hw 130 rfl) (notFace_of_selects (args := #[]) (mw hZ424 hw 132 rfl)) (mw hZ424 hw 132 rfl) (mw hZ424 hw 131 rfl) (by decide) (chS (W := 0) hZ424 hw SX (B.ext Ex425) (rs.length - 1) (by omega) (by omega) n0 (Nat.le_trans Z0 Ex425.1) (by decide) (by decide)) q429a q429c (g := (mkF m 137 #[vI p0, vI p1, vI p2, vI p3, vI (0 : Int32), vI c0, vI c1, vI c2, vR t422, vR t424, vI (0 : Int32), vI (0 : Int32), vI (0 : Int32), vI (Int32.ofNat rs.length)] [(.int (Int32.ofNat (rs.length - 1))), (.ref t424)])) rfl (by rw [hml]; rfl) (Steps.refl _) (argsL := [(.int (Int32.ofNat (rs.length - 1)))]) (rest := []) (lenOf pd_29 rfl) rfl (w0 rfl) (dq (dg dlw 72 rfl)) (fun _ _ => ⟨rfl, e428, (by decide : 39 + 0 ≤ _), (by decide : 988 + 0 ≤ _)⟩)
    dsimp only [Pt.U, Pt.locs, Pt.cells, Pt.slots] at X429 l429 y429 z429 st429 hQ429
    subst l429 y429 z429
    obtain ⟨rfl, Nq429, e429⟩ := hQ429
    have N429 := Fr.app N428 Nq429
    refine R2 st429 ?_
    show Rch p e below T429 (mkF m 140 #[vI p0, vI p1, vI p2, vI p3, vI (0 : Int32), vI c0, vI c1, vI c2, vR t422, vR t424, vI (0 : Int32), vI (0 : Int32), vI (0 : Int32), vI (Int32.ofNat rs.length)] [(.int (rs.getD (rs.length - 1) 0))]) _
    rw [(show rs.getD (rs.length - 1) 0 = (34 : Int32) from by rw [hrs]; exact q_last _)]
    show Rch p e below T429 (mkF m 140 #[vI p0, vI p1, vI p2, vI p3, vI (0 : Int32), vI c0, vI c1, vI c2, vR t422, vR t424, vI (0 : Int32), vI (0 : Int32), vI (0 : Int32), vI (Int32.ofNat rs.length)] [(.int (34 : Int32))]) _
    refine R1 (XS.bipush X429.here hx rfl (dq (dg dlw 73 rfl)) ) ?_
    refine R1 (XS.icmpYes X429.here hx rfl (pc0 := 142) (pc' := 147) rfl (dq (dg dlw 74 rfl)) rfl (by decide : if_icmp.holds .eq (34 : Int32) (34 : Int32) = true) (by decide) (by decide)) ?_
    refine R1 (XS.iload X429.here hx rfl (dq (dg dlw 75 rfl)) rfl) ?_
    refine R1 (XS.ifYes X429.here hx rfl (pc0 := 149) (pc' := 165) rfl (dq (dg dlw 76 rfl)) rfl (by decide : ifCond.holds .le (0 : Int32) = true) (by decide) (by decide)) ?_
    refine R1 (XS.iload X429.here hx rfl (dq (dg dlw 82 rfl)) rfl) ?_
    refine R1 (XS.iconst X429.here hx rfl (dq (dg dlw 83 rfl)) ) ?_
    refine R1 (XS.icmpYes X429.here hx rfl (pc0 := 168) (pc' := 187) rfl (dq (dg dlw 84 rfl)) rfl (by decide : if_icmp.holds .le (0 : Int32) (1 : Int32) = true) (by decide) (by decide)) ?_
    refine R1 (XS.iload X429.here hx rfl (dq (dg dlw 92 rfl)) rfl) ?_
    refine R1 (XS.iconst X429.here hx rfl (dq (dg dlw 93 rfl)) ) ?_
    refine R1 (XS.icmpYes X429.here hx rfl (pc0 := 190) (pc' := 212) rfl (dq (dg dlw 94 rfl)) rfl (by decide : if_icmp.holds .le (0 : Int32) (2 : Int32) = true) (by decide) (by decide)) ?_
    refine R1 (XS.iconst X429.here hx rfl (dq (dg dlw 104 rfl)) ) ?_
    show Rch p e below T429 (mkF m 213 #[vI p0, vI p1, vI p2, vI p3, vI (0 : Int32), vI c0, vI c1, vI c2, vR t422, vR t424, vI (0 : Int32), vI (0 : Int32), vI (0 : Int32), vI (Int32.ofNat rs.length)] [(.int (1 : Int32))]) _
    exact Rch.finW (Q := Q_law Z p0 p1 p2 p3 fm h0 n0) X429 hZ424 hEL hS424 (by rw [e429]; exact (Nat.le_refl _)) e429 R424 (v := some (.int (1 : Int32))) (fun h => by rw [Bd.returns] at h; cases h) (BodyLoose.notSynchronized Bd) (fun fs hr => retN X429 hx (t := .boolean) Bd.returns (by simp) (dq (dg dlw 105 rfl)) hr) (by rw [e429]; exact ⟨rfl, N429⟩) (by decide) (by decide)
  · skip
    rw [hn]
    show Rch p e below s₁ (mkF m 3 #[vI p0, vI p1, vI p2, vI p3, .unset, .unset, .unset, .unset, .unset, .unset, .unset, .unset, .unset, .unset] [(.int (1 : Int32))]) _
    refine R1 (XS.istore X0.here hx rfl (dq (dg dlw 3 rfl)) rfl (l' := #[vI p0, vI p1, vI p2, vI p3, vI (1 : Int32), .unset, .unset, .unset, .unset, .unset, .unset, .unset, .unset, .unset]) rfl) ?_
    refine R1 (XS.iloadN X0.here hx rfl (dq (dg dlw 4 rfl)) rfl) ?_
    show Rch p e below s₁ (mkF m 6 #[vI p0, vI p1, vI p2, vI p3, vI (1 : Int32), .unset, .unset, .unset, .unset, .unset, .unset, .unset, .unset, .unset] [(.int p1)]) _
    refine R0_ (X0.ldcInt hx hown (mw hZ hw 0 rfl) (g := (mkF m 6 #[vI p0, vI p1, vI p2, vI p3, vI (1 : Int32), .unset, .unset, .unset, .unset, .unset, .unset, .unset, .unset, .unset] [(.int p1)])) rfl (dq (dg dlw 5 rfl))) ?_
    show Rch p e below s₁ (mkF m 8 #[vI p0, vI p1, vI p2, vI p3, vI (1 : Int32), .unset, .unset, .unset, .unset, .unset, .unset, .unset, .unset, .unset] [(.int (65535 : Int32)), (.int p1)]) _
    refine R1 (XS.iand X0.here hx rfl (dq (dg dlw 6 rfl)) rfl) ?_
    refine R1 (XT.i2c X0.here hx rfl (dq (dg dlw 7 rfl)) rfl) ?_
    show Rch p e below s₁ (mkF m 10 #[vI p0, vI p1, vI p2, vI p3, vI (1 : Int32), .unset, .unset, .unset, .unset, .unset, .unset, .unset, .unset, .unset] [(.int ((p1 &&& (65535 : Int32)).toUInt32.toUInt16.toUInt32.toInt32))]) _
    generalize hc0 : ((p1 &&& (65535 : Int32)).toUInt32.toUInt16.toUInt32.toInt32) = c0
    have k0 : C16 c0 := hc0 ▸ c16_i2c _
    show Rch p e below s₁ (mkF m 10 #[vI p0, vI p1, vI p2, vI p3, vI (1 : Int32), .unset, .unset, .unset, .unset, .unset, .unset, .unset, .unset, .unset] [(.int c0)]) _
    refine R1 (XS.istore X0.here hx rfl (dq (dg dlw 8 rfl)) rfl (l' := #[vI p0, vI p1, vI p2, vI p3, vI (1 : Int32), vI c0, .unset, .unset, .unset, .unset, .unset, .unset, .unset, .unset]) rfl) ?_
    refine R1 (XS.iloadN X0.here hx rfl (dq (dg dlw 9 rfl)) rfl) ?_
    show Rch p e below s₁ (mkF m 13 #[vI p0, vI p1, vI p2, vI p3, vI (1 : Int32), vI c0, .unset, .unset, .unset, .unset, .unset, .unset, .unset, .unset] [(.int p2)]) _
    refine R0_ (X0.ldcInt hx hown (mw hZ hw 0 rfl) (g := (mkF m 13 #[vI p0, vI p1, vI p2, vI p3, vI (1 : Int32), vI c0, .unset, .unset, .unset, .unset, .unset, .unset, .unset, .unset] [(.int p2)])) rfl (dq (dg dlw 10 rfl))) ?_
    show Rch p e below s₁ (mkF m 15 #[vI p0, vI p1, vI p2, vI p3, vI (1 : Int32), vI c0, .unset, .unset, .unset, .unset, .unset, .unset, .unset, .unset] [(.int (65535 : Int32)), (.int p2)]) _
    refine R1 (XS.iand X0.here hx rfl (dq (dg dlw 11 rfl)) rfl) ?_
    refine R1 (XT.i2c X0.here hx rfl (dq (dg dlw 12 rfl)) rfl) ?_
    show Rch p e below s₁ (mkF m 17 #[vI p0, vI p1, vI p2, vI p3, vI (1 : Int32), vI c0, .unset, .unset, .unset, .unset, .unset, .unset, .unset, .unset] [(.int ((p2 &&& (65535 : Int32)).toUInt32.toUInt16.toUInt32.toInt32))]) _
    generalize hc1 : ((p2 &&& (65535 : Int32)).toUInt32.toUInt16.toUInt32.toInt32) = c1
    have k1 : C16 c1 := hc1 ▸ c16_i2c _
    show Rch p e below s₁ (mkF m 17 #[vI p0, vI p1, vI p2, vI p3, vI (1 : Int32), vI c0, .unset, .unset, .unset, .unset, .unset, .unset, .unset, .unset] [(.int c1)]) _
    refine R1 (XS.istore X0.here hx rfl (dq (dg dlw 13 rfl)) rfl (l' := #[vI p0, vI p1, vI p2, vI p3, vI (1 : Int32), vI c0, vI c1, .unset, .unset, .unset, .unset, .unset, .unset, .unset]) rfl) ?_
    refine R1 (XS.iloadN X0.here hx rfl (dq (dg dlw 14 rfl)) rfl) ?_
    show Rch p e below s₁ (mkF m 20 #[vI p0, vI p1, vI p2, vI p3, vI (1 : Int32), vI c0, vI c1, .unset, .unset, .unset, .unset, .unset, .unset, .unset] [(.int p3)]) _
    refine R0_ (X0.ldcInt hx hown (mw hZ hw 0 rfl) (g := (mkF m 20 #[vI p0, vI p1, vI p2, vI p3, vI (1 : Int32), vI c0, vI c1, .unset, .unset, .unset, .unset, .unset, .unset, .unset] [(.int p3)])) rfl (dq (dg dlw 15 rfl))) ?_
    show Rch p e below s₁ (mkF m 22 #[vI p0, vI p1, vI p2, vI p3, vI (1 : Int32), vI c0, vI c1, .unset, .unset, .unset, .unset, .unset, .unset, .unset] [(.int (65535 : Int32)), (.int p3)]) _
    refine R1 (XS.iand X0.here hx rfl (dq (dg dlw 16 rfl)) rfl) ?_
    refine R1 (XT.i2c X0.here hx rfl (dq (dg dlw 17 rfl)) rfl) ?_
    show Rch p e below s₁ (mkF m 24 #[vI p0, vI p1, vI p2, vI p3, vI (1 : Int32), vI c0, vI c1, .unset, .unset, .unset, .unset, .unset, .unset, .unset] [(.int ((p3 &&& (65535 : Int32)).toUInt32.toUInt16.toUInt32.toInt32))]) _
    generalize hc2 : ((p3 &&& (65535 : Int32)).toUInt32.toUInt16.toUInt32.toInt32) = c2
    have k2 : C16 c2 := hc2 ▸ c16_i2c _
    show Rch p e below s₁ (mkF m 24 #[vI p0, vI p1, vI p2, vI p3, vI (1 : Int32), vI c0, vI c1, .unset, .unset, .unset, .unset, .unset, .unset, .unset] [(.int c2)]) _
    refine R1 (XS.istore X0.here hx rfl (dq (dg dlw 18 rfl)) rfl (l' := #[vI p0, vI p1, vI p2, vI p3, vI (1 : Int32), vI c0, vI c1, vI c2, .unset, .unset, .unset, .unset, .unset, .unset]) rfl) ?_
    refine R1 (XS.iload X0.here hx rfl (dq (dg dlw 19 rfl)) rfl) ?_
    refine R1 (XS.iload X0.here hx rfl (dq (dg dlw 20 rfl)) rfl) ?_
    refine R1 (XS.iload X0.here hx rfl (dq (dg dlw 21 rfl)) rfl) ?_
    refine R1 (XS.iload X0.here hx rfl (dq (dg dlw 22 rfl)) rfl) ?_
    show Rch p e below s₁ (mkF m 34 #[vI p0, vI p1, vI p2, vI p3, vI (1 : Int32), vI c0, vI c1, vI c2, .unset, .unset, .unset, .unset, .unset, .unset] [(.int c2), (.int c1), (.int c0), (.int (1 : Int32))]) _
    obtain ⟨_, _, ⟨T430, L430, k430, n430⟩, -, X430_, hS430_, hg430_, ⟨Lc430, hQ430, l430, y430, z430, CR430⟩, st430⟩ := callSS X0 hx (y := mN51) hown (mw hZ hw 1 rfl) (mw hZ hw 2 rfl) (mw hZ hw 3 rfl) (mw hZ hw 4 rfl) (by decide) (backOfSH (W := 0) (rm_text1 l Z a0 hw [] c0 c1 c2 fm h0 n0 Z0 B k0 k1 k2) hZ (wq hw 4 rfl) (wq hw 3 rfl) (by decide) (by decide) hEL R0.1) (g := (mkF m 34 #[vI p0, vI p1, vI p2, vI p3, vI (1 : Int32), vI c0, vI c1, vI c2, .unset, .unset, .unset, .unset, .unset, .unset] [(.int c2), (.int c1), (.int c0), (.int (1 : Int32))])) rfl (by rw [hml]; rfl) (argsL := [(.int (1 : Int32)), (.int c0), (.int c1), (.int c2)]) (rest := []) (lenOf pd_36 rfl) rfl (w0 rfl) (dq (dg dlw 23 rfl)) (fun _ _ => ⟨rfl, e0, (by decide : 0 + 4 ≤ _), (by decide : 0 + 14 ≤ _)⟩)
    dsimp only [Pt.U, Pt.locs, Pt.cells, Pt.slots] at X430_ hS430_ hg430_ l430 y430 z430 st430 hQ430 CR430
    subst l430 y430 z430
    obtain ⟨X430, hS430, hZ430, hown430⟩ := rebS hS0 (by rw [e0]; exact (Nat.zero_le _)) X430_ hS430_ hg430_ hZ hown
    obtain ⟨t430, rfl, Nq430, E430, S430⟩ := hQ430
    have N430 := Fr.app N0 Nq430
    have R430 := R0.trans CR430
    have Ex431 : Ext h0 T430.heap := E430
    refine R2 st430 ?_
    show Rch p e below T430 (mkF m 37 #[vI p0, vI p1, vI p2, vI p3, vI (1 : Int32), vI c0, vI c1, vI c2, .unset, .unset, .unset, .unset, .unset, .unset] [(.ref t430)]) _
    refine R1 (XS.astore X430.here hx rfl (dq (dg dlw 24 rfl)) rfl rfl (l' := #[vI p0, vI p1, vI p2, vI p3, vI (1 : Int32), vI c0, vI c1, vI c2, vR t430, .unset, .unset, .unset, .unset, .unset]) rfl) ?_
    refine R1 (XS.aload X430.here hx rfl (dq (dg dlw 25 rfl)) rfl rfl) ?_
    show Rch p e below T430 (mkF m 41 #[vI p0, vI p1, vI p2, vI p3, vI (1 : Int32), vI c0, vI c1, vI c2, vR t430, .unset, .unset, .unset, .unset, .unset] [(.ref t430)]) _
    obtain ⟨_, _, ⟨T432, L432, k432, n432⟩, -, X432_, hS432_, hg432_, ⟨Lc432, hQ432, l432, y432, z432, CR432⟩, st432⟩ := callSS X430 hx (y := mN47) hown430 (mw hZ430 hw 27 rfl) (mw hZ430 hw 28 rfl) (mw hZ430 hw 29 rfl) (mw hZ430 hw 30 rfl) (by decide) (backOfSH (W := 0) (rm_outr l Z a0 hw [] t430 ([c0] : List Int32) fm T430.heap n0 (Nat.le_trans Z0 Ex431.1) S430 (B.ext Ex431) (Nat.le_of_ble_eq_true rfl)) hZ430 (wq hw 30 rfl) (wq hw 29 rfl) (by decide) (by decide) hEL R430.1) (g := (mkF m 41 #[vI p0, vI p1, vI p2, vI p3, vI (1 : Int32), vI c0, vI c1, vI c2, vR t430, .unset, .unset, .unset, .unset, .unset] [(.ref t430)])) rfl (by rw [hml]; rfl) (argsL := [(.ref t430)]) (rest := []) (lenOf pd_37 rfl) rfl (w0 rfl) (dq (dg dlw 26 rfl)) (fun _ _ => ⟨rfl, rfl, (by decide : 4 + 33 ≤ _), (by decide : 14 + 976 ≤ _)⟩)
    dsimp only [Pt.U, Pt.locs, Pt.cells, Pt.slots] at X432_ hS432_ hg432_ l432 y432 z432 st432 hQ432 CR432
    subst l432 y432 z432
    obtain ⟨X432, hS432, hZ432, hown432⟩ := rebS hS430 (Nat.le_refl _) X432_ hS432_ hg432_ hZ430 hown430
    obtain ⟨t432, tb432, rfl, Nq432, E432, S432⟩ := hQ432
    have N432 := Fr.app N430 Nq432
    have R432 := R430.trans CR432
    have Ex433 : Ext h0 T432.heap := Ex431.tr E432
    refine R2 st432 ?_
    show Rch p e below T432 (mkF m 44 #[vI p0, vI p1, vI p2, vI p3, vI (1 : Int32), vI c0, vI c1, vI c2, vR t430, .unset, .unset, .unset, .unset, .unset] [(.ref t432)]) _
    obtain ⟨rs, hrs⟩ : ∃ z, z = ([34] ++ escL ([c0] : List Int32) ++ [34]) := ⟨_, rfl⟩
    rw [← hrs] at S432
    have SX : StrA Z T432.heap t432 rs := S432.strA (by rw [hrs]; exact q_bd _)
    have hln : rs.length ≤ 20 := by rw [hrs]; exact q_len _ (Nat.le_of_ble_eq_true rfl)
    have hpo : 1 ≤ rs.length := by rw [hrs]; exact q_pos _
    refine R1 (XS.astore X432.here hx rfl (dq (dg dlw 27 rfl)) rfl rfl (l' := #[vI p0, vI p1, vI p2, vI p3, vI (1 : Int32), vI c0, vI c1, vI c2, vR t430, vR t432, .unset, .unset, .unset, .unset]) rfl) ?_
    refine R1 (XS.iload X432.here hx rfl (dq (dg dlw 28 rfl)) rfl) ?_
    refine R1 (XS.ifNo X432.here hx rfl (dq (dg dlw 29 rfl)) rfl (by decide : ifCond.holds .le (1 : Int32) = false)) ?_
    refine R1 (XS.iload X432.here hx rfl (dq (dg dlw 30 rfl)) rfl) ?_
    show Rch p e below T432 (mkF m 53 #[vI p0, vI p1, vI p2, vI p3, vI (1 : Int32), vI c0, vI c1, vI c2, vR t430, vR t432, .unset, .unset, .unset, .unset] [(.int c0)]) _
    obtain ⟨_, _, ⟨T435, L435, k435, n435⟩, -, X435, ⟨Lc435, hQ435, l435, y435, z435⟩, st435⟩ := Jvm.LawKit.callS X432 hx (y := mN48) hown432 (mw hZ432 hw 224 rfl) (mw hZ432 hw 225 rfl) (mw hZ432 hw 3 rfl) (mw hZ432 hw 226 rfl) (by decide) (backOf (W := 0) (rm_elen l Z a0 hw [] c0 T432.heap n0 (Nat.le_trans Z0 Ex433.1)) hZ432 (wq hw 226 rfl) (wq hw 3 rfl) (by decide) (by decide)) (g := (mkF m 53 #[vI p0, vI p1, vI p2, vI p3, vI (1 : Int32), vI c0, vI c1, vI c2, vR t430, vR t432, .unset, .unset, .unset, .unset] [(.int c0)])) rfl (by rw [hml]; rfl) (argsL := [(.int c0)]) (rest := []) (lenOf pd_38 rfl) rfl (w0 rfl) (dq (dg dlw 31 rfl)) (fun _ _ => ⟨rfl, rfl, (by decide : 37 + 0 ≤ _), (by decide : 990 + 0 ≤ _)⟩)
    dsimp only [Pt.U, Pt.locs, Pt.cells, Pt.slots] at X435 l435 y435 z435 st435 hQ435
    subst l435 y435 z435
    obtain ⟨rfl, Nq435, e435⟩ := hQ435
    have N435 := Fr.app N432 Nq435
    refine R0_ st435 ?_
    show Rch p e below T435 (mkF m 56 #[vI p0, vI p1, vI p2, vI p3, vI (1 : Int32), vI c0, vI c1, vI c2, vR t430, vR t432, .unset, .unset, .unset, .unset] [(.int (Int32.ofNat (esc1 c0).length))]) _
    refine R1 (XS.goto X435.here hx rfl (pc0 := 56) (pc' := 60) rfl (dq (dg dlw 32 rfl)) (by decide) (by decide)) ?_
    refine R1 (XS.istore X435.here hx rfl (dq (dg dlw 34 rfl)) rfl (l' := #[vI p0, vI p1, vI p2, vI p3, vI (1 : Int32), vI c0, vI c1, vI c2, vR t430, vR t432, vI (Int32.ofNat (esc1 c0).length), .unset, .unset, .unset]) rfl) ?_
    refine R1 (XS.iload X435.here hx rfl (dq (dg dlw 35 rfl)) rfl) ?_
    refine R1 (XS.iconst X435.here hx rfl (dq (dg dlw 36 rfl)) ) ?_
    refine R1 (XS.icmpYes X435.here hx rfl (pc0 := 65) (pc' := 76) rfl (dq (dg dlw 37 rfl)) rfl (by decide : if_icmp.holds .le (1 : Int32) (1 : Int32) = true) (by decide) (by decide)) ?_
    refine R1 (XS.iconst X435.here hx rfl (dq (dg dlw 41 rfl)) ) ?_
    refine R1 (XS.istore X435.here hx rfl (dq (dg dlw 42 rfl)) rfl (l' := #[vI p0, vI p1, vI p2, vI p3, vI (1 : Int32), vI c0, vI c1, vI c2, vR t430, vR t432, vI (Int32.ofNat (esc1 c0).length), vI (0 : Int32), .unset, .unset]) rfl) ?_
    refine R1 (XS.iload X435.here hx rfl (dq (dg dlw 43 rfl)) rfl) ?_
    refine R1 (XS.iconst X435.here hx rfl (dq (dg dlw 44 rfl)) ) ?_
    refine R1 (XS.icmpYes X435.here hx rfl (pc0 := 82) (pc' := 93) rfl (dq (dg dlw 45 rfl)) rfl (by decide : if_icmp.holds .le (1 : Int32) (2 : Int32) = true) (by decide) (by decide)) ?_
    refine R1 (XS.iconst X435.here hx rfl (dq (dg dlw 49 rfl)) ) ?_
    refine R1 (XS.istore X435.here hx rfl (dq (dg dlw 50 rfl)) rfl (l' := #[vI p0, vI p1, vI p2, vI p3, vI (1 : Int32), vI c0, vI c1, vI c2, vR t430, vR t432, vI (Int32.ofNat (esc1 c0).length), vI (0 : Int32), vI (0 : Int32), .unset]) rfl) ?_
    refine R1 (XS.iconst X435.here hx rfl (dq (dg dlw 51 rfl)) ) ?_
    show Rch p e below T435 (mkF m 97 #[vI p0, vI p1, vI p2, vI p3, vI (1 : Int32), vI c0, vI c1, vI c2, vR t430, vR t432, vI (Int32.ofNat (esc1 c0).length), vI (0 : Int32), vI (0 : Int32), .unset] [(.int (2 : Int32))]) _
    refine R1 (XS.iload X435.here hx rfl (dq (dg dlw 52 rfl)) rfl) ?_
    refine R1 (XS.iadd X435.here hx rfl (dq (dg dlw 53 rfl)) rfl) ?_
    refine R1 (XS.iload X435.here hx rfl (dq (dg dlw 54 rfl)) rfl) ?_
    refine R1 (XS.iadd X435.here hx rfl (dq (dg dlw 55 rfl)) rfl) ?_
    refine R1 (XS.iload X435.here hx rfl (dq (dg dlw 56 rfl)) rfl) ?_
    refine R1 (XS.iadd X435.here hx rfl (dq (dg dlw 57 rfl)) rfl) ?_
    show Rch p e below T435 (mkF m 106 #[vI p0, vI p1, vI p2, vI p3, vI (1 : Int32), vI c0, vI c1, vI c2, vR t430, vR t432, vI (Int32.ofNat (esc1 c0).length), vI (0 : Int32), vI (0 : Int32), .unset] [(.int ((((2 : Int32) + (Int32.ofNat (esc1 c0).length)) + (0 : Int32)) + (0 : Int32)))]) _
    rw [(show ((((2 : Int32) + (Int32.ofNat (esc1 c0).length)) + (0 : Int32)) + (0 : Int32)) = Int32.ofNat rs.length from by rw [hrs]; exact qlen_1 c0)]
    show Rch p e below T435 (mkF m 106 #[vI p0, vI p1, vI p2, vI p3, vI (1 : Int32), vI c0, vI c1, vI c2, vR t430, vR t432, vI (Int32.ofNat (esc1 c0).length), vI (0 : Int32), vI (0 : Int32), .unset] [(.int (Int32.ofNat rs.length))]) _
    refine R1 (XS.istore X435.here hx rfl (dq (dg dlw 58 rfl)) rfl (l' := #[vI p0, vI p1, vI p2, vI p3, vI (1 : Int32), vI c0, vI c1, vI c2, vR t430, vR t432, vI (Int32.ofNat (esc1 c0).length), vI (0 : Int32), vI (0 : Int32), vI (Int32.ofNat rs.length)]) rfl) ?_
    refine R1 (XS.aload X435.here hx rfl (dq (dg dlw 59 rfl)) rfl rfl) ?_
    show Rch p e below T435 (mkF m 110 #[vI p0, vI p1, vI p2, vI p3, vI (1 : Int32), vI c0, vI c1, vI c2, vR t430, vR t432, vI (Int32.ofNat (esc1 c0).length), vI (0 : Int32), vI (0 : Int32), vI (Int32.ofNat rs.length)] [(.ref t432)]) _
    obtain ⟨cq436, kq436, q436a, q436b, q436c⟩ := isOf hZ432 e435 (SX).exa
    obtain ⟨_, _, ⟨T436, L436, k436, n436⟩, -, X436, ⟨Lc436, hQ436, l436, y436, z436⟩, st436⟩ := X435.virtualBack hx (y := mN31) (z := mN31) hown432 (mw hZ432 hw 128 rfl) (mw hZ432 hw 35 rfl) (notFace_of_selects (args := #[]) (mw hZ432 hw 37 rfl)) (mw hZ432 hw 37 rfl) (mw hZ432 hw 36 rfl) (by decide) (lenS (W := 0) hZ432 hw SX (B.ext Ex433).1 (by omega) (by decide) (by decide)) q436a q436c (g := (mkF m 110 #[vI p0, vI p1, vI p2, vI p3, vI (1 : Int32), vI c0, vI c1, vI c2, vR t430, vR t432, vI (Int32.ofNat (esc1 c0).length), vI (0 : Int32), vI (0 : Int32), vI (Int32.ofNat rs.length)] [(.ref t432)])) rfl (by rw [hml]; rfl) (Steps.refl _) (argsL := []) (rest := []) (lenOf pd_17 rfl) rfl (w0 rfl) (dq (dg dlw 60 rfl)) (fun _ _ => ⟨rfl, e435, (by decide : 37 + 0 ≤ _), (by decide : 990 + 0 ≤ _)⟩)
    dsimp only [Pt.U, Pt.locs, Pt.cells, Pt.slots] at X436 l436 y436 z436 st436 hQ436
    subst l436 y436 z436
    obtain ⟨rfl, hL436, e436⟩ := hQ436
    subst hL436
    have Nq436 := Fr.nil n0
    have N436 := Fr.app N435 Nq436
    refine R2 st436 ?_
    show Rch p e below T436 (mkF m 113 #[vI p0, vI p1, vI p2, vI p3, vI (1 : Int32), vI c0, vI c1, vI c2, vR t430, vR t432, vI (Int32.ofNat (esc1 c0).length), vI (0 : Int32), vI (0 : Int32), vI (Int32.ofNat rs.length)] [(.int (Int32.ofNat rs.length))]) _
    refine R1 (XS.iload X436.here hx rfl (dq (dg dlw 61 rfl)) rfl) ?_
    refine R1 (XS.icmpYes X436.here hx rfl (pc0 := 115) (pc' := 120) rfl (dq (dg dlw 62 rfl)) rfl (teq (rfl : Int32.ofNat rs.length = Int32.ofNat rs.length)).1 (by decide) (by decide)) ?_
    refine R1 (XS.aload X436.here hx rfl (dq (dg dlw 63 rfl)) rfl rfl) ?_
    refine R1 (XS.iconst X436.here hx rfl (dq (dg dlw 64 rfl)) ) ?_
    show Rch p e below T436 (mkF m 123 #[vI p0, vI p1, vI p2, vI p3, vI (1 : Int32), vI c0, vI c1, vI c2, vR t430, vR t432, vI (Int32.ofNat (esc1 c0).length), vI (0 : Int32), vI (0 : Int32), vI (Int32.ofNat rs.length)] [(.int (0 : Int32)), (.ref t432)]) _
    obtain ⟨cq437, kq437, q437a, q437b, q437c⟩ := isOf hZ432 e436 (SX).exa
    obtain ⟨_, _, ⟨T437, L437, k437, n437⟩, -, X437, ⟨Lc437, hQ437, l437, y437, z437⟩, st437⟩ := X436.virtualBack hx (y := mN7) (z := mN7) hown432 (mw hZ432 hw 129 rfl) (mw hZ432 hw 130 rfl) (notFace_of_selects (args := #[]) (mw hZ432 hw 132 rfl)) (mw hZ432 hw 132 rfl) (mw hZ432 hw 131 rfl) (by decide) (chS (W := 0) hZ432 hw SX (B.ext Ex433) 0 (by omega) (by omega) n0 (Nat.le_trans Z0 Ex433.1) (by decide) (by decide)) q437a q437c (g := (mkF m 123 #[vI p0, vI p1, vI p2, vI p3, vI (1 : Int32), vI c0, vI c1, vI c2, vR t430, vR t432, vI (Int32.ofNat (esc1 c0).length), vI (0 : Int32), vI (0 : Int32), vI (Int32.ofNat rs.length)] [(.int (0 : Int32)), (.ref t432)])) rfl (by rw [hml]; rfl) (Steps.refl _) (argsL := [(.int (0 : Int32))]) (rest := []) (lenOf pd_29 rfl) rfl (w0 rfl) (dq (dg dlw 65 rfl)) (fun _ _ => ⟨rfl, e436, (by decide : 37 + 0 ≤ _), (by decide : 990 + 0 ≤ _)⟩)
    dsimp only [Pt.U, Pt.locs, Pt.cells, Pt.slots] at X437 l437 y437 z437 st437 hQ437
    subst l437 y437 z437
    obtain ⟨rfl, Nq437, e437⟩ := hQ437
    have N437 := Fr.app N436 Nq437
    refine R2 st437 ?_
    show Rch p e below T437 (mkF m 126 #[vI p0, vI p1, vI p2, vI p3, vI (1 : Int32), vI c0, vI c1, vI c2, vR t430, vR t432, vI (Int32.ofNat (esc1 c0).length), vI (0 : Int32), vI (0 : Int32), vI (Int32.ofNat rs.length)] [(.int (rs.getD 0 0))]) _
    rw [(show rs.getD 0 0 = (34 : Int32) from by rw [hrs]; rfl)]
    show Rch p e below T437 (mkF m 126 #[vI p0, vI p1, vI p2, vI p3, vI (1 : Int32), vI c0, vI c1, vI c2, vR t430, vR t432, vI (Int32.ofNat (esc1 c0).length), vI (0 : Int32), vI (0 : Int32), vI (Int32.ofNat rs.length)] [(.int (34 : Int32))]) _
    refine R1 (XS.bipush X437.here hx rfl (dq (dg dlw 66 rfl)) ) ?_
    refine R1 (XS.icmpNo X437.here hx rfl (dq (dg dlw 67 rfl)) rfl (by decide : if_icmp.holds .ne (34 : Int32) (34 : Int32) = false)) ?_
    refine R1 (XS.aload X437.here hx rfl (dq (dg dlw 68 rfl)) rfl rfl) ?_
    refine R1 (XS.iload X437.here hx rfl (dq (dg dlw 69 rfl)) rfl) ?_
    refine R1 (XS.iconst X437.here hx rfl (dq (dg dlw 70 rfl)) ) ?_
    refine R1 (XS.isub X437.here hx rfl (dq (dg dlw 71 rfl)) rfl) ?_
    show Rch p e below T437 (mkF m 137 #[vI p0, vI p1, vI p2, vI p3, vI (1 : Int32), vI c0, vI c1, vI c2, vR t430, vR t432, vI (Int32.ofNat (esc1 c0).length), vI (0 : Int32), vI (0 : Int32), vI (Int32.ofNat rs.length)] [(.int ((Int32.ofNat rs.length) - (1 : Int32))), (.ref t432)]) _
    rw [(show Int32.ofNat rs.length - (1 : Int32) = Int32.ofNat (rs.length - 1) from ofN_sub hpo (by omega))]
    show Rch p e below T437 (mkF m 137 #[vI p0, vI p1, vI p2, vI p3, vI (1 : Int32), vI c0, vI c1, vI c2, vR t430, vR t432, vI (Int32.ofNat (esc1 c0).length), vI (0 : Int32), vI (0 : Int32), vI (Int32.ofNat rs.length)] [(.int (Int32.ofNat (rs.length - 1))), (.ref t432)]) _
    obtain ⟨cq438, kq438, q438a, q438b, q438c⟩ := isOf hZ432 e437 (SX).exa
    obtain ⟨_, _, ⟨T438, L438, k438, n438⟩, -, X438, ⟨Lc438, hQ438, l438, y438, z438⟩, st438⟩ := X437.virtualBack hx (y := mN7) (z := mN7) hown432 (mw hZ432 hw 129 rfl) (mw hZ432 hw 130 rfl) (notFace_of_selects (args := #[]) (mw hZ432 hw 132 rfl)) (mw hZ432 hw 132 rfl) (mw hZ432 hw 131 rfl) (by decide) (chS (W := 0) hZ432 hw SX (B.ext Ex433) (rs.length - 1) (by omega) (by omega) n0 (Nat.le_trans Z0 Ex433.1) (by decide) (by decide)) q438a q438c (g := (mkF m 137 #[vI p0, vI p1, vI p2, vI p3, vI (1 : Int32), vI c0, vI c1, vI c2, vR t430, vR t432, vI (Int32.ofNat (esc1 c0).length), vI (0 : Int32), vI (0 : Int32), vI (Int32.ofNat rs.length)] [(.int (Int32.ofNat (rs.length - 1))), (.ref t432)])) rfl (by rw [hml]; rfl) (Steps.refl _) (argsL := [(.int (Int32.ofNat (rs.length - 1)))]) (rest := []) (lenOf pd_29 rfl) rfl (w0 rfl) (dq (dg dlw 72 rfl)) (fun _ _ => ⟨rfl, e437, (by decide : 37 + 0 ≤ _), (by decide : 990 + 0 ≤ _)⟩)
    dsimp only [Pt.U, Pt.locs, Pt.cells, Pt.slots] at X438 l438 y438 z438 st438 hQ438
    subst l438 y438 z438
    obtain ⟨rfl, Nq438, e438⟩ := hQ438
    have N438 := Fr.app N437 Nq438
    refine R2 st438 ?_
    show Rch p e below T438 (mkF m 140 #[vI p0, vI p1, vI p2, vI p3, vI (1 : Int32), vI c0, vI c1, vI c2, vR t430, vR t432, vI (Int32.ofNat (esc1 c0).length), vI (0 : Int32), vI (0 : Int32), vI (Int32.ofNat rs.length)] [(.int (rs.getD (rs.length - 1) 0))]) _
    rw [(show rs.getD (rs.length - 1) 0 = (34 : Int32) from by rw [hrs]; exact q_last _)]
    show Rch p e below T438 (mkF m 140 #[vI p0, vI p1, vI p2, vI p3, vI (1 : Int32), vI c0, vI c1, vI c2, vR t430, vR t432, vI (Int32.ofNat (esc1 c0).length), vI (0 : Int32), vI (0 : Int32), vI (Int32.ofNat rs.length)] [(.int (34 : Int32))]) _
    refine R1 (XS.bipush X438.here hx rfl (dq (dg dlw 73 rfl)) ) ?_
    refine R1 (XS.icmpYes X438.here hx rfl (pc0 := 142) (pc' := 147) rfl (dq (dg dlw 74 rfl)) rfl (by decide : if_icmp.holds .eq (34 : Int32) (34 : Int32) = true) (by decide) (by decide)) ?_
    refine R1 (XS.iload X438.here hx rfl (dq (dg dlw 75 rfl)) rfl) ?_
    refine R1 (XS.ifNo X438.here hx rfl (dq (dg dlw 76 rfl)) rfl (by decide : ifCond.holds .le (1 : Int32) = false)) ?_
    refine R1 (XS.aload X438.here hx rfl (dq (dg dlw 77 rfl)) rfl rfl) ?_
    refine R1 (XS.iconst X438.here hx rfl (dq (dg dlw 78 rfl)) ) ?_
    refine R1 (XS.iload X438.here hx rfl (dq (dg dlw 79 rfl)) rfl) ?_
    show Rch p e below T438 (mkF m 157 #[vI p0, vI p1, vI p2, vI p3, vI (1 : Int32), vI c0, vI c1, vI c2, vR t430, vR t432, vI (Int32.ofNat (esc1 c0).length), vI (0 : Int32), vI (0 : Int32), vI (Int32.ofNat rs.length)] [(.int c0), (.int (1 : Int32)), (.ref t432)]) _
    obtain ⟨_, _, ⟨T439, L439, k439, n439⟩, -, X439, ⟨Lc439, hQ439, l439, y439, z439⟩, st439⟩ := Jvm.LawKit.callS X438 hx (y := mN50) hown432 (mw hZ432 hw 227 rfl) (mw hZ432 hw 228 rfl) (mw hZ432 hw 3 rfl) (mw hZ432 hw 229 rfl) (by decide) (backOf (W := 0) (rm_seg l Z a0 hw [] t432 rs ([34]) ([34]) c0 fm T432.heap n0 (Nat.le_trans Z0 Ex433.1) SX (B.ext Ex433) (by rw [hrs]; simp [escL]) (by omega)) hZ432 (wq hw 229 rfl) (wq hw 3 rfl) (by decide) (by decide)) (g := (mkF m 157 #[vI p0, vI p1, vI p2, vI p3, vI (1 : Int32), vI c0, vI c1, vI c2, vR t430, vR t432, vI (Int32.ofNat (esc1 c0).length), vI (0 : Int32), vI (0 : Int32), vI (Int32.ofNat rs.length)] [(.int c0), (.int (1 : Int32)), (.ref t432)])) rfl (by rw [hml]; rfl) (argsL := [(.ref t432), (.int (1 : Int32)), (.int c0)]) (rest := []) (lenOf pd_39 rfl) rfl (w0 rfl) (dq (dg dlw 80 rfl)) (fun _ _ => ⟨rfl, e438, (by decide : 37 + 0 ≤ _), (by decide : 990 + 0 ≤ _)⟩)
    dsimp only [Pt.U, Pt.locs, Pt.cells, Pt.slots] at X439 l439 y439 z439 st439 hQ439
    subst l439 y439 z439
    obtain ⟨rfl, Nq439, e439⟩ := hQ439
    have N439 := Fr.app N438 Nq439
    refine R0_ st439 ?_
    show Rch p e below T439 (mkF m 160 #[vI p0, vI p1, vI p2, vI p3, vI (1 : Int32), vI c0, vI c1, vI c2, vR t430, vR t432, vI (Int32.ofNat (esc1 c0).length), vI (0 : Int32), vI (0 : Int32), vI (Int32.ofNat rs.length)] [(.int (1 : Int32))]) _
    refine R1 (XS.ifYes X439.here hx rfl (pc0 := 160) (pc' := 165) rfl (dq (dg dlw 81 rfl)) rfl (by decide : ifCond.holds .ne (1 : Int32) = true) (by decide) (by decide)) ?_
    refine R1 (XS.iload X439.here hx rfl (dq (dg dlw 82 rfl)) rfl) ?_
    refine R1 (XS.iconst X439.here hx rfl (dq (dg dlw 83 rfl)) ) ?_
    refine R1 (XS.icmpYes X439.here hx rfl (pc0 := 168) (pc' := 187) rfl (dq (dg dlw 84 rfl)) rfl (by decide : if_icmp.holds .le (1 : Int32) (1 : Int32) = true) (by decide) (by decide)) ?_
    refine R1 (XS.iload X439.here hx rfl (dq (dg dlw 92 rfl)) rfl) ?_
    refine R1 (XS.iconst X439.here hx rfl (dq (dg dlw 93 rfl)) ) ?_
    refine R1 (XS.icmpYes X439.here hx rfl (pc0 := 190) (pc' := 212) rfl (dq (dg dlw 94 rfl)) rfl (by decide : if_icmp.holds .le (1 : Int32) (2 : Int32) = true) (by decide) (by decide)) ?_
    refine R1 (XS.iconst X439.here hx rfl (dq (dg dlw 104 rfl)) ) ?_
    show Rch p e below T439 (mkF m 213 #[vI p0, vI p1, vI p2, vI p3, vI (1 : Int32), vI c0, vI c1, vI c2, vR t430, vR t432, vI (Int32.ofNat (esc1 c0).length), vI (0 : Int32), vI (0 : Int32), vI (Int32.ofNat rs.length)] [(.int (1 : Int32))]) _
    exact Rch.finW (Q := Q_law Z p0 p1 p2 p3 fm h0 n0) X439 hZ432 hEL hS432 (by rw [e439]; exact (Nat.le_refl _)) e439 R432 (v := some (.int (1 : Int32))) (fun h => by rw [Bd.returns] at h; cases h) (BodyLoose.notSynchronized Bd) (fun fs hr => retN X439 hx (t := .boolean) Bd.returns (by simp) (dq (dg dlw 105 rfl)) hr) (by rw [e439]; exact ⟨rfl, N439⟩) (by decide) (by decide)
  · skip
    rw [hn]
    show Rch p e below s₁ (mkF m 3 #[vI p0, vI p1, vI p2, vI p3, .unset, .unset, .unset, .unset, .unset, .unset, .unset, .unset, .unset, .unset] [(.int (2 : Int32))]) _
    refine R1 (XS.istore X0.here hx rfl (dq (dg dlw 3 rfl)) rfl (l' := #[vI p0, vI p1, vI p2, vI p3, vI (2 : Int32), .unset, .unset, .unset, .unset, .unset, .unset, .unset, .unset, .unset]) rfl) ?_
    refine R1 (XS.iloadN X0.here hx rfl (dq (dg dlw 4 rfl)) rfl) ?_
    show Rch p e below s₁ (mkF m 6 #[vI p0, vI p1, vI p2, vI p3, vI (2 : Int32), .unset, .unset, .unset, .unset, .unset, .unset, .unset, .unset, .unset] [(.int p1)]) _
    refine R0_ (X0.ldcInt hx hown (mw hZ hw 0 rfl) (g := (mkF m 6 #[vI p0, vI p1, vI p2, vI p3, vI (2 : Int32), .unset, .unset, .unset, .unset, .unset, .unset, .unset, .unset, .unset] [(.int p1)])) rfl (dq (dg dlw 5 rfl))) ?_
    show Rch p e below s₁ (mkF m 8 #[vI p0, vI p1, vI p2, vI p3, vI (2 : Int32), .unset, .unset, .unset, .unset, .unset, .unset, .unset, .unset, .unset] [(.int (65535 : Int32)), (.int p1)]) _
    refine R1 (XS.iand X0.here hx rfl (dq (dg dlw 6 rfl)) rfl) ?_
    refine R1 (XT.i2c X0.here hx rfl (dq (dg dlw 7 rfl)) rfl) ?_
    show Rch p e below s₁ (mkF m 10 #[vI p0, vI p1, vI p2, vI p3, vI (2 : Int32), .unset, .unset, .unset, .unset, .unset, .unset, .unset, .unset, .unset] [(.int ((p1 &&& (65535 : Int32)).toUInt32.toUInt16.toUInt32.toInt32))]) _
    generalize hc0 : ((p1 &&& (65535 : Int32)).toUInt32.toUInt16.toUInt32.toInt32) = c0
    have k0 : C16 c0 := hc0 ▸ c16_i2c _
    show Rch p e below s₁ (mkF m 10 #[vI p0, vI p1, vI p2, vI p3, vI (2 : Int32), .unset, .unset, .unset, .unset, .unset, .unset, .unset, .unset, .unset] [(.int c0)]) _
    refine R1 (XS.istore X0.here hx rfl (dq (dg dlw 8 rfl)) rfl (l' := #[vI p0, vI p1, vI p2, vI p3, vI (2 : Int32), vI c0, .unset, .unset, .unset, .unset, .unset, .unset, .unset, .unset]) rfl) ?_
    refine R1 (XS.iloadN X0.here hx rfl (dq (dg dlw 9 rfl)) rfl) ?_
    show Rch p e below s₁ (mkF m 13 #[vI p0, vI p1, vI p2, vI p3, vI (2 : Int32), vI c0, .unset, .unset, .unset, .unset, .unset, .unset, .unset, .unset] [(.int p2)]) _
    refine R0_ (X0.ldcInt hx hown (mw hZ hw 0 rfl) (g := (mkF m 13 #[vI p0, vI p1, vI p2, vI p3, vI (2 : Int32), vI c0, .unset, .unset, .unset, .unset, .unset, .unset, .unset, .unset] [(.int p2)])) rfl (dq (dg dlw 10 rfl))) ?_
    show Rch p e below s₁ (mkF m 15 #[vI p0, vI p1, vI p2, vI p3, vI (2 : Int32), vI c0, .unset, .unset, .unset, .unset, .unset, .unset, .unset, .unset] [(.int (65535 : Int32)), (.int p2)]) _
    refine R1 (XS.iand X0.here hx rfl (dq (dg dlw 11 rfl)) rfl) ?_
    refine R1 (XT.i2c X0.here hx rfl (dq (dg dlw 12 rfl)) rfl) ?_
    show Rch p e below s₁ (mkF m 17 #[vI p0, vI p1, vI p2, vI p3, vI (2 : Int32), vI c0, .unset, .unset, .unset, .unset, .unset, .unset, .unset, .unset] [(.int ((p2 &&& (65535 : Int32)).toUInt32.toUInt16.toUInt32.toInt32))]) _
    generalize hc1 : ((p2 &&& (65535 : Int32)).toUInt32.toUInt16.toUInt32.toInt32) = c1
    have k1 : C16 c1 := hc1 ▸ c16_i2c _
    show Rch p e below s₁ (mkF m 17 #[vI p0, vI p1, vI p2, vI p3, vI (2 : Int32), vI c0, .unset, .unset, .unset, .unset, .unset, .unset, .unset, .unset] [(.int c1)]) _
    refine R1 (XS.istore X0.here hx rfl (dq (dg dlw 13 rfl)) rfl (l' := #[vI p0, vI p1, vI p2, vI p3, vI (2 : Int32), vI c0, vI c1, .unset, .unset, .unset, .unset, .unset, .unset, .unset]) rfl) ?_
    refine R1 (XS.iloadN X0.here hx rfl (dq (dg dlw 14 rfl)) rfl) ?_
    show Rch p e below s₁ (mkF m 20 #[vI p0, vI p1, vI p2, vI p3, vI (2 : Int32), vI c0, vI c1, .unset, .unset, .unset, .unset, .unset, .unset, .unset] [(.int p3)]) _
    refine R0_ (X0.ldcInt hx hown (mw hZ hw 0 rfl) (g := (mkF m 20 #[vI p0, vI p1, vI p2, vI p3, vI (2 : Int32), vI c0, vI c1, .unset, .unset, .unset, .unset, .unset, .unset, .unset] [(.int p3)])) rfl (dq (dg dlw 15 rfl))) ?_
    show Rch p e below s₁ (mkF m 22 #[vI p0, vI p1, vI p2, vI p3, vI (2 : Int32), vI c0, vI c1, .unset, .unset, .unset, .unset, .unset, .unset, .unset] [(.int (65535 : Int32)), (.int p3)]) _
    refine R1 (XS.iand X0.here hx rfl (dq (dg dlw 16 rfl)) rfl) ?_
    refine R1 (XT.i2c X0.here hx rfl (dq (dg dlw 17 rfl)) rfl) ?_
    show Rch p e below s₁ (mkF m 24 #[vI p0, vI p1, vI p2, vI p3, vI (2 : Int32), vI c0, vI c1, .unset, .unset, .unset, .unset, .unset, .unset, .unset] [(.int ((p3 &&& (65535 : Int32)).toUInt32.toUInt16.toUInt32.toInt32))]) _
    generalize hc2 : ((p3 &&& (65535 : Int32)).toUInt32.toUInt16.toUInt32.toInt32) = c2
    have k2 : C16 c2 := hc2 ▸ c16_i2c _
    show Rch p e below s₁ (mkF m 24 #[vI p0, vI p1, vI p2, vI p3, vI (2 : Int32), vI c0, vI c1, .unset, .unset, .unset, .unset, .unset, .unset, .unset] [(.int c2)]) _
    refine R1 (XS.istore X0.here hx rfl (dq (dg dlw 18 rfl)) rfl (l' := #[vI p0, vI p1, vI p2, vI p3, vI (2 : Int32), vI c0, vI c1, vI c2, .unset, .unset, .unset, .unset, .unset, .unset]) rfl) ?_
    refine R1 (XS.iload X0.here hx rfl (dq (dg dlw 19 rfl)) rfl) ?_
    refine R1 (XS.iload X0.here hx rfl (dq (dg dlw 20 rfl)) rfl) ?_
    refine R1 (XS.iload X0.here hx rfl (dq (dg dlw 21 rfl)) rfl) ?_
    refine R1 (XS.iload X0.here hx rfl (dq (dg dlw 22 rfl)) rfl) ?_
    show Rch p e below s₁ (mkF m 34 #[vI p0, vI p1, vI p2, vI p3, vI (2 : Int32), vI c0, vI c1, vI c2, .unset, .unset, .unset, .unset, .unset, .unset] [(.int c2), (.int c1), (.int c0), (.int (2 : Int32))]) _
    obtain ⟨_, _, ⟨T440, L440, k440, n440⟩, -, X440_, hS440_, hg440_, ⟨Lc440, hQ440, l440, y440, z440, CR440⟩, st440⟩ := callSS X0 hx (y := mN51) hown (mw hZ hw 1 rfl) (mw hZ hw 2 rfl) (mw hZ hw 3 rfl) (mw hZ hw 4 rfl) (by decide) (backOfSH (W := 0) (rm_text2 l Z a0 hw [] c0 c1 c2 fm h0 n0 Z0 B k0 k1 k2) hZ (wq hw 4 rfl) (wq hw 3 rfl) (by decide) (by decide) hEL R0.1) (g := (mkF m 34 #[vI p0, vI p1, vI p2, vI p3, vI (2 : Int32), vI c0, vI c1, vI c2, .unset, .unset, .unset, .unset, .unset, .unset] [(.int c2), (.int c1), (.int c0), (.int (2 : Int32))])) rfl (by rw [hml]; rfl) (argsL := [(.int (2 : Int32)), (.int c0), (.int c1), (.int c2)]) (rest := []) (lenOf pd_36 rfl) rfl (w0 rfl) (dq (dg dlw 23 rfl)) (fun _ _ => ⟨rfl, e0, (by decide : 0 + 4 ≤ _), (by decide : 0 + 15 ≤ _)⟩)
    dsimp only [Pt.U, Pt.locs, Pt.cells, Pt.slots] at X440_ hS440_ hg440_ l440 y440 z440 st440 hQ440 CR440
    subst l440 y440 z440
    obtain ⟨X440, hS440, hZ440, hown440⟩ := rebS hS0 (by rw [e0]; exact (Nat.zero_le _)) X440_ hS440_ hg440_ hZ hown
    obtain ⟨t440, rfl, Nq440, E440, S440⟩ := hQ440
    have N440 := Fr.app N0 Nq440
    have R440 := R0.trans CR440
    have Ex441 : Ext h0 T440.heap := E440
    refine R2 st440 ?_
    show Rch p e below T440 (mkF m 37 #[vI p0, vI p1, vI p2, vI p3, vI (2 : Int32), vI c0, vI c1, vI c2, .unset, .unset, .unset, .unset, .unset, .unset] [(.ref t440)]) _
    refine R1 (XS.astore X440.here hx rfl (dq (dg dlw 24 rfl)) rfl rfl (l' := #[vI p0, vI p1, vI p2, vI p3, vI (2 : Int32), vI c0, vI c1, vI c2, vR t440, .unset, .unset, .unset, .unset, .unset]) rfl) ?_
    refine R1 (XS.aload X440.here hx rfl (dq (dg dlw 25 rfl)) rfl rfl) ?_
    show Rch p e below T440 (mkF m 41 #[vI p0, vI p1, vI p2, vI p3, vI (2 : Int32), vI c0, vI c1, vI c2, vR t440, .unset, .unset, .unset, .unset, .unset] [(.ref t440)]) _
    obtain ⟨_, _, ⟨T442, L442, k442, n442⟩, -, X442_, hS442_, hg442_, ⟨Lc442, hQ442, l442, y442, z442, CR442⟩, st442⟩ := callSS X440 hx (y := mN47) hown440 (mw hZ440 hw 27 rfl) (mw hZ440 hw 28 rfl) (mw hZ440 hw 29 rfl) (mw hZ440 hw 30 rfl) (by decide) (backOfSH (W := 0) (rm_outr l Z a0 hw [] t440 ([c0, c1] : List Int32) fm T440.heap n0 (Nat.le_trans Z0 Ex441.1) S440 (B.ext Ex441) (Nat.le_of_ble_eq_true rfl)) hZ440 (wq hw 30 rfl) (wq hw 29 rfl) (by decide) (by decide) hEL R440.1) (g := (mkF m 41 #[vI p0, vI p1, vI p2, vI p3, vI (2 : Int32), vI c0, vI c1, vI c2, vR t440, .unset, .unset, .unset, .unset, .unset] [(.ref t440)])) rfl (by rw [hml]; rfl) (argsL := [(.ref t440)]) (rest := []) (lenOf pd_37 rfl) rfl (w0 rfl) (dq (dg dlw 26 rfl)) (fun _ _ => ⟨rfl, rfl, (by decide : 4 + 33 ≤ _), (by decide : 15 + 976 ≤ _)⟩)
    dsimp only [Pt.U, Pt.locs, Pt.cells, Pt.slots] at X442_ hS442_ hg442_ l442 y442 z442 st442 hQ442 CR442
    subst l442 y442 z442
    obtain ⟨X442, hS442, hZ442, hown442⟩ := rebS hS440 (Nat.le_refl _) X442_ hS442_ hg442_ hZ440 hown440
    obtain ⟨t442, tb442, rfl, Nq442, E442, S442⟩ := hQ442
    have N442 := Fr.app N440 Nq442
    have R442 := R440.trans CR442
    have Ex443 : Ext h0 T442.heap := Ex441.tr E442
    refine R2 st442 ?_
    show Rch p e below T442 (mkF m 44 #[vI p0, vI p1, vI p2, vI p3, vI (2 : Int32), vI c0, vI c1, vI c2, vR t440, .unset, .unset, .unset, .unset, .unset] [(.ref t442)]) _
    obtain ⟨rs, hrs⟩ : ∃ z, z = ([34] ++ escL ([c0, c1] : List Int32) ++ [34]) := ⟨_, rfl⟩
    rw [← hrs] at S442
    have SX : StrA Z T442.heap t442 rs := S442.strA (by rw [hrs]; exact q_bd _)
    have hln : rs.length ≤ 20 := by rw [hrs]; exact q_len _ (Nat.le_of_ble_eq_true rfl)
    have hpo : 1 ≤ rs.length := by rw [hrs]; exact q_pos _
    refine R1 (XS.astore X442.here hx rfl (dq (dg dlw 27 rfl)) rfl rfl (l' := #[vI p0, vI p1, vI p2, vI p3, vI (2 : Int32), vI c0, vI c1, vI c2, vR t440, vR t442, .unset, .unset, .unset, .unset]) rfl) ?_
    refine R1 (XS.iload X442.here hx rfl (dq (dg dlw 28 rfl)) rfl) ?_
    refine R1 (XS.ifNo X442.here hx rfl (dq (dg dlw 29 rfl)) rfl (by decide : ifCond.holds .le (2 : Int32) = false)) ?_
    refine R1 (XS.iload X442.here hx rfl (dq (dg dlw 30 rfl)) rfl) ?_
    show Rch p e below T442 (mkF m 53 #[vI p0, vI p1, vI p2, vI p3, vI (2 : Int32), vI c0, vI c1, vI c2, vR t440, vR t442, .unset, .unset, .unset, .unset] [(.int c0)]) _
    obtain ⟨_, _, ⟨T445, L445, k445, n445⟩, -, X445, ⟨Lc445, hQ445, l445, y445, z445⟩, st445⟩ := Jvm.LawKit.callS X442 hx (y := mN48) hown442 (mw hZ442 hw 224 rfl) (mw hZ442 hw 225 rfl) (mw hZ442 hw 3 rfl) (mw hZ442 hw 226 rfl) (by decide) (backOf (W := 0) (rm_elen l Z a0 hw [] c0 T442.heap n0 (Nat.le_trans Z0 Ex443.1)) hZ442 (wq hw 226 rfl) (wq hw 3 rfl) (by decide) (by decide)) (g := (mkF m 53 #[vI p0, vI p1, vI p2, vI p3, vI (2 : Int32), vI c0, vI c1, vI c2, vR t440, vR t442, .unset, .unset, .unset, .unset] [(.int c0)])) rfl (by rw [hml]; rfl) (argsL := [(.int c0)]) (rest := []) (lenOf pd_38 rfl) rfl (w0 rfl) (dq (dg dlw 31 rfl)) (fun _ _ => ⟨rfl, rfl, (by decide : 37 + 0 ≤ _), (by decide : 991 + 0 ≤ _)⟩)
    dsimp only [Pt.U, Pt.locs, Pt.cells, Pt.slots] at X445 l445 y445 z445 st445 hQ445
    subst l445 y445 z445
    obtain ⟨rfl, Nq445, e445⟩ := hQ445
    have N445 := Fr.app N442 Nq445
    refine R0_ st445 ?_
    show Rch p e below T445 (mkF m 56 #[vI p0, vI p1, vI p2, vI p3, vI (2 : Int32), vI c0, vI c1, vI c2, vR t440, vR t442, .unset, .unset, .unset, .unset] [(.int (Int32.ofNat (esc1 c0).length))]) _
    refine R1 (XS.goto X445.here hx rfl (pc0 := 56) (pc' := 60) rfl (dq (dg dlw 32 rfl)) (by decide) (by decide)) ?_
    refine R1 (XS.istore X445.here hx rfl (dq (dg dlw 34 rfl)) rfl (l' := #[vI p0, vI p1, vI p2, vI p3, vI (2 : Int32), vI c0, vI c1, vI c2, vR t440, vR t442, vI (Int32.ofNat (esc1 c0).length), .unset, .unset, .unset]) rfl) ?_
    refine R1 (XS.iload X445.here hx rfl (dq (dg dlw 35 rfl)) rfl) ?_
    refine R1 (XS.iconst X445.here hx rfl (dq (dg dlw 36 rfl)) ) ?_
    refine R1 (XS.icmpNo X445.here hx rfl (dq (dg dlw 37 rfl)) rfl (by decide : if_icmp.holds .le (2 : Int32) (1 : Int32) = false)) ?_
    refine R1 (XS.iload X445.here hx rfl (dq (dg dlw 38 rfl)) rfl) ?_
    show Rch p e below T445 (mkF m 70 #[vI p0, vI p1, vI p2, vI p3, vI (2 : Int32), vI c0, vI c1, vI c2, vR t440, vR t442, vI (Int32.ofNat (esc1 c0).length), .unset, .unset, .unset] [(.int c1)]) _
    obtain ⟨_, _, ⟨T446, L446, k446, n446⟩, -, X446, ⟨Lc446, hQ446, l446, y446, z446⟩, st446⟩ := Jvm.LawKit.callS X445 hx (y := mN48) hown442 (mw hZ442 hw 224 rfl) (mw hZ442 hw 225 rfl) (mw hZ442 hw 3 rfl) (mw hZ442 hw 226 rfl) (by decide) (backOf (W := 0) (rm_elen l Z a0 hw [] c1 T442.heap n0 (Nat.le_trans Z0 Ex443.1)) hZ442 (wq hw 226 rfl) (wq hw 3 rfl) (by decide) (by decide)) (g := (mkF m 70 #[vI p0, vI p1, vI p2, vI p3, vI (2 : Int32), vI c0, vI c1, vI c2, vR t440, vR t442, vI (Int32.ofNat (esc1 c0).length), .unset, .unset, .unset] [(.int c1)])) rfl (by rw [hml]; rfl) (argsL := [(.int c1)]) (rest := []) (lenOf pd_38 rfl) rfl (w0 rfl) (dq (dg dlw 39 rfl)) (fun _ _ => ⟨rfl, e445, (by decide : 37 + 0 ≤ _), (by decide : 991 + 0 ≤ _)⟩)
    dsimp only [Pt.U, Pt.locs, Pt.cells, Pt.slots] at X446 l446 y446 z446 st446 hQ446
    subst l446 y446 z446
    obtain ⟨rfl, Nq446, e446⟩ := hQ446
    have N446 := Fr.app N445 Nq446
    refine R0_ st446 ?_
    show Rch p e below T446 (mkF m 73 #[vI p0, vI p1, vI p2, vI p3, vI (2 : Int32), vI c0, vI c1, vI c2, vR t440, vR t442, vI (Int32.ofNat (esc1 c0).length), .unset, .unset, .unset] [(.int (Int32.ofNat (esc1 c1).length))]) _
    refine R1 (XS.goto X446.here hx rfl (pc0 := 73) (pc' := 77) rfl (dq (dg dlw 40 rfl)) (by decide) (by decide)) ?_
    refine R1 (XS.istore X446.here hx rfl (dq (dg dlw 42 rfl)) rfl (l' := #[vI p0, vI p1, vI p2, vI p3, vI (2 : Int32), vI c0, vI c1, vI c2, vR t440, vR t442, vI (Int32.ofNat (esc1 c0).length), vI (Int32.ofNat (esc1 c1).length), .unset, .unset]) rfl) ?_
    refine R1 (XS.iload X446.here hx rfl (dq (dg dlw 43 rfl)) rfl) ?_
    refine R1 (XS.iconst X446.here hx rfl (dq (dg dlw 44 rfl)) ) ?_
    refine R1 (XS.icmpYes X446.here hx rfl (pc0 := 82) (pc' := 93) rfl (dq (dg dlw 45 rfl)) rfl (by decide : if_icmp.holds .le (2 : Int32) (2 : Int32) = true) (by decide) (by decide)) ?_
    refine R1 (XS.iconst X446.here hx rfl (dq (dg dlw 49 rfl)) ) ?_
    refine R1 (XS.istore X446.here hx rfl (dq (dg dlw 50 rfl)) rfl (l' := #[vI p0, vI p1, vI p2, vI p3, vI (2 : Int32), vI c0, vI c1, vI c2, vR t440, vR t442, vI (Int32.ofNat (esc1 c0).length), vI (Int32.ofNat (esc1 c1).length), vI (0 : Int32), .unset]) rfl) ?_
    refine R1 (XS.iconst X446.here hx rfl (dq (dg dlw 51 rfl)) ) ?_
    refine R1 (XS.iload X446.here hx rfl (dq (dg dlw 52 rfl)) rfl) ?_
    refine R1 (XS.iadd X446.here hx rfl (dq (dg dlw 53 rfl)) rfl) ?_
    refine R1 (XS.iload X446.here hx rfl (dq (dg dlw 54 rfl)) rfl) ?_
    refine R1 (XS.iadd X446.here hx rfl (dq (dg dlw 55 rfl)) rfl) ?_
    refine R1 (XS.iload X446.here hx rfl (dq (dg dlw 56 rfl)) rfl) ?_
    show Rch p e below T446 (mkF m 105 #[vI p0, vI p1, vI p2, vI p3, vI (2 : Int32), vI c0, vI c1, vI c2, vR t440, vR t442, vI (Int32.ofNat (esc1 c0).length), vI (Int32.ofNat (esc1 c1).length), vI (0 : Int32), .unset] [(.int (0 : Int32)), (.int (((2 : Int32) + (Int32.ofNat (esc1 c0).length)) + (Int32.ofNat (esc1 c1).length)))]) _
    refine R1 (XS.iadd X446.here hx rfl (dq (dg dlw 57 rfl)) rfl) ?_
    show Rch p e below T446 (mkF m 106 #[vI p0, vI p1, vI p2, vI p3, vI (2 : Int32), vI c0, vI c1, vI c2, vR t440, vR t442, vI (Int32.ofNat (esc1 c0).length), vI (Int32.ofNat (esc1 c1).length), vI (0 : Int32), .unset] [(.int ((((2 : Int32) + (Int32.ofNat (esc1 c0).length)) + (Int32.ofNat (esc1 c1).length)) + (0 : Int32)))]) _
    rw [(show ((((2 : Int32) + (Int32.ofNat (esc1 c0).length)) + (Int32.ofNat (esc1 c1).length)) + (0 : Int32)) = Int32.ofNat rs.length from by rw [hrs]; exact qlen_2 c0 c1)]
    show Rch p e below T446 (mkF m 106 #[vI p0, vI p1, vI p2, vI p3, vI (2 : Int32), vI c0, vI c1, vI c2, vR t440, vR t442, vI (Int32.ofNat (esc1 c0).length), vI (Int32.ofNat (esc1 c1).length), vI (0 : Int32), .unset] [(.int (Int32.ofNat rs.length))]) _
    refine R1 (XS.istore X446.here hx rfl (dq (dg dlw 58 rfl)) rfl (l' := #[vI p0, vI p1, vI p2, vI p3, vI (2 : Int32), vI c0, vI c1, vI c2, vR t440, vR t442, vI (Int32.ofNat (esc1 c0).length), vI (Int32.ofNat (esc1 c1).length), vI (0 : Int32), vI (Int32.ofNat rs.length)]) rfl) ?_
    refine R1 (XS.aload X446.here hx rfl (dq (dg dlw 59 rfl)) rfl rfl) ?_
    show Rch p e below T446 (mkF m 110 #[vI p0, vI p1, vI p2, vI p3, vI (2 : Int32), vI c0, vI c1, vI c2, vR t440, vR t442, vI (Int32.ofNat (esc1 c0).length), vI (Int32.ofNat (esc1 c1).length), vI (0 : Int32), vI (Int32.ofNat rs.length)] [(.ref t442)]) _
    obtain ⟨cq447, kq447, q447a, q447b, q447c⟩ := isOf hZ442 e446 (SX).exa
    obtain ⟨_, _, ⟨T447, L447, k447, n447⟩, -, X447, ⟨Lc447, hQ447, l447, y447, z447⟩, st447⟩ := X446.virtualBack hx (y := mN31) (z := mN31) hown442 (mw hZ442 hw 128 rfl) (mw hZ442 hw 35 rfl) (notFace_of_selects (args := #[]) (mw hZ442 hw 37 rfl)) (mw hZ442 hw 37 rfl) (mw hZ442 hw 36 rfl) (by decide) (lenS (W := 0) hZ442 hw SX (B.ext Ex443).1 (by omega) (by decide) (by decide)) q447a q447c (g := (mkF m 110 #[vI p0, vI p1, vI p2, vI p3, vI (2 : Int32), vI c0, vI c1, vI c2, vR t440, vR t442, vI (Int32.ofNat (esc1 c0).length), vI (Int32.ofNat (esc1 c1).length), vI (0 : Int32), vI (Int32.ofNat rs.length)] [(.ref t442)])) rfl (by rw [hml]; rfl) (Steps.refl _) (argsL := []) (rest := []) (lenOf pd_17 rfl) rfl (w0 rfl) (dq (dg dlw 60 rfl)) (fun _ _ => ⟨rfl, e446, (by decide : 37 + 0 ≤ _), (by decide : 991 + 0 ≤ _)⟩)
    dsimp only [Pt.U, Pt.locs, Pt.cells, Pt.slots] at X447 l447 y447 z447 st447 hQ447
    subst l447 y447 z447
    obtain ⟨rfl, hL447, e447⟩ := hQ447
    subst hL447
    have Nq447 := Fr.nil n0
    have N447 := Fr.app N446 Nq447
    refine R2 st447 ?_
    show Rch p e below T447 (mkF m 113 #[vI p0, vI p1, vI p2, vI p3, vI (2 : Int32), vI c0, vI c1, vI c2, vR t440, vR t442, vI (Int32.ofNat (esc1 c0).length), vI (Int32.ofNat (esc1 c1).length), vI (0 : Int32), vI (Int32.ofNat rs.length)] [(.int (Int32.ofNat rs.length))]) _
    refine R1 (XS.iload X447.here hx rfl (dq (dg dlw 61 rfl)) rfl) ?_
    refine R1 (XS.icmpYes X447.here hx rfl (pc0 := 115) (pc' := 120) rfl (dq (dg dlw 62 rfl)) rfl (teq (rfl : Int32.ofNat rs.length = Int32.ofNat rs.length)).1 (by decide) (by decide)) ?_
    refine R1 (XS.aload X447.here hx rfl (dq (dg dlw 63 rfl)) rfl rfl) ?_
    refine R1 (XS.iconst X447.here hx rfl (dq (dg dlw 64 rfl)) ) ?_
    show Rch p e below T447 (mkF m 123 #[vI p0, vI p1, vI p2, vI p3, vI (2 : Int32), vI c0, vI c1, vI c2, vR t440, vR t442, vI (Int32.ofNat (esc1 c0).length), vI (Int32.ofNat (esc1 c1).length), vI (0 : Int32), vI (Int32.ofNat rs.length)] [(.int (0 : Int32)), (.ref t442)]) _
    obtain ⟨cq448, kq448, q448a, q448b, q448c⟩ := isOf hZ442 e447 (SX).exa
    obtain ⟨_, _, ⟨T448, L448, k448, n448⟩, -, X448, ⟨Lc448, hQ448, l448, y448, z448⟩, st448⟩ := X447.virtualBack hx (y := mN7) (z := mN7) hown442 (mw hZ442 hw 129 rfl) (mw hZ442 hw 130 rfl) (notFace_of_selects (args := #[]) (mw hZ442 hw 132 rfl)) (mw hZ442 hw 132 rfl) (mw hZ442 hw 131 rfl) (by decide) (chS (W := 0) hZ442 hw SX (B.ext Ex443) 0 (by omega) (by omega) n0 (Nat.le_trans Z0 Ex443.1) (by decide) (by decide)) q448a q448c (g := (mkF m 123 #[vI p0, vI p1, vI p2, vI p3, vI (2 : Int32), vI c0, vI c1, vI c2, vR t440, vR t442, vI (Int32.ofNat (esc1 c0).length), vI (Int32.ofNat (esc1 c1).length), vI (0 : Int32), vI (Int32.ofNat rs.length)] [(.int (0 : Int32)), (.ref t442)])) rfl (by rw [hml]; rfl) (Steps.refl _) (argsL := [(.int (0 : Int32))]) (rest := []) (lenOf pd_29 rfl) rfl (w0 rfl) (dq (dg dlw 65 rfl)) (fun _ _ => ⟨rfl, e447, (by decide : 37 + 0 ≤ _), (by decide : 991 + 0 ≤ _)⟩)
    dsimp only [Pt.U, Pt.locs, Pt.cells, Pt.slots] at X448 l448 y448 z448 st448 hQ448
    subst l448 y448 z448
    obtain ⟨rfl, Nq448, e448⟩ := hQ448
    have N448 := Fr.app N447 Nq448
    refine R2 st448 ?_
    show Rch p e below T448 (mkF m 126 #[vI p0, vI p1, vI p2, vI p3, vI (2 : Int32), vI c0, vI c1, vI c2, vR t440, vR t442, vI (Int32.ofNat (esc1 c0).length), vI (Int32.ofNat (esc1 c1).length), vI (0 : Int32), vI (Int32.ofNat rs.length)] [(.int (rs.getD 0 0))]) _
    rw [(show rs.getD 0 0 = (34 : Int32) from by rw [hrs]; rfl)]
    show Rch p e below T448 (mkF m 126 #[vI p0, vI p1, vI p2, vI p3, vI (2 : Int32), vI c0, vI c1, vI c2, vR t440, vR t442, vI (Int32.ofNat (esc1 c0).length), vI (Int32.ofNat (esc1 c1).length), vI (0 : Int32), vI (Int32.ofNat rs.length)] [(.int (34 : Int32))]) _
    refine R1 (XS.bipush X448.here hx rfl (dq (dg dlw 66 rfl)) ) ?_
    refine R1 (XS.icmpNo X448.here hx rfl (dq (dg dlw 67 rfl)) rfl (by decide : if_icmp.holds .ne (34 : Int32) (34 : Int32) = false)) ?_
    refine R1 (XS.aload X448.here hx rfl (dq (dg dlw 68 rfl)) rfl rfl) ?_
    refine R1 (XS.iload X448.here hx rfl (dq (dg dlw 69 rfl)) rfl) ?_
    refine R1 (XS.iconst X448.here hx rfl (dq (dg dlw 70 rfl)) ) ?_
    refine R1 (XS.isub X448.here hx rfl (dq (dg dlw 71 rfl)) rfl) ?_
    show Rch p e below T448 (mkF m 137 #[vI p0, vI p1, vI p2, vI p3, vI (2 : Int32), vI c0, vI c1, vI c2, vR t440, vR t442, vI (Int32.ofNat (esc1 c0).length), vI (Int32.ofNat (esc1 c1).length), vI (0 : Int32), vI (Int32.ofNat rs.length)] [(.int ((Int32.ofNat rs.length) - (1 : Int32))), (.ref t442)]) _
    rw [(show Int32.ofNat rs.length - (1 : Int32) = Int32.ofNat (rs.length - 1) from ofN_sub hpo (by omega))]
    show Rch p e below T448 (mkF m 137 #[vI p0, vI p1, vI p2, vI p3, vI (2 : Int32), vI c0, vI c1, vI c2, vR t440, vR t442, vI (Int32.ofNat (esc1 c0).length), vI (Int32.ofNat (esc1 c1).length), vI (0 : Int32), vI (Int32.ofNat rs.length)] [(.int (Int32.ofNat (rs.length - 1))), (.ref t442)]) _
    obtain ⟨cq449, kq449, q449a, q449b, q449c⟩ := isOf hZ442 e448 (SX).exa
    obtain ⟨_, _, ⟨T449, L449, k449, n449⟩, -, X449, ⟨Lc449, hQ449, l449, y449, z449⟩, st449⟩ := X448.virtualBack hx (y := mN7) (z := mN7) hown442 (mw hZ442 hw 129 rfl) (mw hZ442 hw 130 rfl) (notFace_of_selects (args := #[]) (mw hZ442 hw 132 rfl)) (mw hZ442 hw 132 rfl) (mw hZ442 hw 131 rfl) (by decide) (chS (W := 0) hZ442 hw SX (B.ext Ex443) (rs.length - 1) (by omega) (by omega) n0 (Nat.le_trans Z0 Ex443.1) (by decide) (by decide)) q449a q449c (g := (mkF m 137 #[vI p0, vI p1, vI p2, vI p3, vI (2 : Int32), vI c0, vI c1, vI c2, vR t440, vR t442, vI (Int32.ofNat (esc1 c0).length), vI (Int32.ofNat (esc1 c1).length), vI (0 : Int32), vI (Int32.ofNat rs.length)] [(.int (Int32.ofNat (rs.length - 1))), (.ref t442)])) rfl (by rw [hml]; rfl) (Steps.refl _) (argsL := [(.int (Int32.ofNat (rs.length - 1)))]) (rest := []) (lenOf pd_29 rfl) rfl (w0 rfl) (dq (dg dlw 72 rfl)) (fun _ _ => ⟨rfl, e448, (by decide : 37 + 0 ≤ _), (by decide : 991 + 0 ≤ _)⟩)
    dsimp only [Pt.U, Pt.locs, Pt.cells, Pt.slots] at X449 l449 y449 z449 st449 hQ449
    subst l449 y449 z449
    obtain ⟨rfl, Nq449, e449⟩ := hQ449
    have N449 := Fr.app N448 Nq449
    refine R2 st449 ?_
    show Rch p e below T449 (mkF m 140 #[vI p0, vI p1, vI p2, vI p3, vI (2 : Int32), vI c0, vI c1, vI c2, vR t440, vR t442, vI (Int32.ofNat (esc1 c0).length), vI (Int32.ofNat (esc1 c1).length), vI (0 : Int32), vI (Int32.ofNat rs.length)] [(.int (rs.getD (rs.length - 1) 0))]) _
    rw [(show rs.getD (rs.length - 1) 0 = (34 : Int32) from by rw [hrs]; exact q_last _)]
    show Rch p e below T449 (mkF m 140 #[vI p0, vI p1, vI p2, vI p3, vI (2 : Int32), vI c0, vI c1, vI c2, vR t440, vR t442, vI (Int32.ofNat (esc1 c0).length), vI (Int32.ofNat (esc1 c1).length), vI (0 : Int32), vI (Int32.ofNat rs.length)] [(.int (34 : Int32))]) _
    refine R1 (XS.bipush X449.here hx rfl (dq (dg dlw 73 rfl)) ) ?_
    refine R1 (XS.icmpYes X449.here hx rfl (pc0 := 142) (pc' := 147) rfl (dq (dg dlw 74 rfl)) rfl (by decide : if_icmp.holds .eq (34 : Int32) (34 : Int32) = true) (by decide) (by decide)) ?_
    refine R1 (XS.iload X449.here hx rfl (dq (dg dlw 75 rfl)) rfl) ?_
    refine R1 (XS.ifNo X449.here hx rfl (dq (dg dlw 76 rfl)) rfl (by decide : ifCond.holds .le (2 : Int32) = false)) ?_
    refine R1 (XS.aload X449.here hx rfl (dq (dg dlw 77 rfl)) rfl rfl) ?_
    refine R1 (XS.iconst X449.here hx rfl (dq (dg dlw 78 rfl)) ) ?_
    refine R1 (XS.iload X449.here hx rfl (dq (dg dlw 79 rfl)) rfl) ?_
    show Rch p e below T449 (mkF m 157 #[vI p0, vI p1, vI p2, vI p3, vI (2 : Int32), vI c0, vI c1, vI c2, vR t440, vR t442, vI (Int32.ofNat (esc1 c0).length), vI (Int32.ofNat (esc1 c1).length), vI (0 : Int32), vI (Int32.ofNat rs.length)] [(.int c0), (.int (1 : Int32)), (.ref t442)]) _
    obtain ⟨_, _, ⟨T450, L450, k450, n450⟩, -, X450, ⟨Lc450, hQ450, l450, y450, z450⟩, st450⟩ := Jvm.LawKit.callS X449 hx (y := mN50) hown442 (mw hZ442 hw 227 rfl) (mw hZ442 hw 228 rfl) (mw hZ442 hw 3 rfl) (mw hZ442 hw 229 rfl) (by decide) (backOf (W := 0) (rm_seg l Z a0 hw [] t442 rs ([34]) (esc1 c1 ++ [34]) c0 fm T442.heap n0 (Nat.le_trans Z0 Ex443.1) SX (B.ext Ex443) (by rw [hrs]; simp [escL]) (by omega)) hZ442 (wq hw 229 rfl) (wq hw 3 rfl) (by decide) (by decide)) (g := (mkF m 157 #[vI p0, vI p1, vI p2, vI p3, vI (2 : Int32), vI c0, vI c1, vI c2, vR t440, vR t442, vI (Int32.ofNat (esc1 c0).length), vI (Int32.ofNat (esc1 c1).length), vI (0 : Int32), vI (Int32.ofNat rs.length)] [(.int c0), (.int (1 : Int32)), (.ref t442)])) rfl (by rw [hml]; rfl) (argsL := [(.ref t442), (.int (1 : Int32)), (.int c0)]) (rest := []) (lenOf pd_39 rfl) rfl (w0 rfl) (dq (dg dlw 80 rfl)) (fun _ _ => ⟨rfl, e449, (by decide : 37 + 0 ≤ _), (by decide : 991 + 0 ≤ _)⟩)
    dsimp only [Pt.U, Pt.locs, Pt.cells, Pt.slots] at X450 l450 y450 z450 st450 hQ450
    subst l450 y450 z450
    obtain ⟨rfl, Nq450, e450⟩ := hQ450
    have N450 := Fr.app N449 Nq450
    refine R0_ st450 ?_
    show Rch p e below T450 (mkF m 160 #[vI p0, vI p1, vI p2, vI p3, vI (2 : Int32), vI c0, vI c1, vI c2, vR t440, vR t442, vI (Int32.ofNat (esc1 c0).length), vI (Int32.ofNat (esc1 c1).length), vI (0 : Int32), vI (Int32.ofNat rs.length)] [(.int (1 : Int32))]) _
    refine R1 (XS.ifYes X450.here hx rfl (pc0 := 160) (pc' := 165) rfl (dq (dg dlw 81 rfl)) rfl (by decide : ifCond.holds .ne (1 : Int32) = true) (by decide) (by decide)) ?_
    refine R1 (XS.iload X450.here hx rfl (dq (dg dlw 82 rfl)) rfl) ?_
    refine R1 (XS.iconst X450.here hx rfl (dq (dg dlw 83 rfl)) ) ?_
    refine R1 (XS.icmpNo X450.here hx rfl (dq (dg dlw 84 rfl)) rfl (by decide : if_icmp.holds .le (2 : Int32) (1 : Int32) = false)) ?_
    refine R1 (XS.aload X450.here hx rfl (dq (dg dlw 85 rfl)) rfl rfl) ?_
    refine R1 (XS.iconst X450.here hx rfl (dq (dg dlw 86 rfl)) ) ?_
    refine R1 (XS.iload X450.here hx rfl (dq (dg dlw 87 rfl)) rfl) ?_
    refine R1 (XS.iadd X450.here hx rfl (dq (dg dlw 88 rfl)) rfl) ?_
    refine R1 (XS.iload X450.here hx rfl (dq (dg dlw 89 rfl)) rfl) ?_
    show Rch p e below T450 (mkF m 179 #[vI p0, vI p1, vI p2, vI p3, vI (2 : Int32), vI c0, vI c1, vI c2, vR t440, vR t442, vI (Int32.ofNat (esc1 c0).length), vI (Int32.ofNat (esc1 c1).length), vI (0 : Int32), vI (Int32.ofNat rs.length)] [(.int c1), (.int ((1 : Int32) + (Int32.ofNat (esc1 c0).length))), (.ref t442)]) _
    rw [qoff_1]
    show Rch p e below T450 (mkF m 179 #[vI p0, vI p1, vI p2, vI p3, vI (2 : Int32), vI c0, vI c1, vI c2, vR t440, vR t442, vI (Int32.ofNat (esc1 c0).length), vI (Int32.ofNat (esc1 c1).length), vI (0 : Int32), vI (Int32.ofNat rs.length)] [(.int c1), (.int (Int32.ofNat ([34] ++ esc1 c0).length)), (.ref t442)]) _
    obtain ⟨_, _, ⟨T451, L451, k451, n451⟩, -, X451, ⟨Lc451, hQ451, l451, y451, z451⟩, st451⟩ := Jvm.LawKit.callS X450 hx (y := mN50) hown442 (mw hZ442 hw 227 rfl) (mw hZ442 hw 228 rfl) (mw hZ442 hw 3 rfl) (mw hZ442 hw 229 rfl) (by decide) (backOf (W := 0) (rm_seg l Z a0 hw [] t442 rs ([34] ++ esc1 c0) ([34]) c1 fm T442.heap n0 (Nat.le_trans Z0 Ex443.1) SX (B.ext Ex443) (by rw [hrs]; simp [escL]) (by omega)) hZ442 (wq hw 229 rfl) (wq hw 3 rfl) (by decide) (by decide)) (g := (mkF m 179 #[vI p0, vI p1, vI p2, vI p3, vI (2 : Int32), vI c0, vI c1, vI c2, vR t440, vR t442, vI (Int32.ofNat (esc1 c0).length), vI (Int32.ofNat (esc1 c1).length), vI (0 : Int32), vI (Int32.ofNat rs.length)] [(.int c1), (.int (Int32.ofNat ([34] ++ esc1 c0).length)), (.ref t442)])) rfl (by rw [hml]; rfl) (argsL := [(.ref t442), (.int (Int32.ofNat ([34] ++ esc1 c0).length)), (.int c1)]) (rest := []) (lenOf pd_39 rfl) rfl (w0 rfl) (dq (dg dlw 90 rfl)) (fun _ _ => ⟨rfl, e450, (by decide : 37 + 0 ≤ _), (by decide : 991 + 0 ≤ _)⟩)
    dsimp only [Pt.U, Pt.locs, Pt.cells, Pt.slots] at X451 l451 y451 z451 st451 hQ451
    subst l451 y451 z451
    obtain ⟨rfl, Nq451, e451⟩ := hQ451
    have N451 := Fr.app N450 Nq451
    refine R0_ st451 ?_
    show Rch p e below T451 (mkF m 182 #[vI p0, vI p1, vI p2, vI p3, vI (2 : Int32), vI c0, vI c1, vI c2, vR t440, vR t442, vI (Int32.ofNat (esc1 c0).length), vI (Int32.ofNat (esc1 c1).length), vI (0 : Int32), vI (Int32.ofNat rs.length)] [(.int (1 : Int32))]) _
    refine R1 (XS.ifYes X451.here hx rfl (pc0 := 182) (pc' := 187) rfl (dq (dg dlw 91 rfl)) rfl (by decide : ifCond.holds .ne (1 : Int32) = true) (by decide) (by decide)) ?_
    refine R1 (XS.iload X451.here hx rfl (dq (dg dlw 92 rfl)) rfl) ?_
    refine R1 (XS.iconst X451.here hx rfl (dq (dg dlw 93 rfl)) ) ?_
    refine R1 (XS.icmpYes X451.here hx rfl (pc0 := 190) (pc' := 212) rfl (dq (dg dlw 94 rfl)) rfl (by decide : if_icmp.holds .le (2 : Int32) (2 : Int32) = true) (by decide) (by decide)) ?_
    refine R1 (XS.iconst X451.here hx rfl (dq (dg dlw 104 rfl)) ) ?_
    show Rch p e below T451 (mkF m 213 #[vI p0, vI p1, vI p2, vI p3, vI (2 : Int32), vI c0, vI c1, vI c2, vR t440, vR t442, vI (Int32.ofNat (esc1 c0).length), vI (Int32.ofNat (esc1 c1).length), vI (0 : Int32), vI (Int32.ofNat rs.length)] [(.int (1 : Int32))]) _
    exact Rch.finW (Q := Q_law Z p0 p1 p2 p3 fm h0 n0) X451 hZ442 hEL hS442 (by rw [e451]; exact (Nat.le_refl _)) e451 R442 (v := some (.int (1 : Int32))) (fun h => by rw [Bd.returns] at h; cases h) (BodyLoose.notSynchronized Bd) (fun fs hr => retN X451 hx (t := .boolean) Bd.returns (by simp) (dq (dg dlw 105 rfl)) hr) (by rw [e451]; exact ⟨rfl, N451⟩) (by decide) (by decide)
  · skip
    rw [hn]
    show Rch p e below s₁ (mkF m 3 #[vI p0, vI p1, vI p2, vI p3, .unset, .unset, .unset, .unset, .unset, .unset, .unset, .unset, .unset, .unset] [(.int (3 : Int32))]) _
    refine R1 (XS.istore X0.here hx rfl (dq (dg dlw 3 rfl)) rfl (l' := #[vI p0, vI p1, vI p2, vI p3, vI (3 : Int32), .unset, .unset, .unset, .unset, .unset, .unset, .unset, .unset, .unset]) rfl) ?_
    refine R1 (XS.iloadN X0.here hx rfl (dq (dg dlw 4 rfl)) rfl) ?_
    show Rch p e below s₁ (mkF m 6 #[vI p0, vI p1, vI p2, vI p3, vI (3 : Int32), .unset, .unset, .unset, .unset, .unset, .unset, .unset, .unset, .unset] [(.int p1)]) _
    refine R0_ (X0.ldcInt hx hown (mw hZ hw 0 rfl) (g := (mkF m 6 #[vI p0, vI p1, vI p2, vI p3, vI (3 : Int32), .unset, .unset, .unset, .unset, .unset, .unset, .unset, .unset, .unset] [(.int p1)])) rfl (dq (dg dlw 5 rfl))) ?_
    show Rch p e below s₁ (mkF m 8 #[vI p0, vI p1, vI p2, vI p3, vI (3 : Int32), .unset, .unset, .unset, .unset, .unset, .unset, .unset, .unset, .unset] [(.int (65535 : Int32)), (.int p1)]) _
    refine R1 (XS.iand X0.here hx rfl (dq (dg dlw 6 rfl)) rfl) ?_
    refine R1 (XT.i2c X0.here hx rfl (dq (dg dlw 7 rfl)) rfl) ?_
    show Rch p e below s₁ (mkF m 10 #[vI p0, vI p1, vI p2, vI p3, vI (3 : Int32), .unset, .unset, .unset, .unset, .unset, .unset, .unset, .unset, .unset] [(.int ((p1 &&& (65535 : Int32)).toUInt32.toUInt16.toUInt32.toInt32))]) _
    generalize hc0 : ((p1 &&& (65535 : Int32)).toUInt32.toUInt16.toUInt32.toInt32) = c0
    have k0 : C16 c0 := hc0 ▸ c16_i2c _
    show Rch p e below s₁ (mkF m 10 #[vI p0, vI p1, vI p2, vI p3, vI (3 : Int32), .unset, .unset, .unset, .unset, .unset, .unset, .unset, .unset, .unset] [(.int c0)]) _
    refine R1 (XS.istore X0.here hx rfl (dq (dg dlw 8 rfl)) rfl (l' := #[vI p0, vI p1, vI p2, vI p3, vI (3 : Int32), vI c0, .unset, .unset, .unset, .unset, .unset, .unset, .unset, .unset]) rfl) ?_
    refine R1 (XS.iloadN X0.here hx rfl (dq (dg dlw 9 rfl)) rfl) ?_
    show Rch p e below s₁ (mkF m 13 #[vI p0, vI p1, vI p2, vI p3, vI (3 : Int32), vI c0, .unset, .unset, .unset, .unset, .unset, .unset, .unset, .unset] [(.int p2)]) _
    refine R0_ (X0.ldcInt hx hown (mw hZ hw 0 rfl) (g := (mkF m 13 #[vI p0, vI p1, vI p2, vI p3, vI (3 : Int32), vI c0, .unset, .unset, .unset, .unset, .unset, .unset, .unset, .unset] [(.int p2)])) rfl (dq (dg dlw 10 rfl))) ?_
    show Rch p e below s₁ (mkF m 15 #[vI p0, vI p1, vI p2, vI p3, vI (3 : Int32), vI c0, .unset, .unset, .unset, .unset, .unset, .unset, .unset, .unset] [(.int (65535 : Int32)), (.int p2)]) _
    refine R1 (XS.iand X0.here hx rfl (dq (dg dlw 11 rfl)) rfl) ?_
    refine R1 (XT.i2c X0.here hx rfl (dq (dg dlw 12 rfl)) rfl) ?_
    show Rch p e below s₁ (mkF m 17 #[vI p0, vI p1, vI p2, vI p3, vI (3 : Int32), vI c0, .unset, .unset, .unset, .unset, .unset, .unset, .unset, .unset] [(.int ((p2 &&& (65535 : Int32)).toUInt32.toUInt16.toUInt32.toInt32))]) _
    generalize hc1 : ((p2 &&& (65535 : Int32)).toUInt32.toUInt16.toUInt32.toInt32) = c1
    have k1 : C16 c1 := hc1 ▸ c16_i2c _
    show Rch p e below s₁ (mkF m 17 #[vI p0, vI p1, vI p2, vI p3, vI (3 : Int32), vI c0, .unset, .unset, .unset, .unset, .unset, .unset, .unset, .unset] [(.int c1)]) _
    refine R1 (XS.istore X0.here hx rfl (dq (dg dlw 13 rfl)) rfl (l' := #[vI p0, vI p1, vI p2, vI p3, vI (3 : Int32), vI c0, vI c1, .unset, .unset, .unset, .unset, .unset, .unset, .unset]) rfl) ?_
    refine R1 (XS.iloadN X0.here hx rfl (dq (dg dlw 14 rfl)) rfl) ?_
    show Rch p e below s₁ (mkF m 20 #[vI p0, vI p1, vI p2, vI p3, vI (3 : Int32), vI c0, vI c1, .unset, .unset, .unset, .unset, .unset, .unset, .unset] [(.int p3)]) _
    refine R0_ (X0.ldcInt hx hown (mw hZ hw 0 rfl) (g := (mkF m 20 #[vI p0, vI p1, vI p2, vI p3, vI (3 : Int32), vI c0, vI c1, .unset, .unset, .unset, .unset, .unset, .unset, .unset] [(.int p3)])) rfl (dq (dg dlw 15 rfl))) ?_
    show Rch p e below s₁ (mkF m 22 #[vI p0, vI p1, vI p2, vI p3, vI (3 : Int32), vI c0, vI c1, .unset, .unset, .unset, .unset, .unset, .unset, .unset] [(.int (65535 : Int32)), (.int p3)]) _
    refine R1 (XS.iand X0.here hx rfl (dq (dg dlw 16 rfl)) rfl) ?_
    refine R1 (XT.i2c X0.here hx rfl (dq (dg dlw 17 rfl)) rfl) ?_
    show Rch p e below s₁ (mkF m 24 #[vI p0, vI p1, vI p2, vI p3, vI (3 : Int32), vI c0, vI c1, .unset, .unset, .unset, .unset, .unset, .unset, .unset] [(.int ((p3 &&& (65535 : Int32)).toUInt32.toUInt16.toUInt32.toInt32))]) _
    generalize hc2 : ((p3 &&& (65535 : Int32)).toUInt32.toUInt16.toUInt32.toInt32) = c2
    have k2 : C16 c2 := hc2 ▸ c16_i2c _
    show Rch p e below s₁ (mkF m 24 #[vI p0, vI p1, vI p2, vI p3, vI (3 : Int32), vI c0, vI c1, .unset, .unset, .unset, .unset, .unset, .unset, .unset] [(.int c2)]) _
    refine R1 (XS.istore X0.here hx rfl (dq (dg dlw 18 rfl)) rfl (l' := #[vI p0, vI p1, vI p2, vI p3, vI (3 : Int32), vI c0, vI c1, vI c2, .unset, .unset, .unset, .unset, .unset, .unset]) rfl) ?_
    refine R1 (XS.iload X0.here hx rfl (dq (dg dlw 19 rfl)) rfl) ?_
    refine R1 (XS.iload X0.here hx rfl (dq (dg dlw 20 rfl)) rfl) ?_
    refine R1 (XS.iload X0.here hx rfl (dq (dg dlw 21 rfl)) rfl) ?_
    refine R1 (XS.iload X0.here hx rfl (dq (dg dlw 22 rfl)) rfl) ?_
    show Rch p e below s₁ (mkF m 34 #[vI p0, vI p1, vI p2, vI p3, vI (3 : Int32), vI c0, vI c1, vI c2, .unset, .unset, .unset, .unset, .unset, .unset] [(.int c2), (.int c1), (.int c0), (.int (3 : Int32))]) _
    obtain ⟨_, _, ⟨T452, L452, k452, n452⟩, -, X452_, hS452_, hg452_, ⟨Lc452, hQ452, l452, y452, z452, CR452⟩, st452⟩ := callSS X0 hx (y := mN51) hown (mw hZ hw 1 rfl) (mw hZ hw 2 rfl) (mw hZ hw 3 rfl) (mw hZ hw 4 rfl) (by decide) (backOfSH (W := 0) (rm_text3 l Z a0 hw [] c0 c1 c2 fm h0 n0 Z0 B k0 k1 k2) hZ (wq hw 4 rfl) (wq hw 3 rfl) (by decide) (by decide) hEL R0.1) (g := (mkF m 34 #[vI p0, vI p1, vI p2, vI p3, vI (3 : Int32), vI c0, vI c1, vI c2, .unset, .unset, .unset, .unset, .unset, .unset] [(.int c2), (.int c1), (.int c0), (.int (3 : Int32))])) rfl (by rw [hml]; rfl) (argsL := [(.int (3 : Int32)), (.int c0), (.int c1), (.int c2)]) (rest := []) (lenOf pd_36 rfl) rfl (w0 rfl) (dq (dg dlw 23 rfl)) (fun _ _ => ⟨rfl, e0, (by decide : 0 + 4 ≤ _), (by decide : 0 + 16 ≤ _)⟩)
    dsimp only [Pt.U, Pt.locs, Pt.cells, Pt.slots] at X452_ hS452_ hg452_ l452 y452 z452 st452 hQ452 CR452
    subst l452 y452 z452
    obtain ⟨X452, hS452, hZ452, hown452⟩ := rebS hS0 (by rw [e0]; exact (Nat.zero_le _)) X452_ hS452_ hg452_ hZ hown
    obtain ⟨t452, rfl, Nq452, E452, S452⟩ := hQ452
    have N452 := Fr.app N0 Nq452
    have R452 := R0.trans CR452
    have Ex453 : Ext h0 T452.heap := E452
    refine R2 st452 ?_
    show Rch p e below T452 (mkF m 37 #[vI p0, vI p1, vI p2, vI p3, vI (3 : Int32), vI c0, vI c1, vI c2, .unset, .unset, .unset, .unset, .unset, .unset] [(.ref t452)]) _
    refine R1 (XS.astore X452.here hx rfl (dq (dg dlw 24 rfl)) rfl rfl (l' := #[vI p0, vI p1, vI p2, vI p3, vI (3 : Int32), vI c0, vI c1, vI c2, vR t452, .unset, .unset, .unset, .unset, .unset]) rfl) ?_
    refine R1 (XS.aload X452.here hx rfl (dq (dg dlw 25 rfl)) rfl rfl) ?_
    show Rch p e below T452 (mkF m 41 #[vI p0, vI p1, vI p2, vI p3, vI (3 : Int32), vI c0, vI c1, vI c2, vR t452, .unset, .unset, .unset, .unset, .unset] [(.ref t452)]) _
    obtain ⟨_, _, ⟨T454, L454, k454, n454⟩, -, X454_, hS454_, hg454_, ⟨Lc454, hQ454, l454, y454, z454, CR454⟩, st454⟩ := callSS X452 hx (y := mN47) hown452 (mw hZ452 hw 27 rfl) (mw hZ452 hw 28 rfl) (mw hZ452 hw 29 rfl) (mw hZ452 hw 30 rfl) (by decide) (backOfSH (W := 0) (rm_outr l Z a0 hw [] t452 ([c0, c1, c2] : List Int32) fm T452.heap n0 (Nat.le_trans Z0 Ex453.1) S452 (B.ext Ex453) (Nat.le_of_ble_eq_true rfl)) hZ452 (wq hw 30 rfl) (wq hw 29 rfl) (by decide) (by decide) hEL R452.1) (g := (mkF m 41 #[vI p0, vI p1, vI p2, vI p3, vI (3 : Int32), vI c0, vI c1, vI c2, vR t452, .unset, .unset, .unset, .unset, .unset] [(.ref t452)])) rfl (by rw [hml]; rfl) (argsL := [(.ref t452)]) (rest := []) (lenOf pd_37 rfl) rfl (w0 rfl) (dq (dg dlw 26 rfl)) (fun _ _ => ⟨rfl, rfl, (by decide : 4 + 33 ≤ _), (by decide : 16 + 976 ≤ _)⟩)
    dsimp only [Pt.U, Pt.locs, Pt.cells, Pt.slots] at X454_ hS454_ hg454_ l454 y454 z454 st454 hQ454 CR454
    subst l454 y454 z454
    obtain ⟨X454, hS454, hZ454, hown454⟩ := rebS hS452 (Nat.le_refl _) X454_ hS454_ hg454_ hZ452 hown452
    obtain ⟨t454, tb454, rfl, Nq454, E454, S454⟩ := hQ454
    have N454 := Fr.app N452 Nq454
    have R454 := R452.trans CR454
    have Ex455 : Ext h0 T454.heap := Ex453.tr E454
    refine R2 st454 ?_
    show Rch p e below T454 (mkF m 44 #[vI p0, vI p1, vI p2, vI p3, vI (3 : Int32), vI c0, vI c1, vI c2, vR t452, .unset, .unset, .unset, .unset, .unset] [(.ref t454)]) _
    obtain ⟨rs, hrs⟩ : ∃ z, z = ([34] ++ escL ([c0, c1, c2] : List Int32) ++ [34]) := ⟨_, rfl⟩
    rw [← hrs] at S454
    have SX : StrA Z T454.heap t454 rs := S454.strA (by rw [hrs]; exact q_bd _)
    have hln : rs.length ≤ 20 := by rw [hrs]; exact q_len _ (Nat.le_of_ble_eq_true rfl)
    have hpo : 1 ≤ rs.length := by rw [hrs]; exact q_pos _
    refine R1 (XS.astore X454.here hx rfl (dq (dg dlw 27 rfl)) rfl rfl (l' := #[vI p0, vI p1, vI p2, vI p3, vI (3 : Int32), vI c0, vI c1, vI c2, vR t452, vR t454, .unset, .unset, .unset, .unset]) rfl) ?_
    refine R1 (XS.iload X454.here hx rfl (dq (dg dlw 28 rfl)) rfl) ?_
    refine R1 (XS.ifNo X454.here hx rfl (dq (dg dlw 29 rfl)) rfl (by decide : ifCond.holds .le (3 : Int32) = false)) ?_
    refine R1 (XS.iload X454.here hx rfl (dq (dg dlw 30 rfl)) rfl) ?_
    show Rch p e below T454 (mkF m 53 #[vI p0, vI p1, vI p2, vI p3, vI (3 : Int32), vI c0, vI c1, vI c2, vR t452, vR t454, .unset, .unset, .unset, .unset] [(.int c0)]) _
    obtain ⟨_, _, ⟨T457, L457, k457, n457⟩, -, X457, ⟨Lc457, hQ457, l457, y457, z457⟩, st457⟩ := Jvm.LawKit.callS X454 hx (y := mN48) hown454 (mw hZ454 hw 224 rfl) (mw hZ454 hw 225 rfl) (mw hZ454 hw 3 rfl) (mw hZ454 hw 226 rfl) (by decide) (backOf (W := 0) (rm_elen l Z a0 hw [] c0 T454.heap n0 (Nat.le_trans Z0 Ex455.1)) hZ454 (wq hw 226 rfl) (wq hw 3 rfl) (by decide) (by decide)) (g := (mkF m 53 #[vI p0, vI p1, vI p2, vI p3, vI (3 : Int32), vI c0, vI c1, vI c2, vR t452, vR t454, .unset, .unset, .unset, .unset] [(.int c0)])) rfl (by rw [hml]; rfl) (argsL := [(.int c0)]) (rest := []) (lenOf pd_38 rfl) rfl (w0 rfl) (dq (dg dlw 31 rfl)) (fun _ _ => ⟨rfl, rfl, (by decide : 37 + 0 ≤ _), (by decide : 992 + 0 ≤ _)⟩)
    dsimp only [Pt.U, Pt.locs, Pt.cells, Pt.slots] at X457 l457 y457 z457 st457 hQ457
    subst l457 y457 z457
    obtain ⟨rfl, Nq457, e457⟩ := hQ457
    have N457 := Fr.app N454 Nq457
    refine R0_ st457 ?_
    show Rch p e below T457 (mkF m 56 #[vI p0, vI p1, vI p2, vI p3, vI (3 : Int32), vI c0, vI c1, vI c2, vR t452, vR t454, .unset, .unset, .unset, .unset] [(.int (Int32.ofNat (esc1 c0).length))]) _
    refine R1 (XS.goto X457.here hx rfl (pc0 := 56) (pc' := 60) rfl (dq (dg dlw 32 rfl)) (by decide) (by decide)) ?_
    refine R1 (XS.istore X457.here hx rfl (dq (dg dlw 34 rfl)) rfl (l' := #[vI p0, vI p1, vI p2, vI p3, vI (3 : Int32), vI c0, vI c1, vI c2, vR t452, vR t454, vI (Int32.ofNat (esc1 c0).length), .unset, .unset, .unset]) rfl) ?_
    refine R1 (XS.iload X457.here hx rfl (dq (dg dlw 35 rfl)) rfl) ?_
    refine R1 (XS.iconst X457.here hx rfl (dq (dg dlw 36 rfl)) ) ?_
    refine R1 (XS.icmpNo X457.here hx rfl (dq (dg dlw 37 rfl)) rfl (by decide : if_icmp.holds .le (3 : Int32) (1 : Int32) = false)) ?_
    refine R1 (XS.iload X457.here hx rfl (dq (dg dlw 38 rfl)) rfl) ?_
    show Rch p e below T457 (mkF m 70 #[vI p0, vI p1, vI p2, vI p3, vI (3 : Int32), vI c0, vI c1, vI c2, vR t452, vR t454, vI (Int32.ofNat (esc1 c0).length), .unset, .unset, .unset] [(.int c1)]) _
    obtain ⟨_, _, ⟨T458, L458, k458, n458⟩, -, X458, ⟨Lc458, hQ458, l458, y458, z458⟩, st458⟩ := Jvm.LawKit.callS X457 hx (y := mN48) hown454 (mw hZ454 hw 224 rfl) (mw hZ454 hw 225 rfl) (mw hZ454 hw 3 rfl) (mw hZ454 hw 226 rfl) (by decide) (backOf (W := 0) (rm_elen l Z a0 hw [] c1 T454.heap n0 (Nat.le_trans Z0 Ex455.1)) hZ454 (wq hw 226 rfl) (wq hw 3 rfl) (by decide) (by decide)) (g := (mkF m 70 #[vI p0, vI p1, vI p2, vI p3, vI (3 : Int32), vI c0, vI c1, vI c2, vR t452, vR t454, vI (Int32.ofNat (esc1 c0).length), .unset, .unset, .unset] [(.int c1)])) rfl (by rw [hml]; rfl) (argsL := [(.int c1)]) (rest := []) (lenOf pd_38 rfl) rfl (w0 rfl) (dq (dg dlw 39 rfl)) (fun _ _ => ⟨rfl, e457, (by decide : 37 + 0 ≤ _), (by decide : 992 + 0 ≤ _)⟩)
    dsimp only [Pt.U, Pt.locs, Pt.cells, Pt.slots] at X458 l458 y458 z458 st458 hQ458
    subst l458 y458 z458
    obtain ⟨rfl, Nq458, e458⟩ := hQ458
    have N458 := Fr.app N457 Nq458
    refine R0_ st458 ?_
    show Rch p e below T458 (mkF m 73 #[vI p0, vI p1, vI p2, vI p3, vI (3 : Int32), vI c0, vI c1, vI c2, vR t452, vR t454, vI (Int32.ofNat (esc1 c0).length), .unset, .unset, .unset] [(.int (Int32.ofNat (esc1 c1).length))]) _
    refine R1 (XS.goto X458.here hx rfl (pc0 := 73) (pc' := 77) rfl (dq (dg dlw 40 rfl)) (by decide) (by decide)) ?_
    refine R1 (XS.istore X458.here hx rfl (dq (dg dlw 42 rfl)) rfl (l' := #[vI p0, vI p1, vI p2, vI p3, vI (3 : Int32), vI c0, vI c1, vI c2, vR t452, vR t454, vI (Int32.ofNat (esc1 c0).length), vI (Int32.ofNat (esc1 c1).length), .unset, .unset]) rfl) ?_
    refine R1 (XS.iload X458.here hx rfl (dq (dg dlw 43 rfl)) rfl) ?_
    refine R1 (XS.iconst X458.here hx rfl (dq (dg dlw 44 rfl)) ) ?_
    refine R1 (XS.icmpNo X458.here hx rfl (dq (dg dlw 45 rfl)) rfl (by decide : if_icmp.holds .le (3 : Int32) (2 : Int32) = false)) ?_
    refine R1 (XS.iload X458.here hx rfl (dq (dg dlw 46 rfl)) rfl) ?_
    show Rch p e below T458 (mkF m 87 #[vI p0, vI p1, vI p2, vI p3, vI (3 : Int32), vI c0, vI c1, vI c2, vR t452, vR t454, vI (Int32.ofNat (esc1 c0).length), vI (Int32.ofNat (esc1 c1).length), .unset, .unset] [(.int c2)]) _
    obtain ⟨_, _, ⟨T459, L459, k459, n459⟩, -, X459, ⟨Lc459, hQ459, l459, y459, z459⟩, st459⟩ := Jvm.LawKit.callS X458 hx (y := mN48) hown454 (mw hZ454 hw 224 rfl) (mw hZ454 hw 225 rfl) (mw hZ454 hw 3 rfl) (mw hZ454 hw 226 rfl) (by decide) (backOf (W := 0) (rm_elen l Z a0 hw [] c2 T454.heap n0 (Nat.le_trans Z0 Ex455.1)) hZ454 (wq hw 226 rfl) (wq hw 3 rfl) (by decide) (by decide)) (g := (mkF m 87 #[vI p0, vI p1, vI p2, vI p3, vI (3 : Int32), vI c0, vI c1, vI c2, vR t452, vR t454, vI (Int32.ofNat (esc1 c0).length), vI (Int32.ofNat (esc1 c1).length), .unset, .unset] [(.int c2)])) rfl (by rw [hml]; rfl) (argsL := [(.int c2)]) (rest := []) (lenOf pd_38 rfl) rfl (w0 rfl) (dq (dg dlw 47 rfl)) (fun _ _ => ⟨rfl, e458, (by decide : 37 + 0 ≤ _), (by decide : 992 + 0 ≤ _)⟩)
    dsimp only [Pt.U, Pt.locs, Pt.cells, Pt.slots] at X459 l459 y459 z459 st459 hQ459
    subst l459 y459 z459
    obtain ⟨rfl, Nq459, e459⟩ := hQ459
    have N459 := Fr.app N458 Nq459
    refine R0_ st459 ?_
    show Rch p e below T459 (mkF m 90 #[vI p0, vI p1, vI p2, vI p3, vI (3 : Int32), vI c0, vI c1, vI c2, vR t452, vR t454, vI (Int32.ofNat (esc1 c0).length), vI (Int32.ofNat (esc1 c1).length), .unset, .unset] [(.int (Int32.ofNat (esc1 c2).length))]) _
    refine R1 (XS.goto X459.here hx rfl (pc0 := 90) (pc' := 94) rfl (dq (dg dlw 48 rfl)) (by decide) (by decide)) ?_
    refine R1 (XS.istore X459.here hx rfl (dq (dg dlw 50 rfl)) rfl (l' := #[vI p0, vI p1, vI p2, vI p3, vI (3 : Int32), vI c0, vI c1, vI c2, vR t452, vR t454, vI (Int32.ofNat (esc1 c0).length), vI (Int32.ofNat (esc1 c1).length), vI (Int32.ofNat (esc1 c2).length), .unset]) rfl) ?_
    refine R1 (XS.iconst X459.here hx rfl (dq (dg dlw 51 rfl)) ) ?_
    refine R1 (XS.iload X459.here hx rfl (dq (dg dlw 52 rfl)) rfl) ?_
    refine R1 (XS.iadd X459.here hx rfl (dq (dg dlw 53 rfl)) rfl) ?_
    refine R1 (XS.iload X459.here hx rfl (dq (dg dlw 54 rfl)) rfl) ?_
    refine R1 (XS.iadd X459.here hx rfl (dq (dg dlw 55 rfl)) rfl) ?_
    refine R1 (XS.iload X459.here hx rfl (dq (dg dlw 56 rfl)) rfl) ?_
    refine R1 (XS.iadd X459.here hx rfl (dq (dg dlw 57 rfl)) rfl) ?_
    show Rch p e below T459 (mkF m 106 #[vI p0, vI p1, vI p2, vI p3, vI (3 : Int32), vI c0, vI c1, vI c2, vR t452, vR t454, vI (Int32.ofNat (esc1 c0).length), vI (Int32.ofNat (esc1 c1).length), vI (Int32.ofNat (esc1 c2).length), .unset] [(.int ((((2 : Int32) + (Int32.ofNat (esc1 c0).length)) + (Int32.ofNat (esc1 c1).length)) + (Int32.ofNat (esc1 c2).length)))]) _
    rw [(show ((((2 : Int32) + (Int32.ofNat (esc1 c0).length)) + (Int32.ofNat (esc1 c1).length)) + (Int32.ofNat (esc1 c2).length)) = Int32.ofNat rs.length from by rw [hrs]; exact qlen_3 c0 c1 c2)]
    show Rch p e below T459 (mkF m 106 #[vI p0, vI p1, vI p2, vI p3, vI (3 : Int32), vI c0, vI c1, vI c2, vR t452, vR t454, vI (Int32.ofNat (esc1 c0).length), vI (Int32.ofNat (esc1 c1).length), vI (Int32.ofNat (esc1 c2).length), .unset] [(.int (Int32.ofNat rs.length))]) _
    refine R1 (XS.istore X459.here hx rfl (dq (dg dlw 58 rfl)) rfl (l' := #[vI p0, vI p1, vI p2, vI p3, vI (3 : Int32), vI c0, vI c1, vI c2, vR t452, vR t454, vI (Int32.ofNat (esc1 c0).length), vI (Int32.ofNat (esc1 c1).length), vI (Int32.ofNat (esc1 c2).length), vI (Int32.ofNat rs.length)]) rfl) ?_
    refine R1 (XS.aload X459.here hx rfl (dq (dg dlw 59 rfl)) rfl rfl) ?_
    show Rch p e below T459 (mkF m 110 #[vI p0, vI p1, vI p2, vI p3, vI (3 : Int32), vI c0, vI c1, vI c2, vR t452, vR t454, vI (Int32.ofNat (esc1 c0).length), vI (Int32.ofNat (esc1 c1).length), vI (Int32.ofNat (esc1 c2).length), vI (Int32.ofNat rs.length)] [(.ref t454)]) _
    obtain ⟨cq460, kq460, q460a, q460b, q460c⟩ := isOf hZ454 e459 (SX).exa
    obtain ⟨_, _, ⟨T460, L460, k460, n460⟩, -, X460, ⟨Lc460, hQ460, l460, y460, z460⟩, st460⟩ := X459.virtualBack hx (y := mN31) (z := mN31) hown454 (mw hZ454 hw 128 rfl) (mw hZ454 hw 35 rfl) (notFace_of_selects (args := #[]) (mw hZ454 hw 37 rfl)) (mw hZ454 hw 37 rfl) (mw hZ454 hw 36 rfl) (by decide) (lenS (W := 0) hZ454 hw SX (B.ext Ex455).1 (by omega) (by decide) (by decide)) q460a q460c (g := (mkF m 110 #[vI p0, vI p1, vI p2, vI p3, vI (3 : Int32), vI c0, vI c1, vI c2, vR t452, vR t454, vI (Int32.ofNat (esc1 c0).length), vI (Int32.ofNat (esc1 c1).length), vI (Int32.ofNat (esc1 c2).length), vI (Int32.ofNat rs.length)] [(.ref t454)])) rfl (by rw [hml]; rfl) (Steps.refl _) (argsL := []) (rest := []) (lenOf pd_17 rfl) rfl (w0 rfl) (dq (dg dlw 60 rfl)) (fun _ _ => ⟨rfl, e459, (by decide : 37 + 0 ≤ _), (by decide : 992 + 0 ≤ _)⟩)
    dsimp only [Pt.U, Pt.locs, Pt.cells, Pt.slots] at X460 l460 y460 z460 st460 hQ460
    subst l460 y460 z460
    obtain ⟨rfl, hL460, e460⟩ := hQ460
    subst hL460
    have Nq460 := Fr.nil n0
    have N460 := Fr.app N459 Nq460
    refine R2 st460 ?_
    show Rch p e below T460 (mkF m 113 #[vI p0, vI p1, vI p2, vI p3, vI (3 : Int32), vI c0, vI c1, vI c2, vR t452, vR t454, vI (Int32.ofNat (esc1 c0).length), vI (Int32.ofNat (esc1 c1).length), vI (Int32.ofNat (esc1 c2).length), vI (Int32.ofNat rs.length)] [(.int (Int32.ofNat rs.length))]) _
    refine R1 (XS.iload X460.here hx rfl (dq (dg dlw 61 rfl)) rfl) ?_
    refine R1 (XS.icmpYes X460.here hx rfl (pc0 := 115) (pc' := 120) rfl (dq (dg dlw 62 rfl)) rfl (teq (rfl : Int32.ofNat rs.length = Int32.ofNat rs.length)).1 (by decide) (by decide)) ?_
    refine R1 (XS.aload X460.here hx rfl (dq (dg dlw 63 rfl)) rfl rfl) ?_
    refine R1 (XS.iconst X460.here hx rfl (dq (dg dlw 64 rfl)) ) ?_
    show Rch p e below T460 (mkF m 123 #[vI p0, vI p1, vI p2, vI p3, vI (3 : Int32), vI c0, vI c1, vI c2, vR t452, vR t454, vI (Int32.ofNat (esc1 c0).length), vI (Int32.ofNat (esc1 c1).length), vI (Int32.ofNat (esc1 c2).length), vI (Int32.ofNat rs.length)] [(.int (0 : Int32)), (.ref t454)]) _
    obtain ⟨cq461, kq461, q461a, q461b, q461c⟩ := isOf hZ454 e460 (SX).exa
    obtain ⟨_, _, ⟨T461, L461, k461, n461⟩, -, X461, ⟨Lc461, hQ461, l461, y461, z461⟩, st461⟩ := X460.virtualBack hx (y := mN7) (z := mN7) hown454 (mw hZ454 hw 129 rfl) (mw hZ454 hw 130 rfl) (notFace_of_selects (args := #[]) (mw hZ454 hw 132 rfl)) (mw hZ454 hw 132 rfl) (mw hZ454 hw 131 rfl) (by decide) (chS (W := 0) hZ454 hw SX (B.ext Ex455) 0 (by omega) (by omega) n0 (Nat.le_trans Z0 Ex455.1) (by decide) (by decide)) q461a q461c (g := (mkF m 123 #[vI p0, vI p1, vI p2, vI p3, vI (3 : Int32), vI c0, vI c1, vI c2, vR t452, vR t454, vI (Int32.ofNat (esc1 c0).length), vI (Int32.ofNat (esc1 c1).length), vI (Int32.ofNat (esc1 c2).length), vI (Int32.ofNat rs.length)] [(.int (0 : Int32)), (.ref t454)])) rfl (by rw [hml]; rfl) (Steps.refl _) (argsL := [(.int (0 : Int32))]) (rest := []) (lenOf pd_29 rfl) rfl (w0 rfl) (dq (dg dlw 65 rfl)) (fun _ _ => ⟨rfl, e460, (by decide : 37 + 0 ≤ _), (by decide : 992 + 0 ≤ _)⟩)
    dsimp only [Pt.U, Pt.locs, Pt.cells, Pt.slots] at X461 l461 y461 z461 st461 hQ461
    subst l461 y461 z461
    obtain ⟨rfl, Nq461, e461⟩ := hQ461
    have N461 := Fr.app N460 Nq461
    refine R2 st461 ?_
    show Rch p e below T461 (mkF m 126 #[vI p0, vI p1, vI p2, vI p3, vI (3 : Int32), vI c0, vI c1, vI c2, vR t452, vR t454, vI (Int32.ofNat (esc1 c0).length), vI (Int32.ofNat (esc1 c1).length), vI (Int32.ofNat (esc1 c2).length), vI (Int32.ofNat rs.length)] [(.int (rs.getD 0 0))]) _
    rw [(show rs.getD 0 0 = (34 : Int32) from by rw [hrs]; rfl)]
    show Rch p e below T461 (mkF m 126 #[vI p0, vI p1, vI p2, vI p3, vI (3 : Int32), vI c0, vI c1, vI c2, vR t452, vR t454, vI (Int32.ofNat (esc1 c0).length), vI (Int32.ofNat (esc1 c1).length), vI (Int32.ofNat (esc1 c2).length), vI (Int32.ofNat rs.length)] [(.int (34 : Int32))]) _
    refine R1 (XS.bipush X461.here hx rfl (dq (dg dlw 66 rfl)) ) ?_
    refine R1 (XS.icmpNo X461.here hx rfl (dq (dg dlw 67 rfl)) rfl (by decide : if_icmp.holds .ne (34 : Int32) (34 : Int32) = false)) ?_
    refine R1 (XS.aload X461.here hx rfl (dq (dg dlw 68 rfl)) rfl rfl) ?_
    refine R1 (XS.iload X461.here hx rfl (dq (dg dlw 69 rfl)) rfl) ?_
    refine R1 (XS.iconst X461.here hx rfl (dq (dg dlw 70 rfl)) ) ?_
    refine R1 (XS.isub X461.here hx rfl (dq (dg dlw 71 rfl)) rfl) ?_
    show Rch p e below T461 (mkF m 137 #[vI p0, vI p1, vI p2, vI p3, vI (3 : Int32), vI c0, vI c1, vI c2, vR t452, vR t454, vI (Int32.ofNat (esc1 c0).length), vI (Int32.ofNat (esc1 c1).length), vI (Int32.ofNat (esc1 c2).length), vI (Int32.ofNat rs.length)] [(.int ((Int32.ofNat rs.length) - (1 : Int32))), (.ref t454)]) _
    rw [(show Int32.ofNat rs.length - (1 : Int32) = Int32.ofNat (rs.length - 1) from ofN_sub hpo (by omega))]
    show Rch p e below T461 (mkF m 137 #[vI p0, vI p1, vI p2, vI p3, vI (3 : Int32), vI c0, vI c1, vI c2, vR t452, vR t454, vI (Int32.ofNat (esc1 c0).length), vI (Int32.ofNat (esc1 c1).length), vI (Int32.ofNat (esc1 c2).length), vI (Int32.ofNat rs.length)] [(.int (Int32.ofNat (rs.length - 1))), (.ref t454)]) _
    obtain ⟨cq462, kq462, q462a, q462b, q462c⟩ := isOf hZ454 e461 (SX).exa
    obtain ⟨_, _, ⟨T462, L462, k462, n462⟩, -, X462, ⟨Lc462, hQ462, l462, y462, z462⟩, st462⟩ := X461.virtualBack hx (y := mN7) (z := mN7) hown454 (mw hZ454 hw 129 rfl) (mw hZ454 hw 130 rfl) (notFace_of_selects (args := #[]) (mw hZ454 hw 132 rfl)) (mw hZ454 hw 132 rfl) (mw hZ454 hw 131 rfl) (by decide) (chS (W := 0) hZ454 hw SX (B.ext Ex455) (rs.length - 1) (by omega) (by omega) n0 (Nat.le_trans Z0 Ex455.1) (by decide) (by decide)) q462a q462c (g := (mkF m 137 #[vI p0, vI p1, vI p2, vI p3, vI (3 : Int32), vI c0, vI c1, vI c2, vR t452, vR t454, vI (Int32.ofNat (esc1 c0).length), vI (Int32.ofNat (esc1 c1).length), vI (Int32.ofNat (esc1 c2).length), vI (Int32.ofNat rs.length)] [(.int (Int32.ofNat (rs.length - 1))), (.ref t454)])) rfl (by rw [hml]; rfl) (Steps.refl _) (argsL := [(.int (Int32.ofNat (rs.length - 1)))]) (rest := []) (lenOf pd_29 rfl) rfl (w0 rfl) (dq (dg dlw 72 rfl)) (fun _ _ => ⟨rfl, e461, (by decide : 37 + 0 ≤ _), (by decide : 992 + 0 ≤ _)⟩)
    dsimp only [Pt.U, Pt.locs, Pt.cells, Pt.slots] at X462 l462 y462 z462 st462 hQ462
    subst l462 y462 z462
    obtain ⟨rfl, Nq462, e462⟩ := hQ462
    have N462 := Fr.app N461 Nq462
    refine R2 st462 ?_
    show Rch p e below T462 (mkF m 140 #[vI p0, vI p1, vI p2, vI p3, vI (3 : Int32), vI c0, vI c1, vI c2, vR t452, vR t454, vI (Int32.ofNat (esc1 c0).length), vI (Int32.ofNat (esc1 c1).length), vI (Int32.ofNat (esc1 c2).length), vI (Int32.ofNat rs.length)] [(.int (rs.getD (rs.length - 1) 0))]) _
    rw [(show rs.getD (rs.length - 1) 0 = (34 : Int32) from by rw [hrs]; exact q_last _)]
    show Rch p e below T462 (mkF m 140 #[vI p0, vI p1, vI p2, vI p3, vI (3 : Int32), vI c0, vI c1, vI c2, vR t452, vR t454, vI (Int32.ofNat (esc1 c0).length), vI (Int32.ofNat (esc1 c1).length), vI (Int32.ofNat (esc1 c2).length), vI (Int32.ofNat rs.length)] [(.int (34 : Int32))]) _
    refine R1 (XS.bipush X462.here hx rfl (dq (dg dlw 73 rfl)) ) ?_
    refine R1 (XS.icmpYes X462.here hx rfl (pc0 := 142) (pc' := 147) rfl (dq (dg dlw 74 rfl)) rfl (by decide : if_icmp.holds .eq (34 : Int32) (34 : Int32) = true) (by decide) (by decide)) ?_
    refine R1 (XS.iload X462.here hx rfl (dq (dg dlw 75 rfl)) rfl) ?_
    refine R1 (XS.ifNo X462.here hx rfl (dq (dg dlw 76 rfl)) rfl (by decide : ifCond.holds .le (3 : Int32) = false)) ?_
    refine R1 (XS.aload X462.here hx rfl (dq (dg dlw 77 rfl)) rfl rfl) ?_
    refine R1 (XS.iconst X462.here hx rfl (dq (dg dlw 78 rfl)) ) ?_
    refine R1 (XS.iload X462.here hx rfl (dq (dg dlw 79 rfl)) rfl) ?_
    show Rch p e below T462 (mkF m 157 #[vI p0, vI p1, vI p2, vI p3, vI (3 : Int32), vI c0, vI c1, vI c2, vR t452, vR t454, vI (Int32.ofNat (esc1 c0).length), vI (Int32.ofNat (esc1 c1).length), vI (Int32.ofNat (esc1 c2).length), vI (Int32.ofNat rs.length)] [(.int c0), (.int (1 : Int32)), (.ref t454)]) _
    obtain ⟨_, _, ⟨T463, L463, k463, n463⟩, -, X463, ⟨Lc463, hQ463, l463, y463, z463⟩, st463⟩ := Jvm.LawKit.callS X462 hx (y := mN50) hown454 (mw hZ454 hw 227 rfl) (mw hZ454 hw 228 rfl) (mw hZ454 hw 3 rfl) (mw hZ454 hw 229 rfl) (by decide) (backOf (W := 0) (rm_seg l Z a0 hw [] t454 rs ([34]) (esc1 c1 ++ esc1 c2 ++ [34]) c0 fm T454.heap n0 (Nat.le_trans Z0 Ex455.1) SX (B.ext Ex455) (by rw [hrs]; simp [escL]) (by omega)) hZ454 (wq hw 229 rfl) (wq hw 3 rfl) (by decide) (by decide)) (g := (mkF m 157 #[vI p0, vI p1, vI p2, vI p3, vI (3 : Int32), vI c0, vI c1, vI c2, vR t452, vR t454, vI (Int32.ofNat (esc1 c0).length), vI (Int32.ofNat (esc1 c1).length), vI (Int32.ofNat (esc1 c2).length), vI (Int32.ofNat rs.length)] [(.int c0), (.int (1 : Int32)), (.ref t454)])) rfl (by rw [hml]; rfl) (argsL := [(.ref t454), (.int (1 : Int32)), (.int c0)]) (rest := []) (lenOf pd_39 rfl) rfl (w0 rfl) (dq (dg dlw 80 rfl)) (fun _ _ => ⟨rfl, e462, (by decide : 37 + 0 ≤ _), (by decide : 992 + 0 ≤ _)⟩)
    dsimp only [Pt.U, Pt.locs, Pt.cells, Pt.slots] at X463 l463 y463 z463 st463 hQ463
    subst l463 y463 z463
    obtain ⟨rfl, Nq463, e463⟩ := hQ463
    have N463 := Fr.app N462 Nq463
    refine R0_ st463 ?_
    show Rch p e below T463 (mkF m 160 #[vI p0, vI p1, vI p2, vI p3, vI (3 : Int32), vI c0, vI c1, vI c2, vR t452, vR t454, vI (Int32.ofNat (esc1 c0).length), vI (Int32.ofNat (esc1 c1).length), vI (Int32.ofNat (esc1 c2).length), vI (Int32.ofNat rs.length)] [(.int (1 : Int32))]) _
    refine R1 (XS.ifYes X463.here hx rfl (pc0 := 160) (pc' := 165) rfl (dq (dg dlw 81 rfl)) rfl (by decide : ifCond.holds .ne (1 : Int32) = true) (by decide) (by decide)) ?_
    refine R1 (XS.iload X463.here hx rfl (dq (dg dlw 82 rfl)) rfl) ?_
    refine R1 (XS.iconst X463.here hx rfl (dq (dg dlw 83 rfl)) ) ?_
    refine R1 (XS.icmpNo X463.here hx rfl (dq (dg dlw 84 rfl)) rfl (by decide : if_icmp.holds .le (3 : Int32) (1 : Int32) = false)) ?_
    refine R1 (XS.aload X463.here hx rfl (dq (dg dlw 85 rfl)) rfl rfl) ?_
    refine R1 (XS.iconst X463.here hx rfl (dq (dg dlw 86 rfl)) ) ?_
    refine R1 (XS.iload X463.here hx rfl (dq (dg dlw 87 rfl)) rfl) ?_
    refine R1 (XS.iadd X463.here hx rfl (dq (dg dlw 88 rfl)) rfl) ?_
    refine R1 (XS.iload X463.here hx rfl (dq (dg dlw 89 rfl)) rfl) ?_
    show Rch p e below T463 (mkF m 179 #[vI p0, vI p1, vI p2, vI p3, vI (3 : Int32), vI c0, vI c1, vI c2, vR t452, vR t454, vI (Int32.ofNat (esc1 c0).length), vI (Int32.ofNat (esc1 c1).length), vI (Int32.ofNat (esc1 c2).length), vI (Int32.ofNat rs.length)] [(.int c1), (.int ((1 : Int32) + (Int32.ofNat (esc1 c0).length))), (.ref t454)]) _
    rw [qoff_1]
    show Rch p e below T463 (mkF m 179 #[vI p0, vI p1, vI p2, vI p3, vI (3 : Int32), vI c0, vI c1, vI c2, vR t452, vR t454, vI (Int32.ofNat (esc1 c0).length), vI (Int32.ofNat (esc1 c1).length), vI (Int32.ofNat (esc1 c2).length), vI (Int32.ofNat rs.length)] [(.int c1), (.int (Int32.ofNat ([34] ++ esc1 c0).length)), (.ref t454)]) _
    obtain ⟨_, _, ⟨T464, L464, k464, n464⟩, -, X464, ⟨Lc464, hQ464, l464, y464, z464⟩, st464⟩ := Jvm.LawKit.callS X463 hx (y := mN50) hown454 (mw hZ454 hw 227 rfl) (mw hZ454 hw 228 rfl) (mw hZ454 hw 3 rfl) (mw hZ454 hw 229 rfl) (by decide) (backOf (W := 0) (rm_seg l Z a0 hw [] t454 rs ([34] ++ esc1 c0) (esc1 c2 ++ [34]) c1 fm T454.heap n0 (Nat.le_trans Z0 Ex455.1) SX (B.ext Ex455) (by rw [hrs]; simp [escL]) (by omega)) hZ454 (wq hw 229 rfl) (wq hw 3 rfl) (by decide) (by decide)) (g := (mkF m 179 #[vI p0, vI p1, vI p2, vI p3, vI (3 : Int32), vI c0, vI c1, vI c2, vR t452, vR t454, vI (Int32.ofNat (esc1 c0).length), vI (Int32.ofNat (esc1 c1).length), vI (Int32.ofNat (esc1 c2).length), vI (Int32.ofNat rs.length)] [(.int c1), (.int (Int32.ofNat ([34] ++ esc1 c0).length)), (.ref t454)])) rfl (by rw [hml]; rfl) (argsL := [(.ref t454), (.int (Int32.ofNat ([34] ++ esc1 c0).length)), (.int c1)]) (rest := []) (lenOf pd_39 rfl) rfl (w0 rfl) (dq (dg dlw 90 rfl)) (fun _ _ => ⟨rfl, e463, (by decide : 37 + 0 ≤ _), (by decide : 992 + 0 ≤ _)⟩)
    dsimp only [Pt.U, Pt.locs, Pt.cells, Pt.slots] at X464 l464 y464 z464 st464 hQ464
    subst l464 y464 z464
    obtain ⟨rfl, Nq464, e464⟩ := hQ464
    have N464 := Fr.app N463 Nq464
    refine R0_ st464 ?_
    show Rch p e below T464 (mkF m 182 #[vI p0, vI p1, vI p2, vI p3, vI (3 : Int32), vI c0, vI c1, vI c2, vR t452, vR t454, vI (Int32.ofNat (esc1 c0).length), vI (Int32.ofNat (esc1 c1).length), vI (Int32.ofNat (esc1 c2).length), vI (Int32.ofNat rs.length)] [(.int (1 : Int32))]) _
    refine R1 (XS.ifYes X464.here hx rfl (pc0 := 182) (pc' := 187) rfl (dq (dg dlw 91 rfl)) rfl (by decide : ifCond.holds .ne (1 : Int32) = true) (by decide) (by decide)) ?_
    refine R1 (XS.iload X464.here hx rfl (dq (dg dlw 92 rfl)) rfl) ?_
    refine R1 (XS.iconst X464.here hx rfl (dq (dg dlw 93 rfl)) ) ?_
    refine R1 (XS.icmpNo X464.here hx rfl (dq (dg dlw 94 rfl)) rfl (by decide : if_icmp.holds .le (3 : Int32) (2 : Int32) = false)) ?_
    refine R1 (XS.aload X464.here hx rfl (dq (dg dlw 95 rfl)) rfl rfl) ?_
    refine R1 (XS.iconst X464.here hx rfl (dq (dg dlw 96 rfl)) ) ?_
    refine R1 (XS.iload X464.here hx rfl (dq (dg dlw 97 rfl)) rfl) ?_
    refine R1 (XS.iadd X464.here hx rfl (dq (dg dlw 98 rfl)) rfl) ?_
    refine R1 (XS.iload X464.here hx rfl (dq (dg dlw 99 rfl)) rfl) ?_
    refine R1 (XS.iadd X464.here hx rfl (dq (dg dlw 100 rfl)) rfl) ?_
    refine R1 (XS.iload X464.here hx rfl (dq (dg dlw 101 rfl)) rfl) ?_
    show Rch p e below T464 (mkF m 204 #[vI p0, vI p1, vI p2, vI p3, vI (3 : Int32), vI c0, vI c1, vI c2, vR t452, vR t454, vI (Int32.ofNat (esc1 c0).length), vI (Int32.ofNat (esc1 c1).length), vI (Int32.ofNat (esc1 c2).length), vI (Int32.ofNat rs.length)] [(.int c2), (.int (((1 : Int32) + (Int32.ofNat (esc1 c0).length)) + (Int32.ofNat (esc1 c1).length))), (.ref t454)]) _
    rw [qoff_2]
    show Rch p e below T464 (mkF m 204 #[vI p0, vI p1, vI p2, vI p3, vI (3 : Int32), vI c0, vI c1, vI c2, vR t452, vR t454, vI (Int32.ofNat (esc1 c0).length), vI (Int32.ofNat (esc1 c1).length), vI (Int32.ofNat (esc1 c2).length), vI (Int32.ofNat rs.length)] [(.int c2), (.int (Int32.ofNat ([34] ++ esc1 c0 ++ esc1 c1).length)), (.ref t454)]) _
    obtain ⟨_, _, ⟨T465, L465, k465, n465⟩, -, X465, ⟨Lc465, hQ465, l465, y465, z465⟩, st465⟩ := Jvm.LawKit.callS X464 hx (y := mN50) hown454 (mw hZ454 hw 227 rfl) (mw hZ454 hw 228 rfl) (mw hZ454 hw 3 rfl) (mw hZ454 hw 229 rfl) (by decide) (backOf (W := 0) (rm_seg l Z a0 hw [] t454 rs ([34] ++ esc1 c0 ++ esc1 c1) ([34]) c2 fm T454.heap n0 (Nat.le_trans Z0 Ex455.1) SX (B.ext Ex455) (by rw [hrs]; simp [escL]) (by omega)) hZ454 (wq hw 229 rfl) (wq hw 3 rfl) (by decide) (by decide)) (g := (mkF m 204 #[vI p0, vI p1, vI p2, vI p3, vI (3 : Int32), vI c0, vI c1, vI c2, vR t452, vR t454, vI (Int32.ofNat (esc1 c0).length), vI (Int32.ofNat (esc1 c1).length), vI (Int32.ofNat (esc1 c2).length), vI (Int32.ofNat rs.length)] [(.int c2), (.int (Int32.ofNat ([34] ++ esc1 c0 ++ esc1 c1).length)), (.ref t454)])) rfl (by rw [hml]; rfl) (argsL := [(.ref t454), (.int (Int32.ofNat ([34] ++ esc1 c0 ++ esc1 c1).length)), (.int c2)]) (rest := []) (lenOf pd_39 rfl) rfl (w0 rfl) (dq (dg dlw 102 rfl)) (fun _ _ => ⟨rfl, e464, (by decide : 37 + 0 ≤ _), (by decide : 992 + 0 ≤ _)⟩)
    dsimp only [Pt.U, Pt.locs, Pt.cells, Pt.slots] at X465 l465 y465 z465 st465 hQ465
    subst l465 y465 z465
    obtain ⟨rfl, Nq465, e465⟩ := hQ465
    have N465 := Fr.app N464 Nq465
    refine R0_ st465 ?_
    show Rch p e below T465 (mkF m 207 #[vI p0, vI p1, vI p2, vI p3, vI (3 : Int32), vI c0, vI c1, vI c2, vR t452, vR t454, vI (Int32.ofNat (esc1 c0).length), vI (Int32.ofNat (esc1 c1).length), vI (Int32.ofNat (esc1 c2).length), vI (Int32.ofNat rs.length)] [(.int (1 : Int32))]) _
    refine R1 (XS.ifYes X465.here hx rfl (pc0 := 207) (pc' := 212) rfl (dq (dg dlw 103 rfl)) rfl (by decide : ifCond.holds .ne (1 : Int32) = true) (by decide) (by decide)) ?_
    refine R1 (XS.iconst X465.here hx rfl (dq (dg dlw 104 rfl)) ) ?_
    show Rch p e below T465 (mkF m 213 #[vI p0, vI p1, vI p2, vI p3, vI (3 : Int32), vI c0, vI c1, vI c2, vR t452, vR t454, vI (Int32.ofNat (esc1 c0).length), vI (Int32.ofNat (esc1 c1).length), vI (Int32.ofNat (esc1 c2).length), vI (Int32.ofNat rs.length)] [(.int (1 : Int32))]) _
    exact Rch.finW (Q := Q_law Z p0 p1 p2 p3 fm h0 n0) X465 hZ454 hEL hS454 (by rw [e465]; exact (Nat.le_refl _)) e465 R454 (v := some (.int (1 : Int32))) (fun h => by rw [Bd.returns] at h; cases h) (BodyLoose.notSynchronized Bd) (fun fs hr => retN X465 hx (t := .boolean) Bd.returns (by simp) (dq (dg dlw 105 rfl)) hr) (by rw [e465]; exact ⟨rfl, N465⟩) (by decide) (by decide)
set_option maxRecDepth 65536 in
set_option maxHeartbeats 40000000 in
theorem comes_1 {Post : Tables → Env → Array Value → State → Outcome → State → Prop} (hpost : ∀ tb e args s v u, (limb_1_1.after args s (.returned v) u = true ∧ limb_1_2.after args s (.returned v) u = true ∧ True) → FramedW s (.returned v) u (Jvm.fieldLocs frame_1_writes args s ++ Jvm.arrayLocs frame_1_arrays args s ++ Jvm.staticLocs frame_1_statics s) 40 3328 → Post tb e args s (.returned v) u) :
    ArmFor flags0 classFile x code maxLocals ret World_1 tables_1 room_1 Calls_1 rest_1 Pre_1 Post := by
  intro l hfl _ _ p e ha hc hk s m args below hf hA hF happ hP
  obtain ⟨hcalls, hrest, hpre⟩ := hP
  obtain ⟨-, -, -, hnamed, -, -, -, hat⟩ := (Spec.applies_iff hf).mp happ
  obtain ⟨hg, hn⟩ := and_e (Cond.before_iff.mp (show (Jvm.Cond.and given_1 narrow_1).before args s = true from hpre))
  obtain ⟨g_0, gr_0⟩ := and_e hg
  obtain ⟨g_1, gr_1⟩ := and_e gr_0
  obtain ⟨g_2, gr_2⟩ := and_e gr_1
  obtain ⟨g_3, gr_3⟩ := and_e gr_2
  obtain ⟨w0, w1, w2, w3, rfl⟩ : ∃ w0 w1 w2 w3 : Value, args = #[w0, w1, w2, w3] := by
    have hs : args.size = 4 := by simpa [Cond.value, given_1] using g_0
    obtain ⟨L⟩ := args
    match L, hs with
    | [w0, w1, w2, w3], _ => exact ⟨w0, w1, w2, w3, rfl⟩
  have hw := fun d (hd : d ∈ tables_1) => atoms_spec (ws := Jvm.Cond.code x code maxLocals ret :: tables_1) hat d (List.mem_cons_of_mem _ hd)
  obtain ⟨hsets, hown0⟩ := atoms_of _ (rest_1_c_eq ▸ (show rest_1_c.before _ s = true from hrest))
  have hfit : Fit s := fun {y c} hc i hi => by
    obtain ⟨ha, rfl⟩ := Array.getElem?_eq_some_iff.mp hc
    have q := List.all_eq_true.mp ((Array.all_eq_true_iff_forall_mem.mp hF) _ (Array.getElem_mem ha)) i (List.mem_range.mpr hi)
    simpa [Array.getElem?_eq_getElem hi] using q
  obtain ⟨v0, ev0⟩ := is_v g_1
  obtain rfl : w0 = (.int v0) := Option.some.inj ev0
  obtain ⟨v1, ev1⟩ := is_v g_2
  obtain rfl : w1 = (.int v1) := Option.some.inj ev1
  obtain ⟨v2, ev2⟩ := is_v g_3
  obtain rfl : w2 = (.int v2) := Option.some.inj ev2
  obtain ⟨v3, ev3⟩ := is_v gr_3
  obtain rfl : w3 = (.int v3) := Option.some.inj ev3
  obtain ⟨i7, e6⟩ := is_v (Cond.before_iff.mp (hsets _ (List.mem_of_getElem? (i := 1) rfl)))
  have n3 := not_v (Cond.before_iff.mp (hsets _ (List.mem_of_getElem? (i := 2) rfl)))
  have S8 : Sta s s.heap "java/lang/String" "COMPACT_STRINGS" "Z" (.int i7) := Sta.start e6 (Or.inl (hsets _ (List.mem_of_getElem? (i := 0) rfl)))
  have c13 : ¬ (i7 = (0 : Int32)) := gotF (Cond.eq_ints e6 (Term.int_eval (0))) n3
  have hcs : Cmp s s.heap := ⟨i7, S8, c13⟩
  have hH : CHv s EL s.vm s.heap := CHv.start (ew hw) (fun q hq => hcalls.1 q hq) (hsets _ (List.mem_of_getElem? (i := 2) rfl)) (wq hw 20 rfl) (wq hw 6 rfl)
  obtain ⟨vf, evf, rvf⟩ := isR_v (Cond.before_iff.mp (hsets _ (List.mem_of_getElem? (i := 8) rfl)))
  have Sf : Sta s s.heap "jdk/internal/util/Preconditions" "SIOOBE_FORMATTER" "Ljava/util/function/BiFunction;" vf := Sta.start evf (Or.inl (hsets _ (List.mem_of_getElem? (i := 7) rfl)))
  have Sa : Sta s s.heap "java/lang/StringUTF16" "$assertionsDisabled" "Z" (.int (1 : Int32)) := Sta.start (eval_int (Cond.before_iff.mp (hsets _ (List.mem_of_getElem? (i := 12) rfl)))) (Or.inl (hsets _ (List.mem_of_getElem? (i := 11) rfl)))
  have Sh : Sta s s.heap "java/lang/StringUTF16" "HI_BYTE_SHIFT" "I" (.int (0 : Int32)) := Sta.start (eval_int (Cond.before_iff.mp (hsets _ (List.mem_of_getElem? (i := 15) rfl)))) (Or.inl (hsets _ (List.mem_of_getElem? (i := 14) rfl)))
  have Sl : Sta s s.heap "java/lang/StringUTF16" "LO_BYTE_SHIFT" "I" (.int (8 : Int32)) := Sta.start (eval_int (Cond.before_iff.mp (hsets _ (List.mem_of_getElem? (i := 18) rfl)))) (Or.inl (hsets _ (List.mem_of_getElem? (i := 17) rfl)))
  have hB : Bg s s.heap vf := ⟨hcs, Sa, Sh, Sl, Sf, rvf⟩
  obtain ⟨n, o, h1, h2, h3, _, L, rfl, ⟨rfl, N⟩, -, hq⟩ := rm_law l s _ hw tables_1 v0 v1 v2 v3 vf s.heap s.heap.size (Nat.le_refl _) hB p e ha hc hk s m _ below hf ((Spec.applies_iff_loose hf).mp happ).1 ⟨rfl, State.Warmed39.refl s, rfl, hH⟩ trivial
  refine ⟨n, _, h1, h2, h3, hpost _ _ _ _ _ _ ⟨Cond.after_iff.mpr rfl, Cond.after_iff.mpr (eq_i res_at (Term.int_eval (1)) rfl), trivial⟩ ⟨hq.1, hq.2.1, hq.2.2.1, (hq.2.2.2.sift fun y hy => Or.inr (N y hy)).mono (by decide) (by decide)⟩⟩
theorem main_1_1 : Claimed_1_1 := comes_1 fun _ _ _ _ _ _ h hF => ⟨h.1, hF⟩
theorem main_1_2 : Claimed_1_2 := comes_1 fun _ _ _ _ _ _ h hF => ⟨h.2.1, hF⟩
end Jvm.Pilot.@@N@@
namespace Jvm.Pilot.@@N@@
open Jvm Jvm.ClassFile Sem Op Lib Jvm.Free Jvm.Stand Jvm.Pilot.@@N@@.Jvm.D
/-! MADE BY PROGRAM (witnessworld.py) out of the Statement's table words and the real class files: 26 classes; the members and pool entries that the words name. The judged class is class 1, her method 1. -/
namespace start1
open Jvm.ClassFile
def u (s : String) : CpInfo := .utf8 (stringToUtf16 s)
/-- a pool by its gaps: so many unusable entries, then the entry; so many at the end -/
def gap : Nat → List CpInfo → List CpInfo
  | 0, r => r
  | n + 1, r => .unusable :: gap n r
def poolList (es : List (Nat × CpInfo)) (last : Nat) : List CpInfo := es.foldr (fun e r => gap e.1 (e.2 :: r)) (gap last [])
def pool (es : List (Nat × CpInfo)) (last : Nat) : Array CpInfo := ⟨poolList es last⟩
def fileOf (pool : Array CpInfo) (this : Nat) (attrs : Array Attribute := #[]) (ms : Array MethodInfo := #[]) (fl : Nat := 33) (sup : Nat := 0) (ifs : Array Nat := #[]) (fds : Array FieldInfo := #[]) : ClassFile where
  minorVersion := 0
  majorVersion := 65
  constantPool := pool
  accessFlags := fl
  thisClass := this
  superClass := sup
  interfaces := ifs
  fields := fds
  methods := ms
  attributes := attrs
def plain (name : String) (sup : Option ClassId) : Class where
  name := name
  kind := .ordinary
  loader := none
  accessFlags := 33
  super := sup
  interfaces := #[]
  cf := none
  fields := #[]
  methods := #[]
  instanceTypes := #[]
  staticTypes := #[]
  resolved := #[]
  callSites := []
  init := .initialized
  statics := none
  mirror := none

def pool0 : Array CpInfo := pool [(5, u "<init>"), (0, u "()V"), (1, .class_ 10), (1, u "java/lang/Object"), (85, u "clone"), (0, u "()Ljava/lang/Object;")] 26

def k0c0 : Code := { maxStack := 0, maxLocals := 1, code := object_method_1_code, exceptionTable := #[], attributes := #[] }
def k0m0 : Method := { name := "<init>", desc := "()V", sig := { parameters := [], returnType := none }, accessFlags := 1, code := some k0c0 }
def k0m1 : Method := { name := "clone", desc := "()Ljava/lang/Object;", sig := { parameters := [], returnType := some (.object "java/lang/Object") }, accessFlags := 260, code := none }
/-- java/lang/Object -/
def k0 : Class := { plain "java/lang/Object" none with
  accessFlags := 33
  interfaces := #[]
  cf := some (fileOf pool0 8 #[] #[{ accessFlags := 1, nameIndex := 5, descriptorIndex := 6, attributes := #[] }, { accessFlags := 260, nameIndex := 96, descriptorIndex := 97, attributes := #[] }] 33 0 #[] #[])
  fields := #[]
  methods := #[k0m0, k0m1]
  instanceTypes := #[]
  staticTypes := #[]
  resolved := Array.replicate 124 none
  statics := none }

def pool1 : Array CpInfo := pool [(2, .class_ 4), (1, u "java/lang/Object"), (0, u "<init>"), (0, u "()V"), (0, .integer 65535), (0, .methodref 9 10), (0, .class_ 11), (0, .nameAndType 12 13), (0, u "com/example/ampersat/ampersat/text/LiteralsQuotedPinLaw"), (0, u "text"), (0, u "(ICCC)Ljava/lang/String;"), (0, .methodref 15 16), (0, .class_ 17), (0, .nameAndType 18 19), (0, u "com/example/ampersat/ampersat/text/Literals"), (0, u "quoted"), (0, u "(Ljava/lang/String;)Ljava/lang/String;"), (0, .methodref 9 21), (0, .nameAndType 22 23), (0, u "width"), (0, u "(C)I"), (0, .methodref 25 26), (0, .class_ 27), (0, .nameAndType 28 29), (0, u "java/lang/String"), (0, u "length"), (0, u "()I"), (0, .methodref 25 31), (0, .nameAndType 32 33), (0, u "charAt"), (0, u "(I)C"), (0, .methodref 9 35), (0, .nameAndType 36 37), (0, u "matches"), (0, u "(Ljava/lang/String;IC)Z"), (0, .methodref 25 39), (0, .nameAndType 5 40), (0, u "([C)V"), (0, .methodref 9 42), (0, .nameAndType 43 33), (0, u "hex"), (2, u "law"), (0, u "(IIII)Z")] 3

def k1m0 : Method := { name := "<init>", desc := "()V", sig := { parameters := [], returnType := none }, accessFlags := 2, code := none }
def k1c1 : Code := { maxStack := 4, maxLocals := 14, code := code, exceptionTable := #[], attributes := #[] }
def k1m1 : Method := { name := "law", desc := "(IIII)Z", sig := { parameters := [.int, .int, .int, .int], returnType := some .boolean }, accessFlags := 9, code := some k1c1 }
def k1c2 : Code := { maxStack := 6, maxLocals := 4, code := method_3_code, exceptionTable := #[], attributes := #[] }
def k1m2 : Method := { name := "text", desc := "(ICCC)Ljava/lang/String;", sig := { parameters := [.int, .char, .char, .char], returnType := some (.object "java/lang/String") }, accessFlags := 10, code := some k1c2 }
def k1c3 : Code := { maxStack := 2, maxLocals := 1, code := method_4_code, exceptionTable := #[], attributes := #[] }
def k1m3 : Method := { name := "width", desc := "(C)I", sig := { parameters := [.char], returnType := some .int }, accessFlags := 10, code := some k1c3 }
def k1c4 : Code := { maxStack := 3, maxLocals := 1, code := method_5_code, exceptionTable := #[], attributes := #[] }
def k1m4 : Method := { name := "hex", desc := "(I)C", sig := { parameters := [.int], returnType := some .char }, accessFlags := 10, code := some k1c4 }
def k1c5 : Code := { maxStack := 3, maxLocals := 3, code := method_6_code, exceptionTable := #[], attributes := #[] }
def k1m5 : Method := { name := "matches", desc := "(Ljava/lang/String;IC)Z", sig := { parameters := [(.object "java/lang/String"), .int, .char], returnType := some .boolean }, accessFlags := 10, code := some k1c5 }
/-- com/example/ampersat/ampersat/text/LiteralsQuotedPinLaw -/
def k1 : Class := { plain "com/example/ampersat/ampersat/text/LiteralsQuotedPinLaw" (some 0) with
  accessFlags := 49
  interfaces := #[]
  cf := some (fileOf pool1 9 #[] #[{ accessFlags := 2, nameIndex := 5, descriptorIndex := 6, attributes := #[] }, { accessFlags := 9, nameIndex := 46, descriptorIndex := 47, attributes := #[] }, { accessFlags := 10, nameIndex := 12, descriptorIndex := 13, attributes := #[] }, { accessFlags := 10, nameIndex := 22, descriptorIndex := 23, attributes := #[] }, { accessFlags := 10, nameIndex := 43, descriptorIndex := 33, attributes := #[] }, { accessFlags := 10, nameIndex := 36, descriptorIndex := 37, attributes := #[] }] 49 2 #[] #[])
  fields := #[]
  methods := #[k1m0, k1m1, k1m2, k1m3, k1m4, k1m5]
  instanceTypes := #[]
  staticTypes := #[]
  resolved := Array.replicate 51 none
  statics := none }

def pool2 : Array CpInfo := pool [(1, .class_ 2), (0, u "java/io/Serializable"), (0, .class_ 4), (0, u "java/lang/Object")] 2

/-- java/io/Serializable -/
def k2 : Class := { plain "java/io/Serializable" (some 0) with
  accessFlags := 1537
  interfaces := #[]
  cf := some (fileOf pool2 1 #[] #[] 1537 3 #[] #[])
  fields := #[]
  methods := #[]
  instanceTypes := #[]
  staticTypes := #[]
  resolved := Array.replicate 7 none
  statics := none }

def pool3 : Array CpInfo := pool [(1, .class_ 2), (0, u "java/lang/Comparable"), (0, .class_ 4), (0, u "java/lang/Object")] 7

/-- java/lang/Comparable -/
def k3 : Class := { plain "java/lang/Comparable" (some 0) with
  accessFlags := 1537
  interfaces := #[]
  cf := some (fileOf pool3 1 #[] #[] 1537 3 #[] #[])
  fields := #[]
  methods := #[]
  instanceTypes := #[]
  staticTypes := #[]
  resolved := Array.replicate 12 none
  statics := none }

def pool4 : Array CpInfo := pool [(2, .class_ 4), (1, u "java/lang/CharSequence"), (42, .class_ 48), (0, u "java/lang/CharSequence$1CodePointIterator"), (10, .class_ 60), (0, u "java/lang/CharSequence$1CharIterator"), (5, .class_ 67), (0, u "java/lang/Object")] 63

/-- java/lang/CharSequence -/
def k4 : Class := { plain "java/lang/CharSequence" (some 0) with
  accessFlags := 1537
  interfaces := #[]
  cf := some (fileOf pool4 2 #[.nestMembers #[47, 59]] #[] 1537 66 #[] #[])
  fields := #[]
  methods := #[]
  instanceTypes := #[]
  staticTypes := #[]
  resolved := Array.replicate 131 none
  statics := none }

def pool5 : Array CpInfo := pool [(1, .class_ 2), (0, u "java/lang/constant/Constable"), (0, .class_ 4), (0, u "java/lang/Object")] 6

/-- java/lang/constant/Constable -/
def k5 : Class := { plain "java/lang/constant/Constable" (some 0) with
  accessFlags := 1537
  interfaces := #[]
  cf := some (fileOf pool5 1 #[] #[] 1537 3 #[] #[])
  fields := #[]
  methods := #[]
  instanceTypes := #[]
  staticTypes := #[]
  resolved := Array.replicate 11 none
  statics := none }

def pool6 : Array CpInfo := pool [(1, .class_ 2), (0, u "java/lang/constant/ConstantDesc"), (0, .class_ 4), (0, u "java/lang/Object")] 32

/-- java/lang/constant/ConstantDesc -/
def k6 : Class := { plain "java/lang/constant/ConstantDesc" (some 0) with
  accessFlags := 1537
  interfaces := #[]
  cf := some (fileOf pool6 1 #[] #[] 1537 3 #[] #[])
  fields := #[]
  methods := #[]
  instanceTypes := #[]
  staticTypes := #[]
  resolved := Array.replicate 37 none
  statics := none }

def pool7 : Array CpInfo := pool [(1, .methodref 2 3), (0, .class_ 4), (0, .nameAndType 5 6), (0, u "java/lang/Object"), (0, u "<init>"), (0, u "()V"), (0, .string 8), (0, u ""), (0, .fieldref 10 11), (0, .class_ 12), (0, .nameAndType 13 14), (0, u "java/lang/String"), (0, u "value"), (0, u "[B"), (0, .fieldref 10 16), (0, .nameAndType 17 18), (0, u "coder"), (0, u "B"), (2, u "hash"), (0, u "I"), (2, u "hashIsZero"), (0, u "Z"), (0, .methodref 10 28), (0, .nameAndType 5 29), (0, u "([CIILjava/lang/Void;)V"), (8, .fieldref 10 39), (0, .nameAndType 40 26), (0, u "COMPACT_STRINGS"), (1, .class_ 44), (1, u "java/lang/StringUTF16"), (0, u "compress"), (1, .methodref 42 48), (0, .nameAndType 49 50), (0, u "coderFromArrayLen"), (0, u "([BI)B"), (3, .methodref 55 56), (0, .class_ 57), (0, .nameAndType 58 59), (0, u "java/util/Arrays"), (0, u "copyOfRange"), (0, u "([BII)[B"), (47, .class_ 109), (1, u "java/lang/StringLatin1"), (32, u "()Z"), (34, .methodref 42 178), (0, .nameAndType 45 179), (0, u "([CII)[B"), (13, .class_ 195), (1, u "java/lang/System"), (16, .methodref 193 213), (0, .nameAndType 214 215), (0, u "arraycopy"), (0, u "(Ljava/lang/Object;ILjava/lang/Object;II)V"), (118, u "()I"), (0, .methodref 10 336), (0, .nameAndType 17 337), (0, u "()B"), (2, u "()[B"), (22, u "([BI)C"), (27, u "(II)V"), (35, u "(I)C"), (61, .methodref 10 490), (0, .nameAndType 5 491), (0, u "(Ljava/lang/AbstractStringBuilder;Ljava/lang/Void;)V"), (0, .methodref 10 493), (0, .nameAndType 494 142), (0, u "isLatin1"), (0, .methodref 107 496), (0, .nameAndType 497 363), (0, u "charAt"), (0, .methodref 42 496), (2, u "checkIndex"), (4, .nameAndType 507 334), (0, u "length"), (24, u "getBytes"), (16, .methodref 550 506), (0, .class_ 551), (0, u "java/lang/AbstractStringBuilder"), (0, .methodref 550 553), (0, .nameAndType 554 340), (0, u "getValue"), (20, .class_ 576), (0, u "java/lang/CharSequence"), (22, u "CASE_INSENSITIVE_ORDER"), (0, u "Ljava/util/Comparator;"), (220, u "([BIB)V"), (188, u "([C)V"), (36, .methodref 550 493), (5, .fieldref 1054 1055), (0, .class_ 1056), (0, .nameAndType 1057 1058), (0, u "jdk/internal/util/Preconditions"), (0, u "SIOOBE_FORMATTER"), (0, u "Ljava/util/function/BiFunction;"), (0, .methodref 1054 1060), (0, .nameAndType 501 1061), (0, u "(IILjava/util/function/BiFunction;)I"), (39, u "serialPersistentFields"), (0, u "[Ljava/io/ObjectStreamField;"), (0, .class_ 1104), (0, u "java/lang/String$CaseInsensitiveComparator"), (1, .class_ 1107), (0, u "java/io/Serializable"), (0, .class_ 1109), (0, u "java/lang/Comparable"), (0, .class_ 1111), (0, u "java/lang/constant/Constable"), (0, .class_ 1113), (0, u "java/lang/constant/ConstantDesc"), (2, u "serialVersionUID"), (0, u "J"), (3, u "REPL"), (0, u "C"), (2, u "LATIN1"), (1, u "UTF16"), (105, u "(Ljava/lang/StringBuilder;)V")] 217

def k7m0 : Method := { name := "<init>", desc := "()V", sig := { parameters := [], returnType := none }, accessFlags := 1, code := none }
def k7c1 : Code := { maxStack := 5, maxLocals := 2, code := jdk_42_method_3_code, exceptionTable := #[], attributes := #[] }
def k7m1 : Method := { name := "<init>", desc := "([C)V", sig := { parameters := [(.array .char)], returnType := none }, accessFlags := 1, code := some k7c1 }
def k7c2 : Code := { maxStack := 3, maxLocals := 2, code := jdk_42_method_53_code, exceptionTable := #[], attributes := #[] }
def k7m2 : Method := { name := "<init>", desc := "(Ljava/lang/StringBuilder;)V", sig := { parameters := [(.object "java/lang/StringBuilder")], returnType := none }, accessFlags := 1, code := some k7c2 }
def k7c3 : Code := { maxStack := 2, maxLocals := 1, code := jdk_42_method_54_code, exceptionTable := #[], attributes := #[] }
def k7m3 : Method := { name := "length", desc := "()I", sig := { parameters := [], returnType := some .int }, accessFlags := 1, code := some k7c3 }
def k7c4 : Code := { maxStack := 2, maxLocals := 2, code := jdk_42_method_56_code, exceptionTable := #[], attributes := #[] }
def k7m4 : Method := { name := "charAt", desc := "(I)C", sig := { parameters := [.int], returnType := some .char }, accessFlags := 1, code := some k7c4 }
def k7c5 : Code := { maxStack := 5, maxLocals := 4, code := jdk_42_method_147_code, exceptionTable := #[], attributes := #[] }
def k7m5 : Method := { name := "getBytes", desc := "([BIB)V", sig := { parameters := [(.array .byte), .int, .byte], returnType := none }, accessFlags := 0, code := some k7c5 }
def k7c6 : Code := { maxStack := 4, maxLocals := 6, code := jdk_42_method_149_code, exceptionTable := #[], attributes := #[] }
def k7m6 : Method := { name := "<init>", desc := "([CIILjava/lang/Void;)V", sig := { parameters := [(.array .char), .int, .int, (.object "java/lang/Void")], returnType := none }, accessFlags := 2, code := some k7c6 }
def k7c7 : Code := { maxStack := 5, maxLocals := 5, code := jdk_42_method_150_code, exceptionTable := #[], attributes := #[] }
def k7m7 : Method := { name := "<init>", desc := "(Ljava/lang/AbstractStringBuilder;Ljava/lang/Void;)V", sig := { parameters := [(.object "java/lang/AbstractStringBuilder"), (.object "java/lang/Void")], returnType := none }, accessFlags := 0, code := some k7c7 }
def k7c8 : Code := { maxStack := 1, maxLocals := 1, code := jdk_42_method_152_code, exceptionTable := #[], attributes := #[] }
def k7m8 : Method := { name := "coder", desc := "()B", sig := { parameters := [], returnType := some .byte }, accessFlags := 0, code := some k7c8 }
def k7c9 : Code := { maxStack := 1, maxLocals := 1, code := jdk_42_method_154_code, exceptionTable := #[], attributes := #[] }
def k7m9 : Method := { name := "isLatin1", desc := "()Z", sig := { parameters := [], returnType := some .boolean }, accessFlags := 0, code := some k7c9 }
def k7c10 : Code := { maxStack := 3, maxLocals := 2, code := jdk_42_method_155_code, exceptionTable := #[], attributes := #[] }
def k7m10 : Method := { name := "checkIndex", desc := "(II)V", sig := { parameters := [.int, .int], returnType := none }, accessFlags := 8, code := some k7c10 }
/-- java/lang/String -/
def k7 : Class := { plain "java/lang/String" (some 0) with
  accessFlags := 49
  interfaces := #[2, 3, 4, 5, 6]
  cf := some (fileOf pool7 10 #[.nestMembers #[1103]] #[{ accessFlags := 1, nameIndex := 5, descriptorIndex := 6, attributes := #[] }, { accessFlags := 1, nameIndex := 5, descriptorIndex := 1010, attributes := #[] }, { accessFlags := 1, nameIndex := 5, descriptorIndex := 1233, attributes := #[] }, { accessFlags := 1, nameIndex := 507, descriptorIndex := 334, attributes := #[] }, { accessFlags := 1, nameIndex := 497, descriptorIndex := 427, attributes := #[] }, { accessFlags := 0, nameIndex := 532, descriptorIndex := 821, attributes := #[] }, { accessFlags := 2, nameIndex := 5, descriptorIndex := 29, attributes := #[] }, { accessFlags := 0, nameIndex := 5, descriptorIndex := 491, attributes := #[] }, { accessFlags := 0, nameIndex := 17, descriptorIndex := 337, attributes := #[] }, { accessFlags := 0, nameIndex := 494, descriptorIndex := 142, attributes := #[] }, { accessFlags := 8, nameIndex := 501, descriptorIndex := 391, attributes := #[] }] 49 2 #[1106, 1108, 575, 1110, 1112] #[{ accessFlags := 18, nameIndex := 13, descriptorIndex := 14, attributes := #[] }, { accessFlags := 18, nameIndex := 17, descriptorIndex := 18, attributes := #[] }, { accessFlags := 2, nameIndex := 21, descriptorIndex := 22, attributes := #[] }, { accessFlags := 2, nameIndex := 25, descriptorIndex := 26, attributes := #[] }, { accessFlags := 26, nameIndex := 1116, descriptorIndex := 1117, attributes := #[] }, { accessFlags := 24, nameIndex := 40, descriptorIndex := 26, attributes := #[] }, { accessFlags := 26, nameIndex := 1101, descriptorIndex := 1102, attributes := #[] }, { accessFlags := 26, nameIndex := 1121, descriptorIndex := 1122, attributes := #[] }, { accessFlags := 25, nameIndex := 599, descriptorIndex := 600, attributes := #[] }, { accessFlags := 24, nameIndex := 1125, descriptorIndex := 18, attributes := #[] }, { accessFlags := 24, nameIndex := 1127, descriptorIndex := 18, attributes := #[] }])
  fields := #[{ name := "value", type := (.array .byte), accessFlags := 18, slot := 0, constantValue := 0 }, { name := "coder", type := .byte, accessFlags := 18, slot := 1, constantValue := 0 }, { name := "hash", type := .int, accessFlags := 2, slot := 2, constantValue := 0 }, { name := "hashIsZero", type := .boolean, accessFlags := 2, slot := 3, constantValue := 0 }, { name := "serialVersionUID", type := .long, accessFlags := 26, slot := 0, constantValue := 0 }, { name := "COMPACT_STRINGS", type := .boolean, accessFlags := 24, slot := 1, constantValue := 0 }, { name := "serialPersistentFields", type := (.array (.object "java/io/ObjectStreamField")), accessFlags := 26, slot := 2, constantValue := 0 }, { name := "REPL", type := .char, accessFlags := 26, slot := 3, constantValue := 0 }, { name := "CASE_INSENSITIVE_ORDER", type := (.object "java/util/Comparator"), accessFlags := 25, slot := 4, constantValue := 0 }, { name := "LATIN1", type := .byte, accessFlags := 24, slot := 5, constantValue := 0 }, { name := "UTF16", type := .byte, accessFlags := 24, slot := 6, constantValue := 0 }]
  methods := #[k7m0, k7m1, k7m2, k7m3, k7m4, k7m5, k7m6, k7m7, k7m8, k7m9, k7m10]
  instanceTypes := #[(.array .byte), .byte, .int, .boolean]
  staticTypes := #[.long, .boolean, (.array (.object "java/io/ObjectStreamField")), .char, (.object "java/util/Comparator"), .byte, .byte]
  resolved := Array.replicate 1451 none
  statics := some 0 }

def pool8 : Array CpInfo := pool [(2, .class_ 4), (1, u "java/lang/Object"), (0, u "<init>"), (0, u "()V"), (0, .class_ 8), (0, u "java/lang/StringBuilder"), (0, .methodref 10 11), (0, .class_ 12), (0, .nameAndType 13 14), (0, u "java/lang/String"), (0, u "length"), (0, u "()I"), (0, .methodref 7 16), (0, .nameAndType 5 17), (0, u "(I)V"), (0, .methodref 19 20), (0, .class_ 21), (0, .nameAndType 22 23), (0, u "com/example/ampersat/ampersat/text/Literals"), (0, u "appendEscaped"), (0, u "(Ljava/lang/StringBuilder;Ljava/lang/String;CZ)V"), (0, .methodref 7 25), (0, .nameAndType 26 27), (0, u "toString"), (0, u "()Ljava/lang/String;"), (0, .methodref 7 29), (0, .nameAndType 30 31), (0, u "append"), (0, u "(C)Ljava/lang/StringBuilder;"), (17, .methodref 7 50), (0, .nameAndType 30 51), (0, u "(Ljava/lang/String;)Ljava/lang/StringBuilder;"), (4, .methodref 19 57), (0, .nameAndType 58 59), (0, u "appendHex"), (0, u "(Ljava/lang/StringBuilder;II)V"), (48, .methodref 10 109), (0, .nameAndType 110 111), (0, u "charAt"), (0, u "(I)C"), (8, .string 121), (0, u "\\u"), (0, .string 123), (0, u "0123456789abcdef"), (0, u "HEX_DIGITS"), (0, u "Ljava/lang/String;"), (1, u "SHORT_ESCAPED"), (0, u "SHORT_ESCAPES"), (3, u "(Ljava/lang/String;)Ljava/lang/String;"), (0, u "quoted")] 26

def k8m0 : Method := { name := "<init>", desc := "()V", sig := { parameters := [], returnType := none }, accessFlags := 2, code := none }
def k8c1 : Code := { maxStack := 4, maxLocals := 2, code := prog_65_method_3_code, exceptionTable := #[], attributes := #[] }
def k8m1 : Method := { name := "quoted", desc := "(Ljava/lang/String;)Ljava/lang/String;", sig := { parameters := [(.object "java/lang/String")], returnType := some (.object "java/lang/String") }, accessFlags := 9, code := some k8c1 }
def k8c2 : Code := { maxStack := 3, maxLocals := 7, code := prog_65_method_6_code, exceptionTable := #[], attributes := #[] }
def k8m2 : Method := { name := "appendEscaped", desc := "(Ljava/lang/StringBuilder;Ljava/lang/String;CZ)V", sig := { parameters := [(.object "java/lang/StringBuilder"), (.object "java/lang/String"), .char, .boolean], returnType := none }, accessFlags := 10, code := some k8c2 }
def k8c3 : Code := { maxStack := 4, maxLocals := 4, code := prog_65_method_7_code, exceptionTable := #[], attributes := #[] }
def k8m3 : Method := { name := "appendHex", desc := "(Ljava/lang/StringBuilder;II)V", sig := { parameters := [(.object "java/lang/StringBuilder"), .int, .int], returnType := none }, accessFlags := 10, code := some k8c3 }
/-- com/example/ampersat/ampersat/text/Literals -/
def k8 : Class := { plain "com/example/ampersat/ampersat/text/Literals" (some 0) with
  accessFlags := 49
  interfaces := #[]
  cf := some (fileOf pool8 19 #[] #[{ accessFlags := 2, nameIndex := 5, descriptorIndex := 6, attributes := #[] }, { accessFlags := 9, nameIndex := 133, descriptorIndex := 132, attributes := #[] }, { accessFlags := 10, nameIndex := 22, descriptorIndex := 23, attributes := #[] }, { accessFlags := 10, nameIndex := 58, descriptorIndex := 59, attributes := #[] }] 49 2 #[] #[{ accessFlags := 26, nameIndex := 124, descriptorIndex := 125, attributes := #[] }, { accessFlags := 26, nameIndex := 127, descriptorIndex := 125, attributes := #[] }, { accessFlags := 26, nameIndex := 128, descriptorIndex := 125, attributes := #[] }])
  fields := #[{ name := "HEX_DIGITS", type := (.object "java/lang/String"), accessFlags := 26, slot := 0, constantValue := 0 }, { name := "SHORT_ESCAPED", type := (.object "java/lang/String"), accessFlags := 26, slot := 1, constantValue := 0 }, { name := "SHORT_ESCAPES", type := (.object "java/lang/String"), accessFlags := 26, slot := 2, constantValue := 0 }]
  methods := #[k8m0, k8m1, k8m2, k8m3]
  instanceTypes := #[]
  staticTypes := #[(.object "java/lang/String"), (.object "java/lang/String"), (.object "java/lang/String")]
  resolved := Array.replicate 160 none
  statics := none }

def pool9 : Array CpInfo := pool [(1, .class_ 2), (0, u "java/lang/Appendable"), (0, .class_ 4), (0, u "java/lang/Object")] 9

/-- java/lang/Appendable -/
def k9 : Class := { plain "java/lang/Appendable" (some 0) with
  accessFlags := 1537
  interfaces := #[]
  cf := some (fileOf pool9 1 #[] #[] 1537 3 #[] #[])
  fields := #[]
  methods := #[]
  instanceTypes := #[]
  staticTypes := #[]
  resolved := Array.replicate 14 none
  statics := none }

def pool10 : Array CpInfo := pool [(1, .class_ 2), (0, u "java/lang/String"), (0, .methodref 4 5), (0, .class_ 6), (0, .nameAndType 7 8), (0, u "java/lang/Object"), (0, u "<init>"), (0, u "()V"), (1, .class_ 12), (1, u "java/lang/AbstractStringBuilder"), (0, u "EMPTYVALUE"), (0, u "[B"), (0, .fieldref 10 16), (0, .nameAndType 17 14), (0, u "value"), (0, .fieldref 1 19), (0, .nameAndType 20 21), (0, u "COMPACT_STRINGS"), (0, u "Z"), (0, .fieldref 10 23), (0, .nameAndType 24 25), (0, u "coder"), (0, u "B"), (6, .methodref 1 33), (0, .nameAndType 34 35), (0, u "length"), (0, u "()I"), (3, .integer 2147483647), (0, .methodref 1 41), (0, .nameAndType 24 42), (0, u "()B"), (2, u "append"), (0, u "(Ljava/lang/String;)Ljava/lang/AbstractStringBuilder;"), (1, .class_ 49), (0, u "java/lang/CharSequence"), (19, u "(Ljava/lang/String;)V"), (5, u "maybeLatin1"), (3, .fieldref 10 80), (0, .nameAndType 81 82), (0, u "count"), (0, u "I"), (0, .methodref 10 84), (0, .nameAndType 85 86), (0, u "isLatin1"), (0, u "()Z"), (1, .class_ 90), (1, u "java/lang/StringLatin1"), (9, .methodref 10 101), (0, .nameAndType 102 103), (0, u "ensureCapacityInternal"), (0, u "(I)V"), (0, .methodref 10 105), (0, .nameAndType 106 107), (0, u "newCapacity"), (0, u "(I)I"), (0, .methodref 109 110), (0, .class_ 111), (0, .nameAndType 112 113), (0, u "java/util/Arrays"), (0, u "copyOf"), (0, u "([BI)[B"), (0, .methodref 115 116), (0, .class_ 117), (0, .nameAndType 118 119), (0, u "jdk/internal/util/ArraysSupport"), (0, u "newLength"), (0, u "(III)I"), (71, .methodref 88 192), (0, .nameAndType 193 194), (0, u "canEncode"), (0, u "(C)Z"), (13, .methodref 10 209), (0, .nameAndType 210 211), (0, u "putStringAt"), (0, u "(ILjava/lang/String;)V"), (5, u "inflateIfNeededFor"), (2, .nameAndType 221 222), (0, u "getBytes"), (0, u "([BIB)V"), (69, u "(C)Ljava/lang/AbstractStringBuilder;"), (104, .methodref 10 398), (0, .nameAndType 217 69), (0, .methodref 1 220), (3, u "()[B"), (40, .class_ 445), (0, u "java/lang/Appendable"), (106, u "getValue")] 56

def k10m0 : Method := { name := "<init>", desc := "()V", sig := { parameters := [], returnType := none }, accessFlags := 0, code := none }
def k10c1 : Code := { maxStack := 2, maxLocals := 2, code := jdk_68_method_2_code, exceptionTable := #[], attributes := #[] }
def k10m1 : Method := { name := "<init>", desc := "(I)V", sig := { parameters := [.int], returnType := none }, accessFlags := 0, code := some k10c1 }
def k10c2 : Code := { maxStack := 1, maxLocals := 1, code := jdk_68_method_6_code, exceptionTable := #[], attributes := #[] }
def k10m2 : Method := { name := "length", desc := "()I", sig := { parameters := [], returnType := some .int }, accessFlags := 1, code := some k10c2 }
def k10c3 : Code := { maxStack := 4, maxLocals := 3, code := jdk_68_method_9_code, exceptionTable := #[], attributes := #[] }
def k10m3 : Method := { name := "ensureCapacityInternal", desc := "(I)V", sig := { parameters := [.int], returnType := none }, accessFlags := 2, code := some k10c3 }
def k10c4 : Code := { maxStack := 5, maxLocals := 6, code := jdk_68_method_10_code, exceptionTable := #[], attributes := #[] }
def k10m4 : Method := { name := "newCapacity", desc := "(I)I", sig := { parameters := [.int], returnType := some .int }, accessFlags := 2, code := some k10c4 }
def k10c5 : Code := { maxStack := 3, maxLocals := 3, code := jdk_68_method_22_code, exceptionTable := #[], attributes := #[] }
def k10m5 : Method := { name := "append", desc := "(Ljava/lang/String;)Ljava/lang/AbstractStringBuilder;", sig := { parameters := [(.object "java/lang/String")], returnType := some (.object "java/lang/AbstractStringBuilder") }, accessFlags := 1, code := some k10c5 }
def k10c6 : Code := { maxStack := 5, maxLocals := 2, code := jdk_68_method_31_code, exceptionTable := #[], attributes := #[] }
def k10m6 : Method := { name := "append", desc := "(C)Ljava/lang/AbstractStringBuilder;", sig := { parameters := [.char], returnType := some (.object "java/lang/AbstractStringBuilder") }, accessFlags := 1, code := some k10c6 }
def k10c7 : Code := { maxStack := 1, maxLocals := 1, code := jdk_68_method_64_code, exceptionTable := #[], attributes := #[] }
def k10m7 : Method := { name := "getValue", desc := "()[B", sig := { parameters := [], returnType := some (.array .byte) }, accessFlags := 16, code := some k10c7 }
def k10c8 : Code := { maxStack := 1, maxLocals := 1, code := jdk_68_method_68_code, exceptionTable := #[], attributes := #[] }
def k10m8 : Method := { name := "isLatin1", desc := "()Z", sig := { parameters := [], returnType := some .boolean }, accessFlags := 16, code := some k10c8 }
def k10c9 : Code := { maxStack := 2, maxLocals := 2, code := jdk_68_method_71_code, exceptionTable := #[], attributes := #[] }
def k10m9 : Method := { name := "inflateIfNeededFor", desc := "(Ljava/lang/String;)V", sig := { parameters := [(.object "java/lang/String")], returnType := none }, accessFlags := 2, code := some k10c9 }
def k10c10 : Code := { maxStack := 4, maxLocals := 3, code := jdk_68_method_73_code, exceptionTable := #[], attributes := #[] }
def k10m10 : Method := { name := "putStringAt", desc := "(ILjava/lang/String;)V", sig := { parameters := [.int, (.object "java/lang/String")], returnType := none }, accessFlags := 2, code := some k10c10 }
/-- java/lang/AbstractStringBuilder -/
def k10 : Class := { plain "java/lang/AbstractStringBuilder" (some 0) with
  accessFlags := 1056
  interfaces := #[9, 4]
  cf := some (fileOf pool10 10 #[] #[{ accessFlags := 0, nameIndex := 7, descriptorIndex := 8, attributes := #[] }, { accessFlags := 0, nameIndex := 7, descriptorIndex := 103, attributes := #[] }, { accessFlags := 1, nameIndex := 34, descriptorIndex := 35, attributes := #[] }, { accessFlags := 2, nameIndex := 102, descriptorIndex := 103, attributes := #[] }, { accessFlags := 2, nameIndex := 106, descriptorIndex := 107, attributes := #[] }, { accessFlags := 1, nameIndex := 45, descriptorIndex := 46, attributes := #[] }, { accessFlags := 1, nameIndex := 45, descriptorIndex := 292, attributes := #[] }, { accessFlags := 16, nameIndex := 552, descriptorIndex := 403, attributes := #[] }, { accessFlags := 16, nameIndex := 85, descriptorIndex := 86, attributes := #[] }, { accessFlags := 2, nameIndex := 217, descriptorIndex := 69, attributes := #[] }, { accessFlags := 2, nameIndex := 210, descriptorIndex := 211, attributes := #[] }] 1056 4 #[444, 48] #[{ accessFlags := 0, nameIndex := 17, descriptorIndex := 14, attributes := #[] }, { accessFlags := 0, nameIndex := 24, descriptorIndex := 25, attributes := #[] }, { accessFlags := 0, nameIndex := 75, descriptorIndex := 21, attributes := #[] }, { accessFlags := 0, nameIndex := 81, descriptorIndex := 82, attributes := #[] }, { accessFlags := 26, nameIndex := 13, descriptorIndex := 14, attributes := #[] }])
  fields := #[{ name := "value", type := (.array .byte), accessFlags := 0, slot := 0, constantValue := 0 }, { name := "coder", type := .byte, accessFlags := 0, slot := 1, constantValue := 0 }, { name := "maybeLatin1", type := .boolean, accessFlags := 0, slot := 2, constantValue := 0 }, { name := "count", type := .int, accessFlags := 0, slot := 3, constantValue := 0 }, { name := "EMPTYVALUE", type := (.array .byte), accessFlags := 26, slot := 0, constantValue := 0 }]
  methods := #[k10m0, k10m1, k10m2, k10m3, k10m4, k10m5, k10m6, k10m7, k10m8, k10m9, k10m10]
  instanceTypes := #[(.array .byte), .byte, .boolean, .int]
  staticTypes := #[(.array .byte)]
  resolved := Array.replicate 609 none
  statics := none }

def pool11 : Array CpInfo := pool [(1, .methodref 2 3), (0, .class_ 4), (0, .nameAndType 5 6), (0, u "java/lang/AbstractStringBuilder"), (0, u "<init>"), (0, u "(I)V"), (11, .class_ 20), (1, u "java/lang/String"), (3, .class_ 26), (1, u "java/lang/StringBuilder"), (0, u "append"), (0, u "(Ljava/lang/String;)Ljava/lang/StringBuilder;"), (0, .methodref 2 30), (0, .nameAndType 27 31), (0, u "(Ljava/lang/String;)Ljava/lang/AbstractStringBuilder;"), (18, .methodref 2 51), (0, .nameAndType 27 52), (0, u "(C)Ljava/lang/AbstractStringBuilder;"), (84, .methodref 18 138), (0, .nameAndType 5 139), (0, u "(Ljava/lang/StringBuilder;)V"), (5, u "()V"), (10, u "()I"), (129, u "(C)Ljava/lang/StringBuilder;"), (56, .methodref 2 344), (0, .nameAndType 345 156), (0, u "length"), (3, .class_ 350), (0, u "java/lang/Appendable"), (0, .class_ 352), (0, u "java/io/Serializable"), (0, .class_ 354), (0, u "java/lang/Comparable"), (0, .class_ 356), (0, u "java/lang/CharSequence"), (0, u "serialVersionUID"), (0, u "J"), (40, u "toString"), (0, u "()Ljava/lang/String;")] 21

def k11m0 : Method := { name := "<init>", desc := "()V", sig := { parameters := [], returnType := none }, accessFlags := 1, code := none }
def k11c1 : Code := { maxStack := 2, maxLocals := 2, code := jdk_67_method_2_code, exceptionTable := #[], attributes := #[] }
def k11m1 : Method := { name := "<init>", desc := "(I)V", sig := { parameters := [.int], returnType := none }, accessFlags := 1, code := some k11c1 }
def k11c2 : Code := { maxStack := 2, maxLocals := 2, code := jdk_67_method_7_code, exceptionTable := #[], attributes := #[] }
def k11m2 : Method := { name := "append", desc := "(Ljava/lang/String;)Ljava/lang/StringBuilder;", sig := { parameters := [(.object "java/lang/String")], returnType := some (.object "java/lang/StringBuilder") }, accessFlags := 1, code := some k11c2 }
def k11c3 : Code := { maxStack := 2, maxLocals := 2, code := jdk_67_method_14_code, exceptionTable := #[], attributes := #[] }
def k11m3 : Method := { name := "append", desc := "(C)Ljava/lang/StringBuilder;", sig := { parameters := [.char], returnType := some (.object "java/lang/StringBuilder") }, accessFlags := 1, code := some k11c3 }
def k11c4 : Code := { maxStack := 3, maxLocals := 1, code := jdk_67_method_42_code, exceptionTable := #[], attributes := #[] }
def k11m4 : Method := { name := "toString", desc := "()Ljava/lang/String;", sig := { parameters := [], returnType := some (.object "java/lang/String") }, accessFlags := 1, code := some k11c4 }
def k11c5 : Code := { maxStack := 1, maxLocals := 1, code := jdk_67_method_93_code, exceptionTable := #[], attributes := #[] }
def k11m5 : Method := { name := "length", desc := "()I", sig := { parameters := [], returnType := some .int }, accessFlags := 4161, code := some k11c5 }
/-- java/lang/StringBuilder -/
def k11 : Class := { plain "java/lang/StringBuilder" (some 10) with
  accessFlags := 49
  interfaces := #[9, 2, 3, 4]
  cf := some (fileOf pool11 24 #[] #[{ accessFlags := 1, nameIndex := 5, descriptorIndex := 145, attributes := #[] }, { accessFlags := 1, nameIndex := 5, descriptorIndex := 6, attributes := #[] }, { accessFlags := 1, nameIndex := 27, descriptorIndex := 28, attributes := #[] }, { accessFlags := 1, nameIndex := 27, descriptorIndex := 286, attributes := #[] }, { accessFlags := 1, nameIndex := 399, descriptorIndex := 400, attributes := #[] }, { accessFlags := 4161, nameIndex := 345, descriptorIndex := 156, attributes := #[] }] 49 2 #[349, 351, 353, 355] #[{ accessFlags := 24, nameIndex := 357, descriptorIndex := 358, attributes := #[] }])
  fields := #[{ name := "serialVersionUID", type := .long, accessFlags := 24, slot := 0, constantValue := 0 }]
  methods := #[k11m0, k11m1, k11m2, k11m3, k11m4, k11m5]
  instanceTypes := #[(.array .byte), .byte, .boolean, .int]
  staticTypes := #[.long]
  resolved := Array.replicate 422 none
  statics := none }

def pool12 : Array CpInfo := pool [(1, .class_ 2), (0, u "java/lang/String"), (1, .class_ 6), (1, u "java/lang/Object"), (0, u "<init>"), (0, u "()V"), (0, .methodref 1 10), (0, .nameAndType 11 12), (0, u "checkIndex"), (0, u "(II)V"), (1, .class_ 16), (1, u "java/lang/StringLatin1"), (36, u "([BI)C"), (36, u "canEncode"), (14, u "(C)Z"), (15, u "$assertionsDisabled"), (0, u "Z"), (98, .class_ 223), (1, u "java/lang/StringLatin1$LinesSpliterator"), (28, u "charAt"), (137, .class_ 391), (0, u "java/lang/StringLatin1$CharsSpliterator")] 3

def k12m0 : Method := { name := "<init>", desc := "()V", sig := { parameters := [], returnType := none }, accessFlags := 0, code := none }
def k12c1 : Code := { maxStack := 2, maxLocals := 2, code := jdk_43_method_2_code, exceptionTable := #[], attributes := #[] }
def k12m1 : Method := { name := "charAt", desc := "([BI)C", sig := { parameters := [(.array .byte), .int], returnType := some .char }, accessFlags := 9, code := some k12c1 }
def k12c2 : Code := { maxStack := 2, maxLocals := 1, code := jdk_43_method_3_code, exceptionTable := #[], attributes := #[] }
def k12m2 : Method := { name := "canEncode", desc := "(C)Z", sig := { parameters := [.char], returnType := some .boolean }, accessFlags := 9, code := some k12c2 }
/-- java/lang/StringLatin1 -/
def k12 : Class := { plain "java/lang/StringLatin1" (some 0) with
  accessFlags := 48
  interfaces := #[]
  cf := some (fileOf pool12 14 #[.nestMembers #[390, 221]] #[{ accessFlags := 0, nameIndex := 7, descriptorIndex := 8, attributes := #[] }, { accessFlags := 9, nameIndex := 252, descriptorIndex := 53, attributes := #[] }, { accessFlags := 9, nameIndex := 90, descriptorIndex := 105, attributes := #[] }] 48 4 #[] #[{ accessFlags := 4120, nameIndex := 121, descriptorIndex := 122, attributes := #[] }])
  fields := #[{ name := "$assertionsDisabled", type := .boolean, accessFlags := 4120, slot := 0, constantValue := 0 }]
  methods := #[k12m0, k12m1, k12m2]
  instanceTypes := #[]
  staticTypes := #[.boolean]
  resolved := Array.replicate 395 none
  statics := none }

def pool13 : Array CpInfo := pool [(2, .class_ 4), (1, u "java/lang/Object"), (0, u "<init>"), (0, u "()V"), (7, .class_ 16), (1, u "java/util/Arrays"), (57, .class_ 76), (1, u "java/util/Arrays$NaturalOrder"), (32, u "()Ljava/lang/Object;"), (3, .class_ 115), (1, u "java/util/Arrays$LegacyMergeSort"), (1, u "Z"), (10, .nameAndType 129 109), (0, u "clone"), (9, u "copyOfRange"), (10, .methodref 151 152), (0, .class_ 153), (0, .nameAndType 154 155), (0, u "java/lang/System"), (0, u "arraycopy"), (0, u "(Ljava/lang/Object;ILjava/lang/Object;II)V"), (146, u "copyOf"), (1, .methodref 305 306), (0, .class_ 307), (0, .nameAndType 308 309), (0, u "java/lang/Math"), (0, u "min"), (0, u "(II)I"), (0, .methodref 311 128), (0, .class_ 312), (0, u "[B"), (26, .methodref 14 340), (0, .nameAndType 341 342), (0, u "copyOfRangeByte"), (0, u "([BII)[B"), (0, .methodref 14 344), (0, .nameAndType 345 346), (0, u "checkLength"), (0, u "(II)V"), (28, .class_ 376), (0, u "java/util/Arrays$ArrayList"), (68, u "$assertionsDisabled"), (269, u "MIN_ARRAY_SORT_GRAN"), (0, u "I"), (2, u "INSERTIONSORT_THRESHOLD"), (149, u "([BI)[B"), (105, .class_ 976), (0, u "java/util/Arrays$ArrayItr")] 52

def k13m0 : Method := { name := "<init>", desc := "()V", sig := { parameters := [], returnType := none }, accessFlags := 2, code := none }
def k13c1 : Code := { maxStack := 6, maxLocals := 3, code := jdk_65_method_121_code, exceptionTable := #[], attributes := #[] }
def k13m1 : Method := { name := "copyOf", desc := "([BI)[B", sig := { parameters := [(.array .byte), .int], returnType := some (.array .byte) }, accessFlags := 9, code := some k13c1 }
def k13c2 : Code := { maxStack := 4, maxLocals := 2, code := jdk_65_method_131_code, exceptionTable := #[], attributes := #[] }
def k13m2 : Method := { name := "checkLength", desc := "(II)V", sig := { parameters := [.int, .int], returnType := none }, accessFlags := 10, code := some k13c2 }
def k13c3 : Code := { maxStack := 3, maxLocals := 3, code := jdk_65_method_132_code, exceptionTable := #[], attributes := #[] }
def k13m3 : Method := { name := "copyOfRange", desc := "([BII)[B", sig := { parameters := [(.array .byte), .int, .int], returnType := some (.array .byte) }, accessFlags := 9, code := some k13c3 }
def k13c4 : Code := { maxStack := 6, maxLocals := 5, code := jdk_65_method_133_code, exceptionTable := #[], attributes := #[] }
def k13m4 : Method := { name := "copyOfRangeByte", desc := "([BII)[B", sig := { parameters := [(.array .byte), .int, .int], returnType := some (.array .byte) }, accessFlags := 10, code := some k13c4 }
/-- java/util/Arrays -/
def k13 : Class := { plain "java/util/Arrays" (some 0) with
  accessFlags := 49
  interfaces := #[]
  cf := some (fileOf pool13 14 #[.nestMembers #[975, 375, 113, 74]] #[{ accessFlags := 2, nameIndex := 5, descriptorIndex := 6, attributes := #[] }, { accessFlags := 9, nameIndex := 302, descriptorIndex := 869, attributes := #[] }, { accessFlags := 10, nameIndex := 345, descriptorIndex := 346, attributes := #[] }, { accessFlags := 9, nameIndex := 139, descriptorIndex := 342, attributes := #[] }, { accessFlags := 10, nameIndex := 341, descriptorIndex := 342, attributes := #[] }] 49 2 #[] #[{ accessFlags := 26, nameIndex := 715, descriptorIndex := 716, attributes := #[] }, { accessFlags := 26, nameIndex := 719, descriptorIndex := 716, attributes := #[] }, { accessFlags := 4120, nameIndex := 445, descriptorIndex := 117, attributes := #[] }])
  fields := #[{ name := "MIN_ARRAY_SORT_GRAN", type := .int, accessFlags := 26, slot := 0, constantValue := 0 }, { name := "INSERTIONSORT_THRESHOLD", type := .int, accessFlags := 26, slot := 1, constantValue := 0 }, { name := "$assertionsDisabled", type := .boolean, accessFlags := 4120, slot := 2, constantValue := 0 }]
  methods := #[k13m0, k13m1, k13m2, k13m3, k13m4]
  instanceTypes := #[]
  staticTypes := #[.int, .int, .boolean]
  resolved := Array.replicate 1029 none
  statics := none }

def pool14 : Array CpInfo := pool [(1, .class_ 2), (0, u "java/lang/Cloneable"), (0, .class_ 4), (0, u "java/lang/Object")] 2

/-- java/lang/Cloneable -/
def k14 : Class := { plain "java/lang/Cloneable" (some 0) with
  accessFlags := 1537
  interfaces := #[]
  cf := some (fileOf pool14 1 #[] #[] 1537 3 #[] #[])
  fields := #[]
  methods := #[]
  instanceTypes := #[]
  staticTypes := #[]
  resolved := Array.replicate 7 none
  statics := none }

def pool15 : Array CpInfo := pool [(2, .class_ 4), (1, u "java/lang/Object"), (0, u "<init>"), (0, u "()V"), (17, .class_ 26), (1, u "jdk/internal/util/Preconditions"), (6, u "checkIndex"), (21, .class_ 56), (0, u "jdk/internal/util/Preconditions$4"), (57, .class_ 115), (0, u "jdk/internal/util/Preconditions$1"), (7, u "SIOOBE_FORMATTER"), (0, u "Ljava/util/function/BiFunction;"), (0, .class_ 126), (0, u "jdk/internal/util/Preconditions$2"), (3, u "AIOOBE_FORMATTER"), (0, .class_ 132), (0, u "jdk/internal/util/Preconditions$3"), (3, u "IOOBE_FORMATTER"), (41, u "(IILjava/util/function/BiFunction;)I")] 15

def k15m0 : Method := { name := "<init>", desc := "()V", sig := { parameters := [], returnType := none }, accessFlags := 1, code := none }
def k15c1 : Code := { maxStack := 3, maxLocals := 3, code := jdk_41_method_11_code, exceptionTable := #[], attributes := #[] }
def k15m1 : Method := { name := "checkIndex", desc := "(IILjava/util/function/BiFunction;)I", sig := { parameters := [.int, .int, (.object "java/util/function/BiFunction")], returnType := some .int }, accessFlags := 9, code := some k15c1 }
/-- jdk/internal/util/Preconditions -/
def k15 : Class := { plain "jdk/internal/util/Preconditions" (some 0) with
  accessFlags := 33
  interfaces := #[]
  cf := some (fileOf pool15 24 #[.nestMembers #[55, 131, 125, 114]] #[{ accessFlags := 1, nameIndex := 5, descriptorIndex := 6, attributes := #[] }, { accessFlags := 9, nameIndex := 33, descriptorIndex := 178, attributes := #[] }] 33 2 #[] #[{ accessFlags := 25, nameIndex := 123, descriptorIndex := 124, attributes := #[] }, { accessFlags := 25, nameIndex := 130, descriptorIndex := 124, attributes := #[] }, { accessFlags := 25, nameIndex := 136, descriptorIndex := 124, attributes := #[] }])
  fields := #[{ name := "SIOOBE_FORMATTER", type := (.object "java/util/function/BiFunction"), accessFlags := 25, slot := 0, constantValue := 0 }, { name := "AIOOBE_FORMATTER", type := (.object "java/util/function/BiFunction"), accessFlags := 25, slot := 1, constantValue := 0 }, { name := "IOOBE_FORMATTER", type := (.object "java/util/function/BiFunction"), accessFlags := 25, slot := 2, constantValue := 0 }]
  methods := #[k15m0, k15m1]
  instanceTypes := #[]
  staticTypes := #[(.object "java/util/function/BiFunction"), (.object "java/util/function/BiFunction"), (.object "java/util/function/BiFunction")]
  resolved := Array.replicate 194 none
  statics := some 1 }

def pool16 : Array CpInfo := pool [(3, .class_ 4), (0, u "java/lang/String"), (1, .class_ 8), (1, u "java/lang/Object"), (0, u "<init>"), (0, u "()V"), (0, .methodref 12 13), (0, .class_ 14), (0, .nameAndType 15 16), (0, u "java/lang/StringUTF16"), (0, u "newBytesLength"), (0, u "(I)I"), (3, .integer 1073741823), (23, .fieldref 12 45), (0, .nameAndType 46 47), (0, u "$assertionsDisabled"), (0, u "Z"), (0, .methodref 12 49), (0, .nameAndType 50 51), (0, u "length"), (0, u "([B)I"), (7, .fieldref 12 60), (0, .nameAndType 61 62), (0, u "HI_BYTE_SHIFT"), (0, u "I"), (0, .fieldref 12 64), (0, .nameAndType 65 62), (0, u "LO_BYTE_SHIFT"), (1, .methodref 12 68), (0, .nameAndType 69 70), (0, u "checkIndex"), (0, u "(I[B)V"), (0, .methodref 12 72), (0, .nameAndType 73 74), (0, u "getChar"), (0, u "([BI)C"), (32, .methodref 12 108), (0, .nameAndType 109 110), (0, u "newBytesFor"), (0, u "(I)[B"), (0, .methodref 12 112), (0, .nameAndType 113 114), (0, u "putChar"), (0, u "([BII)V"), (0, .methodref 12 116), (0, .nameAndType 117 118), (0, u "compress"), (0, u "([CI[BII)I"), (0, .methodref 12 120), (0, .nameAndType 121 122), (0, u "toBytes"), (0, u "([CII)[B"), (138, u "coderFromArrayLen"), (0, u "([BI)B"), (106, .class_ 371), (1, u "java/lang/StringUTF16$LinesSpliterator"), (20, u "charAt"), (21, .methodref 3 415), (0, .nameAndType 69 416), (0, u "(II)V"), (13, u "MAX_LENGTH"), (196, .class_ 628), (0, u "java/lang/StringUTF16$CodePointsSpliterator"), (0, .class_ 630), (0, u "java/lang/StringUTF16$CharsSpliterator")] 4

def k16m0 : Method := { name := "<init>", desc := "()V", sig := { parameters := [], returnType := none }, accessFlags := 0, code := none }
def k16c1 : Code := { maxStack := 1, maxLocals := 1, code := jdk_52_method_2_code, exceptionTable := #[], attributes := #[] }
def k16m1 : Method := { name := "newBytesFor", desc := "(I)[B", sig := { parameters := [.int], returnType := some (.array .byte) }, accessFlags := 9, code := some k16c1 }
def k16c2 : Code := { maxStack := 4, maxLocals := 1, code := jdk_52_method_3_code, exceptionTable := #[], attributes := #[] }
def k16m2 : Method := { name := "newBytesLength", desc := "(I)I", sig := { parameters := [.int], returnType := some .int }, accessFlags := 9, code := some k16c2 }
def k16c3 : Code := { maxStack := 4, maxLocals := 3, code := jdk_52_method_4_code, exceptionTable := #[], attributes := #[] }
def k16m3 : Method := { name := "putChar", desc := "([BII)V", sig := { parameters := [(.array .byte), .int, .int], returnType := none }, accessFlags := 8, code := some k16c3 }
def k16c4 : Code := { maxStack := 3, maxLocals := 2, code := jdk_52_method_5_code, exceptionTable := #[], attributes := #[] }
def k16m4 : Method := { name := "getChar", desc := "([BI)C", sig := { parameters := [(.array .byte), .int], returnType := some .char }, accessFlags := 8, code := some k16c4 }
def k16c5 : Code := { maxStack := 2, maxLocals := 1, code := jdk_52_method_6_code, exceptionTable := #[], attributes := #[] }
def k16m5 : Method := { name := "length", desc := "([B)I", sig := { parameters := [(.array .byte)], returnType := some .int }, accessFlags := 9, code := some k16c5 }
def k16c6 : Code := { maxStack := 4, maxLocals := 5, code := jdk_52_method_14_code, exceptionTable := #[], attributes := #[] }
def k16m6 : Method := { name := "toBytes", desc := "([CII)[B", sig := { parameters := [(.array .char), .int, .int], returnType := some (.array .byte) }, accessFlags := 9, code := some k16c6 }
def k16c7 : Code := { maxStack := 2, maxLocals := 2, code := jdk_52_method_15_code, exceptionTable := #[], attributes := #[] }
def k16m7 : Method := { name := "coderFromArrayLen", desc := "([BI)B", sig := { parameters := [(.array .byte), .int], returnType := some .byte }, accessFlags := 8, code := some k16c7 }
def k16c8 : Code := { maxStack := 5, maxLocals := 6, code := jdk_52_method_16_code, exceptionTable := #[], attributes := #[] }
def k16m8 : Method := { name := "compress", desc := "([CII)[B", sig := { parameters := [(.array .char), .int, .int], returnType := some (.array .byte) }, accessFlags := 9, code := some k16c8 }
def k16c9 : Code := { maxStack := 3, maxLocals := 7, code := jdk_52_method_21_code, exceptionTable := #[], attributes := #[] }
def k16m9 : Method := { name := "compress", desc := "([CI[BII)I", sig := { parameters := [(.array .char), .int, (.array .byte), .int, .int], returnType := some .int }, accessFlags := 9, code := some k16c9 }
def k16c10 : Code := { maxStack := 2, maxLocals := 2, code := jdk_52_method_83_code, exceptionTable := #[], attributes := #[] }
def k16m10 : Method := { name := "charAt", desc := "([BI)C", sig := { parameters := [(.array .byte), .int], returnType := some .char }, accessFlags := 9, code := some k16c10 }
def k16c11 : Code := { maxStack := 2, maxLocals := 2, code := jdk_52_method_91_code, exceptionTable := #[], attributes := #[] }
def k16m11 : Method := { name := "checkIndex", desc := "(I[B)V", sig := { parameters := [.int, (.array .byte)], returnType := none }, accessFlags := 9, code := some k16c11 }
/-- java/lang/StringUTF16 -/
def k16 : Class := { plain "java/lang/StringUTF16" (some 0) with
  accessFlags := 48
  interfaces := #[]
  cf := some (fileOf pool16 12 #[.nestMembers #[627, 629, 369]] #[{ accessFlags := 0, nameIndex := 9, descriptorIndex := 10, attributes := #[] }, { accessFlags := 9, nameIndex := 109, descriptorIndex := 110, attributes := #[] }, { accessFlags := 9, nameIndex := 15, descriptorIndex := 16, attributes := #[] }, { accessFlags := 8, nameIndex := 113, descriptorIndex := 114, attributes := #[] }, { accessFlags := 8, nameIndex := 73, descriptorIndex := 74, attributes := #[] }, { accessFlags := 9, nameIndex := 50, descriptorIndex := 51, attributes := #[] }, { accessFlags := 9, nameIndex := 121, descriptorIndex := 122, attributes := #[] }, { accessFlags := 8, nameIndex := 261, descriptorIndex := 262, attributes := #[] }, { accessFlags := 9, nameIndex := 117, descriptorIndex := 122, attributes := #[] }, { accessFlags := 9, nameIndex := 117, descriptorIndex := 118, attributes := #[] }, { accessFlags := 9, nameIndex := 392, descriptorIndex := 74, attributes := #[] }, { accessFlags := 9, nameIndex := 69, descriptorIndex := 70, attributes := #[] }] 48 6 #[] #[{ accessFlags := 26, nameIndex := 61, descriptorIndex := 62, attributes := #[] }, { accessFlags := 26, nameIndex := 65, descriptorIndex := 62, attributes := #[] }, { accessFlags := 24, nameIndex := 430, descriptorIndex := 62, attributes := #[] }, { accessFlags := 4120, nameIndex := 46, descriptorIndex := 47, attributes := #[] }])
  fields := #[{ name := "HI_BYTE_SHIFT", type := .int, accessFlags := 26, slot := 0, constantValue := 0 }, { name := "LO_BYTE_SHIFT", type := .int, accessFlags := 26, slot := 1, constantValue := 0 }, { name := "MAX_LENGTH", type := .int, accessFlags := 24, slot := 2, constantValue := 0 }, { name := "$assertionsDisabled", type := .boolean, accessFlags := 4120, slot := 3, constantValue := 0 }]
  methods := #[k16m0, k16m1, k16m2, k16m3, k16m4, k16m5, k16m6, k16m7, k16m8, k16m9, k16m10, k16m11]
  instanceTypes := #[]
  staticTypes := #[.int, .int, .int, .boolean]
  resolved := Array.replicate 635 none
  statics := some 2 }

def pool17 : Array CpInfo := pool [(2, .class_ 4), (1, u "java/lang/Object"), (0, u "<init>"), (0, u "()V"), (1, .class_ 10), (1, u "java/lang/System"), (0, u "allowSecurityManager"), (0, u "I"), (16, u "cons"), (0, u "Ljava/io/Console;"), (77, .class_ 110), (1, u "java/lang/System$CallersHolder"), (43, u "initialErrStream"), (0, u "Ljava/io/PrintStream;"), (19, u "security"), (0, u "Ljava/lang/SecurityManager;"), (31, .class_ 209), (0, u "java/lang/System$1"), (7, u "props"), (0, u "Ljava/util/Properties;"), (2, u "lineSeparator"), (0, u "Ljava/lang/String;"), (96, .class_ 321), (1, u "java/lang/System$LoggerFinder"), (5, .class_ 328), (0, u "java/lang/System$Logger"), (67, u "err"), (2, u "out"), (91, u "notSupportedJnuEncoding"), (15, u "in"), (17, u "initialIn"), (0, u "Ljava/io/InputStream;"), (35, u "bootLayer"), (0, u "Ljava/lang/ModuleLayer;"), (99, .class_ 664), (0, u "java/lang/System$2"), (9, u "NEVER"), (2, u "MAYBE"), (49, u "arraycopy"), (0, u "(Ljava/lang/Object;ILjava/lang/Object;II)V"), (72, .class_ 802), (0, u "java/lang/System$Logger$Level")] 31

def k17m0 : Method := { name := "<init>", desc := "()V", sig := { parameters := [], returnType := none }, accessFlags := 2, code := none }
def k17m1 : Method := { name := "arraycopy", desc := "(Ljava/lang/Object;ILjava/lang/Object;II)V", sig := { parameters := [(.object "java/lang/Object"), .int, (.object "java/lang/Object"), .int, .int], returnType := none }, accessFlags := 265, code := none }
/-- java/lang/System -/
def k17 : Class := { plain "java/lang/System" (some 0) with
  accessFlags := 49
  interfaces := #[]
  cf := some (fileOf pool17 8 #[.nestMembers #[319, 327, 801, 108, 663, 208]] #[{ accessFlags := 2, nameIndex := 5, descriptorIndex := 6, attributes := #[] }, { accessFlags := 265, nameIndex := 727, descriptorIndex := 728, attributes := #[] }] 49 2 #[] #[{ accessFlags := 25, nameIndex := 507, descriptorIndex := 526, attributes := #[] }, { accessFlags := 25, nameIndex := 399, descriptorIndex := 155, attributes := #[] }, { accessFlags := 25, nameIndex := 396, descriptorIndex := 155, attributes := #[] }, { accessFlags := 10, nameIndex := 525, descriptorIndex := 526, attributes := #[] }, { accessFlags := 26, nameIndex := 674, descriptorIndex := 12, attributes := #[] }, { accessFlags := 26, nameIndex := 677, descriptorIndex := 12, attributes := #[] }, { accessFlags := 10, nameIndex := 11, descriptorIndex := 12, attributes := #[] }, { accessFlags := 74, nameIndex := 175, descriptorIndex := 176, attributes := #[] }, { accessFlags := 10, nameIndex := 491, descriptorIndex := 222, attributes := #[] }, { accessFlags := 74, nameIndex := 29, descriptorIndex := 30, attributes := #[] }, { accessFlags := 74, nameIndex := 154, descriptorIndex := 155, attributes := #[] }, { accessFlags := 10, nameIndex := 217, descriptorIndex := 218, attributes := #[] }, { accessFlags := 10, nameIndex := 221, descriptorIndex := 222, attributes := #[] }, { accessFlags := 8, nameIndex := 562, descriptorIndex := 563, attributes := #[] }])
  fields := #[{ name := "in", type := (.object "java/io/InputStream"), accessFlags := 25, slot := 0, constantValue := 0 }, { name := "out", type := (.object "java/io/PrintStream"), accessFlags := 25, slot := 1, constantValue := 0 }, { name := "err", type := (.object "java/io/PrintStream"), accessFlags := 25, slot := 2, constantValue := 0 }, { name := "initialIn", type := (.object "java/io/InputStream"), accessFlags := 10, slot := 3, constantValue := 0 }, { name := "NEVER", type := .int, accessFlags := 26, slot := 4, constantValue := 0 }, { name := "MAYBE", type := .int, accessFlags := 26, slot := 5, constantValue := 0 }, { name := "allowSecurityManager", type := .int, accessFlags := 10, slot := 6, constantValue := 0 }, { name := "security", type := (.object "java/lang/SecurityManager"), accessFlags := 74, slot := 7, constantValue := 0 }, { name := "notSupportedJnuEncoding", type := (.object "java/lang/String"), accessFlags := 10, slot := 8, constantValue := 0 }, { name := "cons", type := (.object "java/io/Console"), accessFlags := 74, slot := 9, constantValue := 0 }, { name := "initialErrStream", type := (.object "java/io/PrintStream"), accessFlags := 74, slot := 10, constantValue := 0 }, { name := "props", type := (.object "java/util/Properties"), accessFlags := 10, slot := 11, constantValue := 0 }, { name := "lineSeparator", type := (.object "java/lang/String"), accessFlags := 10, slot := 12, constantValue := 0 }, { name := "bootLayer", type := (.object "java/lang/ModuleLayer"), accessFlags := 8, slot := 13, constantValue := 0 }]
  methods := #[k17m0, k17m1]
  instanceTypes := #[]
  staticTypes := #[(.object "java/io/InputStream"), (.object "java/io/PrintStream"), (.object "java/io/PrintStream"), (.object "java/io/InputStream"), .int, .int, .int, (.object "java/lang/SecurityManager"), (.object "java/lang/String"), (.object "java/io/Console"), (.object "java/io/PrintStream"), (.object "java/util/Properties"), (.object "java/lang/String"), (.object "java/lang/ModuleLayer")]
  resolved := Array.replicate 834 none
  statics := none }

def pool18 : Array CpInfo := pool [(9, u "<init>"), (6, .class_ 18), (1, u "java/lang/Object"), (0, u "()V"), (1, .class_ 23), (1, u "jdk/internal/util/ArraysSupport"), (0, u "LOG2_ARRAY_LONG_INDEX_SCALE"), (0, u "I"), (2, u "U"), (0, u "Ljdk/internal/misc/Unsafe;"), (8, u "BIG_ENDIAN"), (0, u "Z"), (8, u "LOG2_BYTE_BIT_SIZE"), (4, u "LOG2_ARRAY_INT_INDEX_SCALE"), (54, u "JLA"), (0, u "Ljdk/internal/access/JavaLangAccess;"), (11, u "LOG2_ARRAY_BOOLEAN_INDEX_SCALE"), (9, u "LOG2_ARRAY_BYTE_INDEX_SCALE"), (5, u "LOG2_ARRAY_CHAR_INDEX_SCALE"), (5, u "LOG2_ARRAY_SHORT_INDEX_SCALE"), (18, u "LOG2_ARRAY_FLOAT_INDEX_SCALE"), (24, u "LOG2_ARRAY_DOUBLE_INDEX_SCALE"), (6, .methodref 195 196), (0, .class_ 197), (0, .nameAndType 198 199), (0, u "java/lang/Math"), (0, u "max"), (0, u "(II)I"), (0, .integer 2147483639), (76, u "T_BOOLEAN"), (2, u "T_CHAR"), (1, u "T_FLOAT"), (1, u "T_DOUBLE"), (1, u "T_BYTE"), (1, u "T_SHORT"), (1, u "T_INT"), (1, u "T_LONG"), (1, u "SOFT_MAX_ARRAY_LENGTH"), (56, u "newLength"), (0, u "(III)I")] 25

def k18m0 : Method := { name := "<init>", desc := "()V", sig := { parameters := [], returnType := none }, accessFlags := 2, code := none }
def k18c1 : Code := { maxStack := 3, maxLocals := 4, code := jdk_48_method_27_code, exceptionTable := #[], attributes := #[] }
def k18m1 : Method := { name := "newLength", desc := "(III)I", sig := { parameters := [.int, .int, .int], returnType := some .int }, accessFlags := 9, code := some k18c1 }
/-- jdk/internal/util/ArraysSupport -/
def k18 : Class := { plain "jdk/internal/util/ArraysSupport" (some 0) with
  accessFlags := 33
  interfaces := #[]
  cf := some (fileOf pool18 21 #[] #[{ accessFlags := 2, nameIndex := 9, descriptorIndex := 19, attributes := #[] }, { accessFlags := 9, nameIndex := 351, descriptorIndex := 352, attributes := #[] }] 33 16 #[] #[{ accessFlags := 24, nameIndex := 28, descriptorIndex := 29, attributes := #[] }, { accessFlags := 26, nameIndex := 38, descriptorIndex := 39, attributes := #[] }, { accessFlags := 25, nameIndex := 121, descriptorIndex := 25, attributes := #[] }, { accessFlags := 25, nameIndex := 131, descriptorIndex := 25, attributes := #[] }, { accessFlags := 25, nameIndex := 137, descriptorIndex := 25, attributes := #[] }, { accessFlags := 25, nameIndex := 143, descriptorIndex := 25, attributes := #[] }, { accessFlags := 25, nameIndex := 53, descriptorIndex := 25, attributes := #[] }, { accessFlags := 25, nameIndex := 24, descriptorIndex := 25, attributes := #[] }, { accessFlags := 25, nameIndex := 162, descriptorIndex := 25, attributes := #[] }, { accessFlags := 25, nameIndex := 187, descriptorIndex := 25, attributes := #[] }, { accessFlags := 26, nameIndex := 48, descriptorIndex := 25, attributes := #[] }, { accessFlags := 25, nameIndex := 277, descriptorIndex := 25, attributes := #[] }, { accessFlags := 25, nameIndex := 280, descriptorIndex := 25, attributes := #[] }, { accessFlags := 25, nameIndex := 282, descriptorIndex := 25, attributes := #[] }, { accessFlags := 25, nameIndex := 284, descriptorIndex := 25, attributes := #[] }, { accessFlags := 25, nameIndex := 286, descriptorIndex := 25, attributes := #[] }, { accessFlags := 25, nameIndex := 288, descriptorIndex := 25, attributes := #[] }, { accessFlags := 25, nameIndex := 290, descriptorIndex := 25, attributes := #[] }, { accessFlags := 25, nameIndex := 292, descriptorIndex := 25, attributes := #[] }, { accessFlags := 26, nameIndex := 108, descriptorIndex := 109, attributes := #[] }, { accessFlags := 25, nameIndex := 294, descriptorIndex := 25, attributes := #[] }])
  fields := #[{ name := "U", type := (.object "jdk/internal/misc/Unsafe"), accessFlags := 24, slot := 0, constantValue := 0 }, { name := "BIG_ENDIAN", type := .boolean, accessFlags := 26, slot := 1, constantValue := 0 }, { name := "LOG2_ARRAY_BOOLEAN_INDEX_SCALE", type := .int, accessFlags := 25, slot := 2, constantValue := 0 }, { name := "LOG2_ARRAY_BYTE_INDEX_SCALE", type := .int, accessFlags := 25, slot := 3, constantValue := 0 }, { name := "LOG2_ARRAY_CHAR_INDEX_SCALE", type := .int, accessFlags := 25, slot := 4, constantValue := 0 }, { name := "LOG2_ARRAY_SHORT_INDEX_SCALE", type := .int, accessFlags := 25, slot := 5, constantValue := 0 }, { name := "LOG2_ARRAY_INT_INDEX_SCALE", type := .int, accessFlags := 25, slot := 6, constantValue := 0 }, { name := "LOG2_ARRAY_LONG_INDEX_SCALE", type := .int, accessFlags := 25, slot := 7, constantValue := 0 }, { name := "LOG2_ARRAY_FLOAT_INDEX_SCALE", type := .int, accessFlags := 25, slot := 8, constantValue := 0 }, { name := "LOG2_ARRAY_DOUBLE_INDEX_SCALE", type := .int, accessFlags := 25, slot := 9, constantValue := 0 }, { name := "LOG2_BYTE_BIT_SIZE", type := .int, accessFlags := 26, slot := 10, constantValue := 0 }, { name := "T_BOOLEAN", type := .int, accessFlags := 25, slot := 11, constantValue := 0 }, { name := "T_CHAR", type := .int, accessFlags := 25, slot := 12, constantValue := 0 }, { name := "T_FLOAT", type := .int, accessFlags := 25, slot := 13, constantValue := 0 }, { name := "T_DOUBLE", type := .int, accessFlags := 25, slot := 14, constantValue := 0 }, { name := "T_BYTE", type := .int, accessFlags := 25, slot := 15, constantValue := 0 }, { name := "T_SHORT", type := .int, accessFlags := 25, slot := 16, constantValue := 0 }, { name := "T_INT", type := .int, accessFlags := 25, slot := 17, constantValue := 0 }, { name := "T_LONG", type := .int, accessFlags := 25, slot := 18, constantValue := 0 }, { name := "JLA", type := (.object "jdk/internal/access/JavaLangAccess"), accessFlags := 26, slot := 19, constantValue := 0 }, { name := "SOFT_MAX_ARRAY_LENGTH", type := .int, accessFlags := 25, slot := 20, constantValue := 0 }]
  methods := #[k18m0, k18m1]
  instanceTypes := #[]
  staticTypes := #[(.object "jdk/internal/misc/Unsafe"), .boolean, .int, .int, .int, .int, .int, .int, .int, .int, .int, .int, .int, .int, .int, .int, .int, .int, .int, (.object "jdk/internal/access/JavaLangAccess"), .int]
  resolved := Array.replicate 378 none
  statics := none }

def pool19 : Array CpInfo := pool [(1, .class_ 2), (0, u "java/lang/Math"), (1, .class_ 6), (1, u "java/lang/Object"), (0, u "<init>"), (0, u "()V"), (89, .class_ 100), (1, u "java/lang/Math$RandomNumberGeneratorHolder"), (71, u "negativeZeroFloatBits"), (0, u "J"), (2, u "negativeZeroDoubleBits"), (21, u "max"), (2, u "min"), (43, u "$assertionsDisabled"), (0, u "Z"), (88, u "(II)I"), (2, u "twoToTheDoubleScaleDown"), (0, u "D"), (4, u "twoToTheDoubleScaleUp"), (9, u "E"), (3, u "PI"), (2, u "TAU"), (2, u "DEGREES_TO_RADIANS"), (0, u "RADIANS_TO_DEGREES")] 94

def k19m0 : Method := { name := "<init>", desc := "()V", sig := { parameters := [], returnType := none }, accessFlags := 2, code := none }
def k19c1 : Code := { maxStack := 2, maxLocals := 2, code := jdk_29_method_65_code, exceptionTable := #[], attributes := #[] }
def k19m1 : Method := { name := "max", desc := "(II)I", sig := { parameters := [.int, .int], returnType := some .int }, accessFlags := 9, code := some k19c1 }
def k19c2 : Code := { maxStack := 2, maxLocals := 2, code := jdk_29_method_69_code, exceptionTable := #[], attributes := #[] }
def k19m2 : Method := { name := "min", desc := "(II)I", sig := { parameters := [.int, .int], returnType := some .int }, accessFlags := 9, code := some k19c2 }
/-- java/lang/Math -/
def k19 : Class := { plain "java/lang/Math" (some 0) with
  accessFlags := 49
  interfaces := #[]
  cf := some (fileOf pool19 1 #[.nestMembers #[98]] #[{ accessFlags := 2, nameIndex := 7, descriptorIndex := 8, attributes := #[] }, { accessFlags := 9, nameIndex := 198, descriptorIndex := 335, attributes := #[] }, { accessFlags := 9, nameIndex := 201, descriptorIndex := 335, attributes := #[] }] 49 4 #[] #[{ accessFlags := 25, nameIndex := 354, descriptorIndex := 339, attributes := #[] }, { accessFlags := 25, nameIndex := 358, descriptorIndex := 339, attributes := #[] }, { accessFlags := 25, nameIndex := 361, descriptorIndex := 339, attributes := #[] }, { accessFlags := 26, nameIndex := 364, descriptorIndex := 339, attributes := #[] }, { accessFlags := 26, nameIndex := 365, descriptorIndex := 339, attributes := #[] }, { accessFlags := 26, nameIndex := 172, descriptorIndex := 173, attributes := #[] }, { accessFlags := 26, nameIndex := 176, descriptorIndex := 173, attributes := #[] }, { accessFlags := 8, nameIndex := 344, descriptorIndex := 339, attributes := #[] }, { accessFlags := 8, nameIndex := 338, descriptorIndex := 339, attributes := #[] }, { accessFlags := 4120, nameIndex := 245, descriptorIndex := 246, attributes := #[] }])
  fields := #[{ name := "E", type := .double, accessFlags := 25, slot := 0, constantValue := 0 }, { name := "PI", type := .double, accessFlags := 25, slot := 1, constantValue := 0 }, { name := "TAU", type := .double, accessFlags := 25, slot := 2, constantValue := 0 }, { name := "DEGREES_TO_RADIANS", type := .double, accessFlags := 26, slot := 3, constantValue := 0 }, { name := "RADIANS_TO_DEGREES", type := .double, accessFlags := 26, slot := 4, constantValue := 0 }, { name := "negativeZeroFloatBits", type := .long, accessFlags := 26, slot := 5, constantValue := 0 }, { name := "negativeZeroDoubleBits", type := .long, accessFlags := 26, slot := 6, constantValue := 0 }, { name := "twoToTheDoubleScaleUp", type := .double, accessFlags := 8, slot := 7, constantValue := 0 }, { name := "twoToTheDoubleScaleDown", type := .double, accessFlags := 8, slot := 8, constantValue := 0 }, { name := "$assertionsDisabled", type := .boolean, accessFlags := 4120, slot := 9, constantValue := 0 }]
  methods := #[k19m0, k19m1, k19m2]
  instanceTypes := #[]
  staticTypes := #[.double, .double, .double, .double, .double, .long, .long, .double, .double, .boolean]
  resolved := Array.replicate 460 none
  statics := none }

/-- the primitive byte -/
def k20 : Class := { plain "byte" none with kind := .primitive 'B', accessFlags := 0x411 }
/-- [B -/
def k21 : Class := { plain "[B" (some 0) with kind := .array 20 .byte, interfaces := #[14, 2], accessFlags := 1041 }

/-- the primitive char -/
def k22 : Class := { plain "char" none with kind := .primitive 'C', accessFlags := 0x411 }
/-- [C -/
def k23 : Class := { plain "[C" (some 0) with kind := .array 22 .char, interfaces := #[14, 2], accessFlags := 1041 }

/-- the primitive int -/
def k24 : Class := { plain "int" none with kind := .primitive 'I', accessFlags := 0x411 }
/-- [I -/
def k25 : Class := { plain "[I" (some 0) with kind := .array 24 .int, interfaces := #[14, 2], accessFlags := 1041 }

def heap : Heap := #[{ cls := 7, slots := #[.long 0, .int 1, .null, .int 0, .null, .int 0, .int 0], vm := .statics 7 },
  { cls := 15, slots := #[.null, .null, .null], vm := .statics 15 },
  { cls := 16, slots := #[.int 0, .int 8, .int 0, .int 1], vm := .statics 16 }]
def classes : Array Class := #[k0, k1, k2, k3, k4, k5, k6, k7, k8, k9, k10, k11, k12, k13, k14, k15, k16, k17, k18, k19, k20, k21, k22, k23, k24, k25]
def interned : List (Array UInt16 × Addr) := []
def slotsUsed : Nat := 14
def theMethod : MethodId := ⟨1, 1⟩
def args0 : Array Value := #[.int 5, .int 1, .int 2, .int 3]
def aboutOver (below : List Frame) : State where
  vm := { classes := classes, interned := interned.toArray }
  heap := heap
  slotsUsed := slotsUsed
  threads := #[{ frames := .invoking theMethod args0 :: below }]
def below0 : List Frame := [.native { method := ⟨0, 0⟩, args := #[] }]
def about1 : State := aboutOver below0
def p0 : Program := .bare "" "" ""
def e0 : Env := launch0.env 0 0 0
theorem w_frames : about1.frames = Frame.invoking theMethod args0 :: below0 := rfl
set_option maxRecDepth 65536 in
theorem w_args : argsFit about1.vm theMethod args0 = true := by decide +kernel
set_option maxRecDepth 65536 in
theorem w_heap : heapFits about1 = true := by decide +kernel
set_option maxRecDepth 65536 in
theorem w_runnable : about1.curStatus? = some .runnable := by decide +kernel
set_option maxRecDepth 65536 in
theorem w_alone : about1.alone = true := by decide +kernel
set_option maxRecDepth 65536 in
theorem w_named : about1.methodNamed? x = some theMethod := by decide +kernel
set_option maxRecDepth 65536 in
theorem w_hears : about1.hears theMethod below0 = true := by decide +kernel
set_option maxRecDepth 65536 in
theorem w_ripe : about1.ripe theMethod args0 below0 = true := by decide +kernel
theorem w_running : about1.status = .running := rfl
set_option maxRecDepth 65536 in
theorem w_room : about1.hasRoom e0.platform room_1 = true :=
  launch0.hasRoom_least _ room_1 (by decide +kernel) (by decide +kernel) (by decide +kernel) (by decide +kernel) (by decide +kernel) (by decide +kernel)
theorem allAtoms_all (ts : List Jvm.Cond) (a : Array Jvm.Value) (st : Jvm.State) : (allAtoms ts).before a st = ts.all (fun c => c.before a st) := by
  induction ts with
  | nil => rfl
  | cons c t ih =>
    show (Jvm.Cond.and c (allAtoms t)).before a st = _
    rw [Jvm.Cond.before_and, ih, List.all_cons]
def words1 : List Jvm.Cond := Jvm.Cond.code x code maxLocals ret :: tables_1
/-- a 'code' word, met by the world's own term for the bytes: nothing is compared byte by byte -/
theorem code_word {y : MethodName} {bytes : ByteArray} {mx : Nat} {rt : Option FieldType} {a : Array Value} {s : State} {m : MethodId} {meth : Method} {c : Code} (h1 : s.methodNamed? y = some m) (h2 : s.vm.method? m = some meth) (h3 : meth.code = some c) (h4 : c.code = bytes)
    (h5 : (c.maxLocals == mx && c.exceptionTable.isEmpty && decide (c.maxStack ≤ mostOperands) && decide (meth.sig.returnType = rt) && !meth.locks && decide (parseMethodDescriptor y.desc = some meth.sig)) = true) : (Jvm.Cond.code y bytes mx rt).before a s = true := by
  simp only [Bool.and_eq_true, beq_iff_eq, Bool.not_eq_true', decide_eq_true_eq] at h5
  obtain ⟨⟨⟨⟨⟨g1, g2⟩, g3⟩, g4⟩, g5⟩, g6⟩ := h5
  simp [Cond.before, Cond.holds, Cond.value, h1, h2, h3, h4, g1, g2, g3, g4, g5, g6]
def isCode : Jvm.Cond → Bool
  | .code _ _ _ _ => true
  | _ => false
theorem all_split {L : List Jvm.Cond} {P : Jvm.Cond → Bool} (h1 : L.all (fun c => isCode c || P c) = true) (h2 : ∀ c ∈ L.filter isCode, P c = true) : L.all P = true := by
  refine List.all_eq_true.mpr fun c hc => ?_
  have h := List.all_eq_true.mp h1 c hc
  rcases Bool.eq_false_or_eq_true (isCode c) with hi | hi
  · exact h2 c (List.mem_filter.mpr ⟨hc, hi⟩)
  · simpa [hi] using h
set_option maxRecDepth 65536 in
theorem w_c0 : (Jvm.Cond.code x code maxLocals ret).before args0 about1 = true := code_word (m := ⟨1, 1⟩) (meth := k1m1) (c := k1c1) (by decide +kernel) rfl rfl rfl (by decide +kernel)
set_option maxRecDepth 65536 in
theorem w_c1 : (Jvm.Cond.code ({ cls := "com/example/ampersat/ampersat/text/LiteralsQuotedPinLaw", name := "text", desc := "(ICCC)Ljava/lang/String;" } : Jvm.MethodName) method_3_code (4 : Nat) (Option.some (Jvm.ClassFile.FieldType.object "java/lang/String"))).before args0 about1 = true := code_word (m := ⟨1, 2⟩) (meth := k1m2) (c := k1c2) (by decide +kernel) rfl rfl rfl (by decide +kernel)
set_option maxRecDepth 65536 in
theorem w_c2 : (Jvm.Cond.code ({ cls := "java/lang/String", name := "<init>", desc := "([C)V" } : Jvm.MethodName) jdk_42_method_3_code (2 : Nat) (Option.none : Option Jvm.ClassFile.FieldType)).before args0 about1 = true := code_word (m := ⟨7, 1⟩) (meth := k7m1) (c := k7c1) (by decide +kernel) rfl rfl rfl (by decide +kernel)
set_option maxRecDepth 65536 in
theorem w_c3 : (Jvm.Cond.code ({ cls := "java/lang/String", name := "<init>", desc := "([CIILjava/lang/Void;)V" } : Jvm.MethodName) jdk_42_method_149_code (6 : Nat) (Option.none : Option Jvm.ClassFile.FieldType)).before args0 about1 = true := code_word (m := ⟨7, 6⟩) (meth := k7m6) (c := k7c6) (by decide +kernel) rfl rfl rfl (by decide +kernel)
set_option maxRecDepth 65536 in
theorem w_c4 : (Jvm.Cond.code ({ cls := "java/lang/Object", name := "<init>", desc := "()V" } : Jvm.MethodName) object_method_1_code (1 : Nat) (Option.none : Option Jvm.ClassFile.FieldType)).before args0 about1 = true := code_word (m := ⟨0, 0⟩) (meth := k0m0) (c := k0c0) (by decide +kernel) rfl rfl rfl (by decide +kernel)
set_option maxRecDepth 65536 in
theorem w_c5 : (Jvm.Cond.code ({ cls := "com/example/ampersat/ampersat/text/Literals", name := "quoted", desc := "(Ljava/lang/String;)Ljava/lang/String;" } : Jvm.MethodName) prog_65_method_3_code (2 : Nat) (Option.some (Jvm.ClassFile.FieldType.object "java/lang/String"))).before args0 about1 = true := code_word (m := ⟨8, 1⟩) (meth := k8m1) (c := k8c1) (by decide +kernel) rfl rfl rfl (by decide +kernel)
set_option maxRecDepth 65536 in
theorem w_c6 : (Jvm.Cond.code ({ cls := "java/lang/String", name := "length", desc := "()I" } : Jvm.MethodName) jdk_42_method_54_code (1 : Nat) (Option.some Jvm.ClassFile.FieldType.int)).before args0 about1 = true := code_word (m := ⟨7, 3⟩) (meth := k7m3) (c := k7c3) (by decide +kernel) rfl rfl rfl (by decide +kernel)
set_option maxRecDepth 65536 in
theorem w_c7 : (Jvm.Cond.code ({ cls := "java/lang/String", name := "coder", desc := "()B" } : Jvm.MethodName) jdk_42_method_152_code (1 : Nat) (Option.some Jvm.ClassFile.FieldType.byte)).before args0 about1 = true := code_word (m := ⟨7, 8⟩) (meth := k7m8) (c := k7c8) (by decide +kernel) rfl rfl rfl (by decide +kernel)
set_option maxRecDepth 65536 in
theorem w_c8 : (Jvm.Cond.code ({ cls := "java/lang/StringBuilder", name := "<init>", desc := "(I)V" } : Jvm.MethodName) jdk_67_method_2_code (2 : Nat) (Option.none : Option Jvm.ClassFile.FieldType)).before args0 about1 = true := code_word (m := ⟨11, 1⟩) (meth := k11m1) (c := k11c1) (by decide +kernel) rfl rfl rfl (by decide +kernel)
set_option maxRecDepth 65536 in
theorem w_c9 : (Jvm.Cond.code ({ cls := "java/lang/AbstractStringBuilder", name := "<init>", desc := "(I)V" } : Jvm.MethodName) jdk_68_method_2_code (2 : Nat) (Option.none : Option Jvm.ClassFile.FieldType)).before args0 about1 = true := code_word (m := ⟨10, 1⟩) (meth := k10m1) (c := k10c1) (by decide +kernel) rfl rfl rfl (by decide +kernel)
set_option maxRecDepth 65536 in
theorem w_c10 : (Jvm.Cond.code ({ cls := "java/lang/StringBuilder", name := "append", desc := "(C)Ljava/lang/StringBuilder;" } : Jvm.MethodName) jdk_67_method_14_code (2 : Nat) (Option.some (Jvm.ClassFile.FieldType.object "java/lang/StringBuilder"))).before args0 about1 = true := code_word (m := ⟨11, 3⟩) (meth := k11m3) (c := k11c3) (by decide +kernel) rfl rfl rfl (by decide +kernel)
set_option maxRecDepth 65536 in
theorem w_c11 : (Jvm.Cond.code ({ cls := "java/lang/AbstractStringBuilder", name := "append", desc := "(C)Ljava/lang/AbstractStringBuilder;" } : Jvm.MethodName) jdk_68_method_31_code (2 : Nat) (Option.some (Jvm.ClassFile.FieldType.object "java/lang/AbstractStringBuilder"))).before args0 about1 = true := code_word (m := ⟨10, 6⟩) (meth := k10m6) (c := k10c6) (by decide +kernel) rfl rfl rfl (by decide +kernel)
set_option maxRecDepth 65536 in
theorem w_c12 : (Jvm.Cond.code ({ cls := "java/lang/AbstractStringBuilder", name := "ensureCapacityInternal", desc := "(I)V" } : Jvm.MethodName) jdk_68_method_9_code (3 : Nat) (Option.none : Option Jvm.ClassFile.FieldType)).before args0 about1 = true := code_word (m := ⟨10, 3⟩) (meth := k10m3) (c := k10c3) (by decide +kernel) rfl rfl rfl (by decide +kernel)
set_option maxRecDepth 65536 in
theorem w_c13 : (Jvm.Cond.code ({ cls := "java/lang/AbstractStringBuilder", name := "isLatin1", desc := "()Z" } : Jvm.MethodName) jdk_68_method_68_code (1 : Nat) (Option.some Jvm.ClassFile.FieldType.boolean)).before args0 about1 = true := code_word (m := ⟨10, 8⟩) (meth := k10m8) (c := k10c8) (by decide +kernel) rfl rfl rfl (by decide +kernel)
set_option maxRecDepth 65536 in
theorem w_c14 : (Jvm.Cond.code ({ cls := "java/lang/StringLatin1", name := "canEncode", desc := "(C)Z" } : Jvm.MethodName) jdk_43_method_3_code (1 : Nat) (Option.some Jvm.ClassFile.FieldType.boolean)).before args0 about1 = true := code_word (m := ⟨12, 2⟩) (meth := k12m2) (c := k12c2) (by decide +kernel) rfl rfl rfl (by decide +kernel)
set_option maxRecDepth 65536 in
theorem w_c15 : (Jvm.Cond.code ({ cls := "com/example/ampersat/ampersat/text/Literals", name := "appendEscaped", desc := "(Ljava/lang/StringBuilder;Ljava/lang/String;CZ)V" } : Jvm.MethodName) prog_65_method_6_code (7 : Nat) (Option.none : Option Jvm.ClassFile.FieldType)).before args0 about1 = true := code_word (m := ⟨8, 2⟩) (meth := k8m2) (c := k8c2) (by decide +kernel) rfl rfl rfl (by decide +kernel)
set_option maxRecDepth 65536 in
theorem w_c16 : (Jvm.Cond.code ({ cls := "java/lang/StringBuilder", name := "toString", desc := "()Ljava/lang/String;" } : Jvm.MethodName) jdk_67_method_42_code (1 : Nat) (Option.some (Jvm.ClassFile.FieldType.object "java/lang/String"))).before args0 about1 = true := code_word (m := ⟨11, 4⟩) (meth := k11m4) (c := k11c4) (by decide +kernel) rfl rfl rfl (by decide +kernel)
set_option maxRecDepth 65536 in
theorem w_c17 : (Jvm.Cond.code ({ cls := "java/lang/String", name := "<init>", desc := "(Ljava/lang/StringBuilder;)V" } : Jvm.MethodName) jdk_42_method_53_code (2 : Nat) (Option.none : Option Jvm.ClassFile.FieldType)).before args0 about1 = true := code_word (m := ⟨7, 2⟩) (meth := k7m2) (c := k7c2) (by decide +kernel) rfl rfl rfl (by decide +kernel)
set_option maxRecDepth 65536 in
theorem w_c18 : (Jvm.Cond.code ({ cls := "java/lang/String", name := "<init>", desc := "(Ljava/lang/AbstractStringBuilder;Ljava/lang/Void;)V" } : Jvm.MethodName) jdk_42_method_150_code (5 : Nat) (Option.none : Option Jvm.ClassFile.FieldType)).before args0 about1 = true := code_word (m := ⟨7, 7⟩) (meth := k7m7) (c := k7c7) (by decide +kernel) rfl rfl rfl (by decide +kernel)
set_option maxRecDepth 65536 in
theorem w_c19 : (Jvm.Cond.code ({ cls := "java/lang/AbstractStringBuilder", name := "getValue", desc := "()[B" } : Jvm.MethodName) jdk_68_method_64_code (1 : Nat) (Option.some (Jvm.ClassFile.FieldType.array Jvm.ClassFile.FieldType.byte))).before args0 about1 = true := code_word (m := ⟨10, 7⟩) (meth := k10m7) (c := k10c7) (by decide +kernel) rfl rfl rfl (by decide +kernel)
set_option maxRecDepth 65536 in
theorem w_c20 : (Jvm.Cond.code ({ cls := "java/lang/StringBuilder", name := "length", desc := "()I" } : Jvm.MethodName) jdk_67_method_93_code (1 : Nat) (Option.some Jvm.ClassFile.FieldType.int)).before args0 about1 = true := code_word (m := ⟨11, 5⟩) (meth := k11m5) (c := k11c5) (by decide +kernel) rfl rfl rfl (by decide +kernel)
set_option maxRecDepth 65536 in
theorem w_c21 : (Jvm.Cond.code ({ cls := "java/lang/AbstractStringBuilder", name := "length", desc := "()I" } : Jvm.MethodName) jdk_68_method_6_code (1 : Nat) (Option.some Jvm.ClassFile.FieldType.int)).before args0 about1 = true := code_word (m := ⟨10, 2⟩) (meth := k10m2) (c := k10c2) (by decide +kernel) rfl rfl rfl (by decide +kernel)
set_option maxRecDepth 65536 in
theorem w_c22 : (Jvm.Cond.code ({ cls := "java/util/Arrays", name := "copyOfRange", desc := "([BII)[B" } : Jvm.MethodName) jdk_65_method_132_code (3 : Nat) (Option.some (Jvm.ClassFile.FieldType.array Jvm.ClassFile.FieldType.byte))).before args0 about1 = true := code_word (m := ⟨13, 3⟩) (meth := k13m3) (c := k13c3) (by decide +kernel) rfl rfl rfl (by decide +kernel)
set_option maxRecDepth 65536 in
theorem w_c23 : (Jvm.Cond.code ({ cls := "java/lang/String", name := "charAt", desc := "(I)C" } : Jvm.MethodName) jdk_42_method_56_code (2 : Nat) (Option.some Jvm.ClassFile.FieldType.char)).before args0 about1 = true := code_word (m := ⟨7, 4⟩) (meth := k7m4) (c := k7c4) (by decide +kernel) rfl rfl rfl (by decide +kernel)
set_option maxRecDepth 65536 in
theorem w_c24 : (Jvm.Cond.code ({ cls := "java/lang/String", name := "isLatin1", desc := "()Z" } : Jvm.MethodName) jdk_42_method_154_code (1 : Nat) (Option.some Jvm.ClassFile.FieldType.boolean)).before args0 about1 = true := code_word (m := ⟨7, 9⟩) (meth := k7m9) (c := k7c9) (by decide +kernel) rfl rfl rfl (by decide +kernel)
set_option maxRecDepth 65536 in
theorem w_c25 : (Jvm.Cond.code ({ cls := "java/lang/StringLatin1", name := "charAt", desc := "([BI)C" } : Jvm.MethodName) jdk_43_method_2_code (2 : Nat) (Option.some Jvm.ClassFile.FieldType.char)).before args0 about1 = true := code_word (m := ⟨12, 1⟩) (meth := k12m1) (c := k12c1) (by decide +kernel) rfl rfl rfl (by decide +kernel)
set_option maxRecDepth 65536 in
theorem w_c26 : (Jvm.Cond.code ({ cls := "java/lang/String", name := "checkIndex", desc := "(II)V" } : Jvm.MethodName) jdk_42_method_155_code (2 : Nat) (Option.none : Option Jvm.ClassFile.FieldType)).before args0 about1 = true := code_word (m := ⟨7, 10⟩) (meth := k7m10) (c := k7c10) (by decide +kernel) rfl rfl rfl (by decide +kernel)
set_option maxRecDepth 65536 in
theorem w_c27 : (Jvm.Cond.code ({ cls := "jdk/internal/util/Preconditions", name := "checkIndex", desc := "(IILjava/util/function/BiFunction;)I" } : Jvm.MethodName) jdk_41_method_11_code (3 : Nat) (Option.some Jvm.ClassFile.FieldType.int)).before args0 about1 = true := code_word (m := ⟨15, 1⟩) (meth := k15m1) (c := k15c1) (by decide +kernel) rfl rfl rfl (by decide +kernel)
set_option maxRecDepth 65536 in
theorem w_c28 : (Jvm.Cond.code ({ cls := "java/lang/StringUTF16", name := "compress", desc := "([CII)[B" } : Jvm.MethodName) jdk_52_method_16_code (6 : Nat) (Option.some (Jvm.ClassFile.FieldType.array Jvm.ClassFile.FieldType.byte))).before args0 about1 = true := code_word (m := ⟨16, 8⟩) (meth := k16m8) (c := k16c8) (by decide +kernel) rfl rfl rfl (by decide +kernel)
set_option maxRecDepth 65536 in
theorem w_c29 : (Jvm.Cond.code ({ cls := "java/lang/StringUTF16", name := "compress", desc := "([CI[BII)I" } : Jvm.MethodName) jdk_52_method_21_code (7 : Nat) (Option.some Jvm.ClassFile.FieldType.int)).before args0 about1 = true := code_word (m := ⟨16, 9⟩) (meth := k16m9) (c := k16c9) (by decide +kernel) rfl rfl rfl (by decide +kernel)
set_option maxRecDepth 65536 in
theorem w_c30 : (Jvm.Cond.code ({ cls := "java/lang/StringUTF16", name := "coderFromArrayLen", desc := "([BI)B" } : Jvm.MethodName) jdk_52_method_15_code (2 : Nat) (Option.some Jvm.ClassFile.FieldType.byte)).before args0 about1 = true := code_word (m := ⟨16, 7⟩) (meth := k16m7) (c := k16c7) (by decide +kernel) rfl rfl rfl (by decide +kernel)
set_option maxRecDepth 65536 in
theorem w_c31 : (Jvm.Cond.code ({ cls := "java/lang/StringBuilder", name := "append", desc := "(Ljava/lang/String;)Ljava/lang/StringBuilder;" } : Jvm.MethodName) jdk_67_method_7_code (2 : Nat) (Option.some (Jvm.ClassFile.FieldType.object "java/lang/StringBuilder"))).before args0 about1 = true := code_word (m := ⟨11, 2⟩) (meth := k11m2) (c := k11c2) (by decide +kernel) rfl rfl rfl (by decide +kernel)
set_option maxRecDepth 65536 in
theorem w_c32 : (Jvm.Cond.code ({ cls := "java/lang/AbstractStringBuilder", name := "append", desc := "(Ljava/lang/String;)Ljava/lang/AbstractStringBuilder;" } : Jvm.MethodName) jdk_68_method_22_code (3 : Nat) (Option.some (Jvm.ClassFile.FieldType.object "java/lang/AbstractStringBuilder"))).before args0 about1 = true := code_word (m := ⟨10, 5⟩) (meth := k10m5) (c := k10c5) (by decide +kernel) rfl rfl rfl (by decide +kernel)
set_option maxRecDepth 65536 in
theorem w_c33 : (Jvm.Cond.code ({ cls := "java/lang/AbstractStringBuilder", name := "putStringAt", desc := "(ILjava/lang/String;)V" } : Jvm.MethodName) jdk_68_method_73_code (3 : Nat) (Option.none : Option Jvm.ClassFile.FieldType)).before args0 about1 = true := code_word (m := ⟨10, 10⟩) (meth := k10m10) (c := k10c10) (by decide +kernel) rfl rfl rfl (by decide +kernel)
set_option maxRecDepth 65536 in
theorem w_c34 : (Jvm.Cond.code ({ cls := "java/lang/AbstractStringBuilder", name := "inflateIfNeededFor", desc := "(Ljava/lang/String;)V" } : Jvm.MethodName) jdk_68_method_71_code (2 : Nat) (Option.none : Option Jvm.ClassFile.FieldType)).before args0 about1 = true := code_word (m := ⟨10, 9⟩) (meth := k10m9) (c := k10c9) (by decide +kernel) rfl rfl rfl (by decide +kernel)
set_option maxRecDepth 65536 in
theorem w_c35 : (Jvm.Cond.code ({ cls := "java/lang/String", name := "getBytes", desc := "([BIB)V" } : Jvm.MethodName) jdk_42_method_147_code (4 : Nat) (Option.none : Option Jvm.ClassFile.FieldType)).before args0 about1 = true := code_word (m := ⟨7, 5⟩) (meth := k7m5) (c := k7c5) (by decide +kernel) rfl rfl rfl (by decide +kernel)
set_option maxRecDepth 65536 in
theorem w_c36 : (Jvm.Cond.code ({ cls := "com/example/ampersat/ampersat/text/Literals", name := "appendHex", desc := "(Ljava/lang/StringBuilder;II)V" } : Jvm.MethodName) prog_65_method_7_code (4 : Nat) (Option.none : Option Jvm.ClassFile.FieldType)).before args0 about1 = true := code_word (m := ⟨8, 3⟩) (meth := k8m3) (c := k8c3) (by decide +kernel) rfl rfl rfl (by decide +kernel)
set_option maxRecDepth 65536 in
theorem w_c37 : (Jvm.Cond.code ({ cls := "java/lang/AbstractStringBuilder", name := "newCapacity", desc := "(I)I" } : Jvm.MethodName) jdk_68_method_10_code (6 : Nat) (Option.some Jvm.ClassFile.FieldType.int)).before args0 about1 = true := code_word (m := ⟨10, 4⟩) (meth := k10m4) (c := k10c4) (by decide +kernel) rfl rfl rfl (by decide +kernel)
set_option maxRecDepth 65536 in
theorem w_c38 : (Jvm.Cond.code ({ cls := "jdk/internal/util/ArraysSupport", name := "newLength", desc := "(III)I" } : Jvm.MethodName) jdk_48_method_27_code (4 : Nat) (Option.some Jvm.ClassFile.FieldType.int)).before args0 about1 = true := code_word (m := ⟨18, 1⟩) (meth := k18m1) (c := k18c1) (by decide +kernel) rfl rfl rfl (by decide +kernel)
set_option maxRecDepth 65536 in
theorem w_c39 : (Jvm.Cond.code ({ cls := "java/lang/Math", name := "max", desc := "(II)I" } : Jvm.MethodName) jdk_29_method_65_code (2 : Nat) (Option.some Jvm.ClassFile.FieldType.int)).before args0 about1 = true := code_word (m := ⟨19, 1⟩) (meth := k19m1) (c := k19c1) (by decide +kernel) rfl rfl rfl (by decide +kernel)
set_option maxRecDepth 65536 in
theorem w_c40 : (Jvm.Cond.code ({ cls := "java/util/Arrays", name := "copyOf", desc := "([BI)[B" } : Jvm.MethodName) jdk_65_method_121_code (3 : Nat) (Option.some (Jvm.ClassFile.FieldType.array Jvm.ClassFile.FieldType.byte))).before args0 about1 = true := code_word (m := ⟨13, 1⟩) (meth := k13m1) (c := k13c1) (by decide +kernel) rfl rfl rfl (by decide +kernel)
set_option maxRecDepth 65536 in
theorem w_c41 : (Jvm.Cond.code ({ cls := "java/lang/Math", name := "min", desc := "(II)I" } : Jvm.MethodName) jdk_29_method_69_code (2 : Nat) (Option.some Jvm.ClassFile.FieldType.int)).before args0 about1 = true := code_word (m := ⟨19, 2⟩) (meth := k19m2) (c := k19c2) (by decide +kernel) rfl rfl rfl (by decide +kernel)
set_option maxRecDepth 65536 in
theorem w_c42 : (Jvm.Cond.code ({ cls := "java/util/Arrays", name := "copyOfRangeByte", desc := "([BII)[B" } : Jvm.MethodName) jdk_65_method_133_code (5 : Nat) (Option.some (Jvm.ClassFile.FieldType.array Jvm.ClassFile.FieldType.byte))).before args0 about1 = true := code_word (m := ⟨13, 4⟩) (meth := k13m4) (c := k13c4) (by decide +kernel) rfl rfl rfl (by decide +kernel)
set_option maxRecDepth 65536 in
theorem w_c43 : (Jvm.Cond.code ({ cls := "java/util/Arrays", name := "checkLength", desc := "(II)V" } : Jvm.MethodName) jdk_65_method_131_code (2 : Nat) (Option.none : Option Jvm.ClassFile.FieldType)).before args0 about1 = true := code_word (m := ⟨13, 2⟩) (meth := k13m2) (c := k13c2) (by decide +kernel) rfl rfl rfl (by decide +kernel)
set_option maxRecDepth 65536 in
theorem w_c44 : (Jvm.Cond.code ({ cls := "com/example/ampersat/ampersat/text/LiteralsQuotedPinLaw", name := "width", desc := "(C)I" } : Jvm.MethodName) method_4_code (1 : Nat) (Option.some Jvm.ClassFile.FieldType.int)).before args0 about1 = true := code_word (m := ⟨1, 3⟩) (meth := k1m3) (c := k1c3) (by decide +kernel) rfl rfl rfl (by decide +kernel)
set_option maxRecDepth 65536 in
theorem w_c45 : (Jvm.Cond.code ({ cls := "com/example/ampersat/ampersat/text/LiteralsQuotedPinLaw", name := "matches", desc := "(Ljava/lang/String;IC)Z" } : Jvm.MethodName) method_6_code (3 : Nat) (Option.some Jvm.ClassFile.FieldType.boolean)).before args0 about1 = true := code_word (m := ⟨1, 5⟩) (meth := k1m5) (c := k1c5) (by decide +kernel) rfl rfl rfl (by decide +kernel)
set_option maxRecDepth 65536 in
theorem w_c46 : (Jvm.Cond.code ({ cls := "com/example/ampersat/ampersat/text/LiteralsQuotedPinLaw", name := "hex", desc := "(I)C" } : Jvm.MethodName) method_5_code (1 : Nat) (Option.some Jvm.ClassFile.FieldType.char)).before args0 about1 = true := code_word (m := ⟨1, 4⟩) (meth := k1m4) (c := k1c4) (by decide +kernel) rfl rfl rfl (by decide +kernel)
set_option maxRecDepth 65536 in
theorem w_c47 : (Jvm.Cond.code ({ cls := "java/lang/StringUTF16", name := "toBytes", desc := "([CII)[B" } : Jvm.MethodName) jdk_52_method_14_code (5 : Nat) (Option.some (Jvm.ClassFile.FieldType.array Jvm.ClassFile.FieldType.byte))).before args0 about1 = true := code_word (m := ⟨16, 6⟩) (meth := k16m6) (c := k16c6) (by decide +kernel) rfl rfl rfl (by decide +kernel)
set_option maxRecDepth 65536 in
theorem w_c48 : (Jvm.Cond.code ({ cls := "java/lang/StringUTF16", name := "newBytesFor", desc := "(I)[B" } : Jvm.MethodName) jdk_52_method_2_code (1 : Nat) (Option.some (Jvm.ClassFile.FieldType.array Jvm.ClassFile.FieldType.byte))).before args0 about1 = true := code_word (m := ⟨16, 1⟩) (meth := k16m1) (c := k16c1) (by decide +kernel) rfl rfl rfl (by decide +kernel)
set_option maxRecDepth 65536 in
theorem w_c49 : (Jvm.Cond.code ({ cls := "java/lang/StringUTF16", name := "newBytesLength", desc := "(I)I" } : Jvm.MethodName) jdk_52_method_3_code (1 : Nat) (Option.some Jvm.ClassFile.FieldType.int)).before args0 about1 = true := code_word (m := ⟨16, 2⟩) (meth := k16m2) (c := k16c2) (by decide +kernel) rfl rfl rfl (by decide +kernel)
set_option maxRecDepth 65536 in
theorem w_c50 : (Jvm.Cond.code ({ cls := "java/lang/StringUTF16", name := "putChar", desc := "([BII)V" } : Jvm.MethodName) jdk_52_method_4_code (3 : Nat) (Option.none : Option Jvm.ClassFile.FieldType)).before args0 about1 = true := code_word (m := ⟨16, 3⟩) (meth := k16m3) (c := k16c3) (by decide +kernel) rfl rfl rfl (by decide +kernel)
set_option maxRecDepth 65536 in
theorem w_c51 : (Jvm.Cond.code ({ cls := "java/lang/StringUTF16", name := "getChar", desc := "([BI)C" } : Jvm.MethodName) jdk_52_method_5_code (2 : Nat) (Option.some Jvm.ClassFile.FieldType.char)).before args0 about1 = true := code_word (m := ⟨16, 4⟩) (meth := k16m4) (c := k16c4) (by decide +kernel) rfl rfl rfl (by decide +kernel)
set_option maxRecDepth 65536 in
theorem w_c52 : (Jvm.Cond.code ({ cls := "java/lang/StringUTF16", name := "charAt", desc := "([BI)C" } : Jvm.MethodName) jdk_52_method_83_code (2 : Nat) (Option.some Jvm.ClassFile.FieldType.char)).before args0 about1 = true := code_word (m := ⟨16, 10⟩) (meth := k16m10) (c := k16c10) (by decide +kernel) rfl rfl rfl (by decide +kernel)
set_option maxRecDepth 65536 in
theorem w_c53 : (Jvm.Cond.code ({ cls := "java/lang/StringUTF16", name := "checkIndex", desc := "(I[B)V" } : Jvm.MethodName) jdk_52_method_91_code (2 : Nat) (Option.none : Option Jvm.ClassFile.FieldType)).before args0 about1 = true := code_word (m := ⟨16, 11⟩) (meth := k16m11) (c := k16c11) (by decide +kernel) rfl rfl rfl (by decide +kernel)
set_option maxRecDepth 65536 in
theorem w_c54 : (Jvm.Cond.code ({ cls := "java/lang/StringUTF16", name := "length", desc := "([B)I" } : Jvm.MethodName) jdk_52_method_6_code (1 : Nat) (Option.some Jvm.ClassFile.FieldType.int)).before args0 about1 = true := code_word (m := ⟨16, 5⟩) (meth := k16m5) (c := k16c5) (by decide +kernel) rfl rfl rfl (by decide +kernel)
def codes1 : List Jvm.Cond := [Jvm.Cond.code x code maxLocals ret, Jvm.Cond.code ({ cls := "com/example/ampersat/ampersat/text/LiteralsQuotedPinLaw", name := "text", desc := "(ICCC)Ljava/lang/String;" } : Jvm.MethodName) method_3_code (4 : Nat) (Option.some (Jvm.ClassFile.FieldType.object "java/lang/String")), Jvm.Cond.code ({ cls := "java/lang/String", name := "<init>", desc := "([C)V" } : Jvm.MethodName) jdk_42_method_3_code (2 : Nat) (Option.none : Option Jvm.ClassFile.FieldType), Jvm.Cond.code ({ cls := "java/lang/String", name := "<init>", desc := "([CIILjava/lang/Void;)V" } : Jvm.MethodName) jdk_42_method_149_code (6 : Nat) (Option.none : Option Jvm.ClassFile.FieldType), Jvm.Cond.code ({ cls := "java/lang/Object", name := "<init>", desc := "()V" } : Jvm.MethodName) object_method_1_code (1 : Nat) (Option.none : Option Jvm.ClassFile.FieldType), Jvm.Cond.code ({ cls := "com/example/ampersat/ampersat/text/Literals", name := "quoted", desc := "(Ljava/lang/String;)Ljava/lang/String;" } : Jvm.MethodName) prog_65_method_3_code (2 : Nat) (Option.some (Jvm.ClassFile.FieldType.object "java/lang/String")), Jvm.Cond.code ({ cls := "java/lang/String", name := "length", desc := "()I" } : Jvm.MethodName) jdk_42_method_54_code (1 : Nat) (Option.some Jvm.ClassFile.FieldType.int), Jvm.Cond.code ({ cls := "java/lang/String", name := "coder", desc := "()B" } : Jvm.MethodName) jdk_42_method_152_code (1 : Nat) (Option.some Jvm.ClassFile.FieldType.byte), Jvm.Cond.code ({ cls := "java/lang/StringBuilder", name := "<init>", desc := "(I)V" } : Jvm.MethodName) jdk_67_method_2_code (2 : Nat) (Option.none : Option Jvm.ClassFile.FieldType), Jvm.Cond.code ({ cls := "java/lang/AbstractStringBuilder", name := "<init>", desc := "(I)V" } : Jvm.MethodName) jdk_68_method_2_code (2 : Nat) (Option.none : Option Jvm.ClassFile.FieldType), Jvm.Cond.code ({ cls := "java/lang/StringBuilder", name := "append", desc := "(C)Ljava/lang/StringBuilder;" } : Jvm.MethodName) jdk_67_method_14_code (2 : Nat) (Option.some (Jvm.ClassFile.FieldType.object "java/lang/StringBuilder")), Jvm.Cond.code ({ cls := "java/lang/AbstractStringBuilder", name := "append", desc := "(C)Ljava/lang/AbstractStringBuilder;" } : Jvm.MethodName) jdk_68_method_31_code (2 : Nat) (Option.some (Jvm.ClassFile.FieldType.object "java/lang/AbstractStringBuilder")), Jvm.Cond.code ({ cls := "java/lang/AbstractStringBuilder", name := "ensureCapacityInternal", desc := "(I)V" } : Jvm.MethodName) jdk_68_method_9_code (3 : Nat) (Option.none : Option Jvm.ClassFile.FieldType), Jvm.Cond.code ({ cls := "java/lang/AbstractStringBuilder", name := "isLatin1", desc := "()Z" } : Jvm.MethodName) jdk_68_method_68_code (1 : Nat) (Option.some Jvm.ClassFile.FieldType.boolean), Jvm.Cond.code ({ cls := "java/lang/StringLatin1", name := "canEncode", desc := "(C)Z" } : Jvm.MethodName) jdk_43_method_3_code (1 : Nat) (Option.some Jvm.ClassFile.FieldType.boolean), Jvm.Cond.code ({ cls := "com/example/ampersat/ampersat/text/Literals", name := "appendEscaped", desc := "(Ljava/lang/StringBuilder;Ljava/lang/String;CZ)V" } : Jvm.MethodName) prog_65_method_6_code (7 : Nat) (Option.none : Option Jvm.ClassFile.FieldType), Jvm.Cond.code ({ cls := "java/lang/StringBuilder", name := "toString", desc := "()Ljava/lang/String;" } : Jvm.MethodName) jdk_67_method_42_code (1 : Nat) (Option.some (Jvm.ClassFile.FieldType.object "java/lang/String")), Jvm.Cond.code ({ cls := "java/lang/String", name := "<init>", desc := "(Ljava/lang/StringBuilder;)V" } : Jvm.MethodName) jdk_42_method_53_code (2 : Nat) (Option.none : Option Jvm.ClassFile.FieldType), Jvm.Cond.code ({ cls := "java/lang/String", name := "<init>", desc := "(Ljava/lang/AbstractStringBuilder;Ljava/lang/Void;)V" } : Jvm.MethodName) jdk_42_method_150_code (5 : Nat) (Option.none : Option Jvm.ClassFile.FieldType), Jvm.Cond.code ({ cls := "java/lang/AbstractStringBuilder", name := "getValue", desc := "()[B" } : Jvm.MethodName) jdk_68_method_64_code (1 : Nat) (Option.some (Jvm.ClassFile.FieldType.array Jvm.ClassFile.FieldType.byte)), Jvm.Cond.code ({ cls := "java/lang/StringBuilder", name := "length", desc := "()I" } : Jvm.MethodName) jdk_67_method_93_code (1 : Nat) (Option.some Jvm.ClassFile.FieldType.int), Jvm.Cond.code ({ cls := "java/lang/AbstractStringBuilder", name := "length", desc := "()I" } : Jvm.MethodName) jdk_68_method_6_code (1 : Nat) (Option.some Jvm.ClassFile.FieldType.int), Jvm.Cond.code ({ cls := "java/util/Arrays", name := "copyOfRange", desc := "([BII)[B" } : Jvm.MethodName) jdk_65_method_132_code (3 : Nat) (Option.some (Jvm.ClassFile.FieldType.array Jvm.ClassFile.FieldType.byte)), Jvm.Cond.code ({ cls := "java/lang/String", name := "charAt", desc := "(I)C" } : Jvm.MethodName) jdk_42_method_56_code (2 : Nat) (Option.some Jvm.ClassFile.FieldType.char), Jvm.Cond.code ({ cls := "java/lang/String", name := "isLatin1", desc := "()Z" } : Jvm.MethodName) jdk_42_method_154_code (1 : Nat) (Option.some Jvm.ClassFile.FieldType.boolean), Jvm.Cond.code ({ cls := "java/lang/StringLatin1", name := "charAt", desc := "([BI)C" } : Jvm.MethodName) jdk_43_method_2_code (2 : Nat) (Option.some Jvm.ClassFile.FieldType.char), Jvm.Cond.code ({ cls := "java/lang/String", name := "checkIndex", desc := "(II)V" } : Jvm.MethodName) jdk_42_method_155_code (2 : Nat) (Option.none : Option Jvm.ClassFile.FieldType), Jvm.Cond.code ({ cls := "jdk/internal/util/Preconditions", name := "checkIndex", desc := "(IILjava/util/function/BiFunction;)I" } : Jvm.MethodName) jdk_41_method_11_code (3 : Nat) (Option.some Jvm.ClassFile.FieldType.int), Jvm.Cond.code ({ cls := "java/lang/StringUTF16", name := "compress", desc := "([CII)[B" } : Jvm.MethodName) jdk_52_method_16_code (6 : Nat) (Option.some (Jvm.ClassFile.FieldType.array Jvm.ClassFile.FieldType.byte)), Jvm.Cond.code ({ cls := "java/lang/StringUTF16", name := "compress", desc := "([CI[BII)I" } : Jvm.MethodName) jdk_52_method_21_code (7 : Nat) (Option.some Jvm.ClassFile.FieldType.int), Jvm.Cond.code ({ cls := "java/lang/StringUTF16", name := "coderFromArrayLen", desc := "([BI)B" } : Jvm.MethodName) jdk_52_method_15_code (2 : Nat) (Option.some Jvm.ClassFile.FieldType.byte), Jvm.Cond.code ({ cls := "java/lang/StringBuilder", name := "append", desc := "(Ljava/lang/String;)Ljava/lang/StringBuilder;" } : Jvm.MethodName) jdk_67_method_7_code (2 : Nat) (Option.some (Jvm.ClassFile.FieldType.object "java/lang/StringBuilder")), Jvm.Cond.code ({ cls := "java/lang/AbstractStringBuilder", name := "append", desc := "(Ljava/lang/String;)Ljava/lang/AbstractStringBuilder;" } : Jvm.MethodName) jdk_68_method_22_code (3 : Nat) (Option.some (Jvm.ClassFile.FieldType.object "java/lang/AbstractStringBuilder")), Jvm.Cond.code ({ cls := "java/lang/AbstractStringBuilder", name := "putStringAt", desc := "(ILjava/lang/String;)V" } : Jvm.MethodName) jdk_68_method_73_code (3 : Nat) (Option.none : Option Jvm.ClassFile.FieldType), Jvm.Cond.code ({ cls := "java/lang/AbstractStringBuilder", name := "inflateIfNeededFor", desc := "(Ljava/lang/String;)V" } : Jvm.MethodName) jdk_68_method_71_code (2 : Nat) (Option.none : Option Jvm.ClassFile.FieldType), Jvm.Cond.code ({ cls := "java/lang/String", name := "getBytes", desc := "([BIB)V" } : Jvm.MethodName) jdk_42_method_147_code (4 : Nat) (Option.none : Option Jvm.ClassFile.FieldType), Jvm.Cond.code ({ cls := "com/example/ampersat/ampersat/text/Literals", name := "appendHex", desc := "(Ljava/lang/StringBuilder;II)V" } : Jvm.MethodName) prog_65_method_7_code (4 : Nat) (Option.none : Option Jvm.ClassFile.FieldType), Jvm.Cond.code ({ cls := "java/lang/AbstractStringBuilder", name := "newCapacity", desc := "(I)I" } : Jvm.MethodName) jdk_68_method_10_code (6 : Nat) (Option.some Jvm.ClassFile.FieldType.int), Jvm.Cond.code ({ cls := "jdk/internal/util/ArraysSupport", name := "newLength", desc := "(III)I" } : Jvm.MethodName) jdk_48_method_27_code (4 : Nat) (Option.some Jvm.ClassFile.FieldType.int), Jvm.Cond.code ({ cls := "java/lang/Math", name := "max", desc := "(II)I" } : Jvm.MethodName) jdk_29_method_65_code (2 : Nat) (Option.some Jvm.ClassFile.FieldType.int), Jvm.Cond.code ({ cls := "java/util/Arrays", name := "copyOf", desc := "([BI)[B" } : Jvm.MethodName) jdk_65_method_121_code (3 : Nat) (Option.some (Jvm.ClassFile.FieldType.array Jvm.ClassFile.FieldType.byte)), Jvm.Cond.code ({ cls := "java/lang/Math", name := "min", desc := "(II)I" } : Jvm.MethodName) jdk_29_method_69_code (2 : Nat) (Option.some Jvm.ClassFile.FieldType.int), Jvm.Cond.code ({ cls := "java/util/Arrays", name := "copyOfRangeByte", desc := "([BII)[B" } : Jvm.MethodName) jdk_65_method_133_code (5 : Nat) (Option.some (Jvm.ClassFile.FieldType.array Jvm.ClassFile.FieldType.byte)), Jvm.Cond.code ({ cls := "java/util/Arrays", name := "checkLength", desc := "(II)V" } : Jvm.MethodName) jdk_65_method_131_code (2 : Nat) (Option.none : Option Jvm.ClassFile.FieldType), Jvm.Cond.code ({ cls := "com/example/ampersat/ampersat/text/LiteralsQuotedPinLaw", name := "width", desc := "(C)I" } : Jvm.MethodName) method_4_code (1 : Nat) (Option.some Jvm.ClassFile.FieldType.int), Jvm.Cond.code ({ cls := "com/example/ampersat/ampersat/text/LiteralsQuotedPinLaw", name := "matches", desc := "(Ljava/lang/String;IC)Z" } : Jvm.MethodName) method_6_code (3 : Nat) (Option.some Jvm.ClassFile.FieldType.boolean), Jvm.Cond.code ({ cls := "com/example/ampersat/ampersat/text/LiteralsQuotedPinLaw", name := "hex", desc := "(I)C" } : Jvm.MethodName) method_5_code (1 : Nat) (Option.some Jvm.ClassFile.FieldType.char), Jvm.Cond.code ({ cls := "java/lang/StringUTF16", name := "toBytes", desc := "([CII)[B" } : Jvm.MethodName) jdk_52_method_14_code (5 : Nat) (Option.some (Jvm.ClassFile.FieldType.array Jvm.ClassFile.FieldType.byte)), Jvm.Cond.code ({ cls := "java/lang/StringUTF16", name := "newBytesFor", desc := "(I)[B" } : Jvm.MethodName) jdk_52_method_2_code (1 : Nat) (Option.some (Jvm.ClassFile.FieldType.array Jvm.ClassFile.FieldType.byte)), Jvm.Cond.code ({ cls := "java/lang/StringUTF16", name := "newBytesLength", desc := "(I)I" } : Jvm.MethodName) jdk_52_method_3_code (1 : Nat) (Option.some Jvm.ClassFile.FieldType.int), Jvm.Cond.code ({ cls := "java/lang/StringUTF16", name := "putChar", desc := "([BII)V" } : Jvm.MethodName) jdk_52_method_4_code (3 : Nat) (Option.none : Option Jvm.ClassFile.FieldType), Jvm.Cond.code ({ cls := "java/lang/StringUTF16", name := "getChar", desc := "([BI)C" } : Jvm.MethodName) jdk_52_method_5_code (2 : Nat) (Option.some Jvm.ClassFile.FieldType.char), Jvm.Cond.code ({ cls := "java/lang/StringUTF16", name := "charAt", desc := "([BI)C" } : Jvm.MethodName) jdk_52_method_83_code (2 : Nat) (Option.some Jvm.ClassFile.FieldType.char), Jvm.Cond.code ({ cls := "java/lang/StringUTF16", name := "checkIndex", desc := "(I[B)V" } : Jvm.MethodName) jdk_52_method_91_code (2 : Nat) (Option.none : Option Jvm.ClassFile.FieldType), Jvm.Cond.code ({ cls := "java/lang/StringUTF16", name := "length", desc := "([B)I" } : Jvm.MethodName) jdk_52_method_6_code (1 : Nat) (Option.some Jvm.ClassFile.FieldType.int)]
set_option maxRecDepth 65536 in
theorem codes_eq : words1.filter isCode = codes1 := rfl
theorem w_codes : ∀ c ∈ words1.filter isCode, c.before args0 about1 = true := by
  rw [codes_eq]
  intro c hc
  simp only [codes1, List.mem_cons, List.not_mem_nil, or_false] at hc
  rcases hc with rfl | rfl | rfl | rfl | rfl | rfl | rfl | rfl | rfl | rfl | rfl | rfl | rfl | rfl | rfl | rfl | rfl | rfl | rfl | rfl | rfl | rfl | rfl | rfl | rfl | rfl | rfl | rfl | rfl | rfl | rfl | rfl | rfl | rfl | rfl | rfl | rfl | rfl | rfl | rfl | rfl | rfl | rfl | rfl | rfl | rfl | rfl | rfl | rfl | rfl | rfl | rfl | rfl | rfl | rfl
  · exact w_c0
  · exact w_c1
  · exact w_c2
  · exact w_c3
  · exact w_c4
  · exact w_c5
  · exact w_c6
  · exact w_c7
  · exact w_c8
  · exact w_c9
  · exact w_c10
  · exact w_c11
  · exact w_c12
  · exact w_c13
  · exact w_c14
  · exact w_c15
  · exact w_c16
  · exact w_c17
  · exact w_c18
  · exact w_c19
  · exact w_c20
  · exact w_c21
  · exact w_c22
  · exact w_c23
  · exact w_c24
  · exact w_c25
  · exact w_c26
  · exact w_c27
  · exact w_c28
  · exact w_c29
  · exact w_c30
  · exact w_c31
  · exact w_c32
  · exact w_c33
  · exact w_c34
  · exact w_c35
  · exact w_c36
  · exact w_c37
  · exact w_c38
  · exact w_c39
  · exact w_c40
  · exact w_c41
  · exact w_c42
  · exact w_c43
  · exact w_c44
  · exact w_c45
  · exact w_c46
  · exact w_c47
  · exact w_c48
  · exact w_c49
  · exact w_c50
  · exact w_c51
  · exact w_c52
  · exact w_c53
  · exact w_c54
set_option maxRecDepth 65536 in
theorem w_t1 : (words1.take 24).all (fun c => isCode c || c.before args0 about1) = true := by decide +kernel
set_option maxRecDepth 65536 in
theorem w_t2 : ((words1.drop 24).take 24).all (fun c => isCode c || c.before args0 about1) = true := by decide +kernel
set_option maxRecDepth 65536 in
theorem w_t3 : (((words1.drop 24).drop 24).take 24).all (fun c => isCode c || c.before args0 about1) = true := by decide +kernel
set_option maxRecDepth 65536 in
theorem w_t4 : ((((words1.drop 24).drop 24).drop 24).take 24).all (fun c => isCode c || c.before args0 about1) = true := by decide +kernel
set_option maxRecDepth 65536 in
theorem w_t5 : (((((words1.drop 24).drop 24).drop 24).drop 24).take 24).all (fun c => isCode c || c.before args0 about1) = true := by decide +kernel
set_option maxRecDepth 65536 in
theorem w_t6 : ((((((words1.drop 24).drop 24).drop 24).drop 24).drop 24).take 24).all (fun c => isCode c || c.before args0 about1) = true := by decide +kernel
set_option maxRecDepth 65536 in
theorem w_t7 : (((((((words1.drop 24).drop 24).drop 24).drop 24).drop 24).drop 24).take 24).all (fun c => isCode c || c.before args0 about1) = true := by decide +kernel
set_option maxRecDepth 65536 in
theorem w_t8 : ((((((((words1.drop 24).drop 24).drop 24).drop 24).drop 24).drop 24).drop 24).take 24).all (fun c => isCode c || c.before args0 about1) = true := by decide +kernel
set_option maxRecDepth 65536 in
theorem w_t9 : (((((((((words1.drop 24).drop 24).drop 24).drop 24).drop 24).drop 24).drop 24).drop 24).take 24).all (fun c => isCode c || c.before args0 about1) = true := by decide +kernel
set_option maxRecDepth 65536 in
theorem w_t10 : ((((((((((words1.drop 24).drop 24).drop 24).drop 24).drop 24).drop 24).drop 24).drop 24).drop 24).take 24).all (fun c => isCode c || c.before args0 about1) = true := by decide +kernel
set_option maxRecDepth 65536 in
theorem w_t11 : ((((((((((words1.drop 24).drop 24).drop 24).drop 24).drop 24).drop 24).drop 24).drop 24).drop 24).drop 24).all (fun c => isCode c || c.before args0 about1) = true := by decide +kernel
theorem w_tables : (allAtoms (Jvm.Cond.code x code maxLocals ret :: tables_1)).before args0 about1 = true := by
  rw [allAtoms_all]
  show words1.all (fun c => c.before args0 about1) = true
  refine all_split ?_ w_codes
  rw [← List.take_append_drop 24 words1, List.all_append, w_t1, ← List.take_append_drop 24 (words1.drop 24), List.all_append, w_t2, ← List.take_append_drop 24 ((words1.drop 24).drop 24), List.all_append, w_t3, ← List.take_append_drop 24 (((words1.drop 24).drop 24).drop 24), List.all_append, w_t4, ← List.take_append_drop 24 ((((words1.drop 24).drop 24).drop 24).drop 24), List.all_append, w_t5, ← List.take_append_drop 24 (((((words1.drop 24).drop 24).drop 24).drop 24).drop 24), List.all_append, w_t6, ← List.take_append_drop 24 ((((((words1.drop 24).drop 24).drop 24).drop 24).drop 24).drop 24), List.all_append, w_t7, ← List.take_append_drop 24 (((((((words1.drop 24).drop 24).drop 24).drop 24).drop 24).drop 24).drop 24), List.all_append, w_t8, ← List.take_append_drop 24 ((((((((words1.drop 24).drop 24).drop 24).drop 24).drop 24).drop 24).drop 24).drop 24), List.all_append, w_t9, ← List.take_append_drop 24 (((((((((words1.drop 24).drop 24).drop 24).drop 24).drop 24).drop 24).drop 24).drop 24).drop 24), List.all_append, w_t10, w_t11]
  rfl
set_option maxRecDepth 65536 in
theorem w_rest : rest_1_c.before args0 about1 = true := by decide +kernel
set_option maxRecDepth 65536 in
theorem w_case : (Jvm.Cond.and given_1 narrow_1).before args0 about1 = true := by decide +kernel
set_option maxRecDepth 65536 in
theorem w_consts : constsHeld consts_1 about1 := Jvm.Lit.constsHeldB_iff.mp (by decide +kernel)
theorem w_applies : (headSpec (Jvm.Cond.code x code maxLocals ret :: tables_1) room_1).applies x e0.platform about1 = true :=
  (Spec.applies_iff w_frames).mpr ⟨w_running, w_runnable, w_alone, w_named, w_hears, w_ripe, w_room, w_tables⟩
theorem atStart : AtStart classFile x code maxLocals ret World_1 tables_1 room_1 Calls_1 rest_1 Pre_1 launch0 p0 e0 about1 theMethod args0 below0 :=
  ⟨lists_1, trivial, launch0.admits_env _ _ _, launch0.least_env, fairChoices_fair.cas, fairChoices_fair.clock, w_frames, w_args, w_heap, w_applies, ⟨w_consts, trivial⟩, w_rest, w_case⟩
end start1
theorem witness_1 : WitnessClaimed_1 := ⟨start1.p0, start1.e0, start1.about1, start1.theMethod, start1.args0, start1.below0, start1.atStart⟩
end Jvm.Pilot.@@N@@
