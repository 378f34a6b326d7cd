import JvmDerived
import JvmDerived.Pilot.@@N@@Statement
import JvmDerived.Pilot.@@N@@Code
set_option linter.unusedVariables false
set_option linter.unusedSimpArgs false
namespace Jvm.Pilot.@@N@@
open Jvm Jvm.ClassFile Sem Op Lib Jvm.Free Jvm.Stand Jvm.LawKit Jvm.RoadKit Bundle Jvm.Pilot.@@N@@.Jvm.D
/-- what is left of the run from here ends in a state and an outcome of which G holds -/
def own_Fin (tb : Tables) (e : Env) (below : List Frame) (G : State → Outcome → Prop) (st : State) : Prop :=
  ∃ s₂ o, Steps tb e below st s₂ ∧ s₂.status = .running ∧ Ended s₂ below o ∧ G s₂ o
theorem own_st {tb : Tables} {e : Env} {below : List Frame} {G : State → Outcome → Prop} {st st' : State} (k : ∀ t, Steps tb e below st' t → Steps tb e below st t) (h : own_Fin tb e below G st') : own_Fin tb e below G st := by
  obtain ⟨s₂, o, h1, h2⟩ := h
  exact ⟨s₂, o, k _ h1, h2⟩

section own
variable {p : Program} {l : Launch} {e : Env} {R : Room} {s : State} {m : MethodId} {args : Array Value} {below : List Frame} {meth : Method} {c : Code} {T : State} {locs : List Loc} {cells slots : Nat} {Z : State} {h h' : Heap} {a : Addr} {k : ClassId} {ty : FieldType} {n : Int32} {vs : List Value} {d : Value}
theorem own_alen (X : Stand p l e R s m args below meth c T locs cells slots) (hx : p.tables.exec = Jvm.exec) (hZ : Z.Warmed39 s.vm) (eT : T.heap = h) (F : Arv Z h a k ty n vs d) {g : JFrame} (hg : g.method = m) {rest : List Value} (hs : g.stack = .ref a :: rest) (hd : decode c.code g.pc = .ok (.arraylength, 1)) (t : State)
    (hr : Steps p.tables e below (T.setTop { g with pc := g.pc + 1, stack := .int n :: rest }) t) : Steps p.tables e below (T.setTop g) t := by
  obtain ⟨cl, A, -, S, N, -⟩ := F
  refine X.arraylength hx (by rw [eT]; exact A.1) (State.isArrayOf_alike hZ.alike A.2.1) hg hs hd t ?_
  rw [len_of S N]; exact hr
theorem own_aald (X : Stand p l e R s m args below meth c T locs cells slots) (hx : p.tables.exec = Jvm.exec) (hZ : Z.Warmed39 s.vm) (eT : T.heap = h) (F : Arv Z h a k ty n vs d) (hty : ty.isReference = true) {j : Int32} (hj : ¬ j < 0 ∧ j < n) {v : Value} (hv : vs.getD j.toNatClampNeg d = v) {g : JFrame} (hg : g.method = m) {rest : List Value} (hs : g.stack = .int j :: .ref a :: rest) (hd : decode c.code g.pc = .ok (.aaload, 1)) (t : State)
    (hr : Steps p.tables e below (T.setTop { g with pc := g.pc + 1, stack := v :: rest }) t) : Steps p.tables e below (T.setTop g) t := by
  obtain ⟨cl, A, -, S, N, H, -⟩ := F
  have hin := inb_of S hj
  exact X.aaload hx (by rw [eT]; exact A.1) (State.isArrayOf_alike hZ.alike A.2.1) hty A.2.2 hin (H.at hin hv) hg hs hd t hr
end own

def own_A (Z : State) (h : Heap) (a : Addr) (ty : FieldType) (n : Int32) : Prop := ∃ cl : Cell, Arr Z h a cl ty ∧ cl.slots.size = n.toNatClampNeg ∧ ¬ n < 0
def own_O (Z : State) (h : Heap) (a : Addr) (C : String) (n : Int32) : Prop := ∃ cl : Cell, Arr Z h a cl (.object C) ∧ cl.slots.size = n.toNatClampNeg ∧ ¬ n < 0 ∧ Ovr Z cl.cls C
section own2
variable {p : Program} {l : Launch} {e : Env} {R : Room} {s : State} {m : MethodId} {args : Array Value} {below : List Frame} {meth : Method} {c : Code} {T : State} {locs : List Loc} {cells slots : Nat} {Z : State} {h h' : Heap} {a b : Addr} {k : ClassId} {ty t t' : FieldType} {n n' : Int32} {vs : List Value} {d v : Value} {C : String} {ws : List Addr} {sl : Nat} {a0 : Array Value}
theorem own_arr' {cl cl' : Cell} (A : Arr Z h a cl ty) (h1 : h'[a]? = some cl') (h2 : cl'.cls = cl.cls) (h3 : cl'.vm = cl.vm) : Arr Z h' a cl' ty := by
  obtain ⟨q1, q2, q3⟩ := A
  refine ⟨h1, ?_, by rw [h3]; exact q3⟩
  obtain ⟨r1, r2⟩ := q2
  exact ⟨by rw [h3]; exact r1, by rw [h2]; exact r2⟩
theorem own_O.A (F : own_O Z h a C n) : own_A Z h a (.object C) n := by obtain ⟨c, A, r1, r2, -⟩ := F; exact ⟨c, A, r1, r2⟩
theorem own_Arv (F : Arv Z h a k ty n vs d) : own_A Z h a ty n := by obtain ⟨c, A, -, S, N, -⟩ := F; exact ⟨c, A, S, N⟩
theorem own_A.lt (F : own_A Z h a ty n) : a < h.size := by obtain ⟨c, A, -⟩ := F; exact A.lt
theorem own_O.lt (F : own_O Z h a C n) : a < h.size := by obtain ⟨c, A, -⟩ := F; exact A.lt
theorem own_A.ext (F : own_A Z h a ty n) (E : Ext h h') : own_A Z h' a ty n := by obtain ⟨c, A, r⟩ := F; exact ⟨c, A.ext E, r⟩
theorem own_O.ext (F : own_O Z h a C n) (E : Ext h h') : own_O Z h' a C n := by obtain ⟨c, A, r⟩ := F; exact ⟨c, A.ext E, r⟩
theorem own_A.wr (F : own_A Z h a ty n) (W : Wr h h' b sl v) : own_A Z h' a ty n := by
  obtain ⟨c, A, r1, r2⟩ := F
  obtain ⟨c', e1, e2, e3, e4, -⟩ := wr_at W A.1
  exact ⟨c', own_arr' A e1 e2 e3, by rw [e4]; exact r1, r2⟩
theorem own_O.wr (F : own_O Z h a C n) (W : Wr h h' b sl v) : own_O Z h' a C n := by
  obtain ⟨c, A, r1, r2, r3⟩ := F
  obtain ⟨c', e1, e2, e3, e4, -⟩ := wr_at W A.1
  exact ⟨c', own_arr' A e1 e2 e3, by rw [e4]; exact r1, r2, by rw [e2]; exact r3⟩
theorem own_A.keep (F : own_A Z h a ty n) (K : Keep h h' ws) : own_A Z h' a ty n := by
  obtain ⟨c, A, r1, r2⟩ := F
  obtain ⟨c', e1, e2, e3, e4⟩ := K.2.2 _ _ A.1
  exact ⟨c', own_arr' A e1 e2 e3, by rw [e4]; exact r1, r2⟩
theorem own_O.keep (F : own_O Z h a C n) (K : Keep h h' ws) : own_O Z h' a C n := by
  obtain ⟨c, A, r1, r2, r3⟩ := F
  obtain ⟨c', e1, e2, e3, e4⟩ := K.2.2 _ _ A.1
  exact ⟨c', own_arr' A e1 e2 e3, by rw [e4]; exact r1, r2, by rw [e2]; exact r3⟩
theorem own_neAA (F : own_A Z h a t n) (G : own_A Z h b t' n') (q : t ≠ t') : a ≠ b := fun z => by
  subst z
  obtain ⟨c1, A1, -⟩ := F
  obtain ⟨c2, A2, -⟩ := G
  cases A1.1.symm.trans A2.1
  obtain ⟨-, k1, h1, comp1, g1⟩ := A1.2.1
  obtain ⟨-, k2, h2, comp2, g2⟩ := A2.2.1
  cases h1.symm.trans h2
  rw [g1] at g2
  exact q (by injection g2)
theorem own_neEA {kk : Nat} (E : Exa Z h a C) (wi : (Jvm.Cond.instantiable C kk).before a0 Z = true) (G : own_A Z h b t n) : a ≠ b := by
  obtain ⟨c, A, -⟩ := G; exact ne_arr E wi A
theorem own_len1 (X : Stand p l e R s m args below meth c T locs cells slots) (hx : p.tables.exec = Jvm.exec) (hZ : Z.Warmed39 s.vm) (eT : T.heap = h) (F : own_A Z h a ty n) {g : JFrame} (hg : g.method = m) {rest : List Value} (hs : g.stack = .ref a :: rest) (hd : decode c.code g.pc = .ok (.arraylength, 1)) (t : State)
    (hr : Steps p.tables e below (T.setTop { g with pc := g.pc + 1, stack := .int n :: rest }) t) : Steps p.tables e below (T.setTop g) t := by
  obtain ⟨cl, A, S, N⟩ := F
  refine X.arraylength hx (by rw [eT]; exact A.1) (State.isArrayOf_alike hZ.alike A.2.1) hg hs hd t ?_
  rw [len_of S N]; exact hr
theorem own_stR (X : Stand p l e R s m args below meth c T locs cells slots) (hx : p.tables.exec = Jvm.exec) (hZ : Z.Warmed39 s.vm) (eT : T.heap = h) (F : own_O Z h a C n) {j : Int32} (hj : ¬ j < 0 ∧ j < n) (S : v = .null ∨ ∃ y, v = .ref y ∧ Ins Z h y C true) {g : JFrame} (hg : g.method = m) {rest : List Value} (hs : g.stack = v :: .int j :: .ref a :: rest) (hd : decode c.code g.pc = .ok (.aastore, 1)) :
    ∃ T' h', Stand p l e R s m args below meth c T' (locs ++ [⟨a, j.toNatClampNeg⟩]) cells slots ∧ T'.heap = h' ∧ Wr h h' a j.toNatClampNeg v ∧ ∀ target, Steps p.tables e below (T'.setTop { g with pc := g.pc + 1, stack := rest }) target → Steps p.tables e below (T.setTop g) target := by
  obtain ⟨cl, A, z1, z2, O⟩ := F
  refine stR X hx hZ eT A (inb_of z1 hj) rfl ?_ hg hs hd
  rcases S with rfl | ⟨y, rfl, I⟩
  · exact Or.inl rfl
  · exact Sto.of A O I
theorem own_stI (X : Stand p l e R s m args below meth c T locs cells slots) (hx : p.tables.exec = Jvm.exec) (hZ : Z.Warmed39 s.vm) (eT : T.heap = h) (F : own_A Z h a .int n) {j x : Int32} (hj : ¬ j < 0 ∧ j < n) {g : JFrame} (hg : g.method = m) {rest : List Value} (hs : g.stack = .int x :: .int j :: .ref a :: rest) (hd : decode c.code g.pc = .ok (.iastore, 1)) :
    ∃ T' h', Stand p l e R s m args below meth c T' (locs ++ [⟨a, j.toNatClampNeg⟩]) cells slots ∧ T'.heap = h' ∧ Wr h h' a j.toNatClampNeg (.int x) ∧ ∀ target, Steps p.tables e below (T'.setTop { g with pc := g.pc + 1, stack := rest }) target → Steps p.tables e below (T.setTop g) target := by
  obtain ⟨cl, A, z1, z2⟩ := F
  exact stI X hx hZ eT A (inb_of z1 hj) hg hs hd
theorem own_stJ (X : Stand p l e R s m args below meth c T locs cells slots) (hx : p.tables.exec = Jvm.exec) (hZ : Z.Warmed39 s.vm) (eT : T.heap = h) (F : own_A Z h a .long n) {j : Int32} {x : Int64} (hj : ¬ j < 0 ∧ j < n) {g : JFrame} (hg : g.method = m) {rest : List Value} (hs : g.stack = .long x :: .int j :: .ref a :: rest) (hd : decode c.code g.pc = .ok (.lastore, 1)) :
    ∃ T' h', Stand p l e R s m args below meth c T' (locs ++ [⟨a, j.toNatClampNeg⟩]) cells slots ∧ T'.heap = h' ∧ Wr h h' a j.toNatClampNeg (.long x) ∧ ∀ target, Steps p.tables e below (T'.setTop { g with pc := g.pc + 1, stack := rest }) target → Steps p.tables e below (T.setTop g) target := by
  obtain ⟨cl, A, z1, z2⟩ := F
  exact stJ X hx hZ eT A (inb_of z1 hj) hg hs hd
end own2

section ownR
variable {p : Program} {l : Launch} {e : Env} {R : Room} {s : State} {m : MethodId} {args : Array Value} {below : List Frame} {meth : Method} {c : Code} {T : State} {locs : List Loc} {cells slots : Nat} {Z : State} {h : Heap} {a0 : Array Value}
theorem own_getR (X : Stand p l e R s m args below meth c T locs cells slots) (hx : p.tables.exec = Jvm.exec) (hZ : Z.Warmed39 s.vm) {own O n d : String} {index : Nat} (hown : s.vm.findClass own = some m.cls) (w : (Jvm.Cond.fieldRef own index O n d).before a0 Z = true)
    (eT : T.heap = h) {a : Addr} {v : Value} (F : Fld Z h a O n d v) {g : JFrame} (hg : g.method = m) {rest : List Value} (hs : g.stack = .ref a :: rest) (hd : decode c.code g.pc = .ok (.getfield index, 3)) (t : State)
    (hr : Steps p.tables e below (T.setTop { g with pc := g.pc + 3, stack := v :: rest }) t) : Steps p.tables e below (T.setTop g) t := by
  obtain ⟨cell, cf, k, i, f, h1, h2, h3, h4, -, -, h7⟩ := F
  have hU : Z.Warmed39 T.vm := wtrans hZ X.warmed
  have w1 : (Jvm.Cond.fieldRef own index O n d).before a0 (Z.setVm T.vm) = true := Cond.fieldRef_warmed39 hU w
  have w2 : (Jvm.Cond.fieldRef own index O n d).before a0 T = true := w1
  have hc : T.vm.findClass own = some m.cls := by rw [X.warmed.alike.findClass]; exact hown
  obtain ⟨c1, k1, i1, f1, q1, q2⟩ := Cond.fieldRef_spec hc w2
  obtain ⟨k', hi, -⟩ := State.fieldFound?_setVm (s := Z) hU.alike h2
  have hi' : T.fieldFound? O n d = some (cf, k', i, f) := hi
  cases q1.symm.trans hi'
  subst hg
  jvm_step X.here [hx, hd, getfield.wp_ready (e := e) (s := T) (f := g) X.here.top q2 h3 hs (by rw [eT]; exact h1) h4 h7]
  exact hr
theorem own_specR (X : Stand p l e R s m args below meth c T locs cells slots) (hx : p.tables.exec = Jvm.exec) (hZ : Z.Warmed39 s.vm) {own : String} {index : Nat} {y : MethodName} (hy1 : y.name = "<init>") (hown : s.vm.findClass own = some m.cls) (w1 : (Jvm.Cond.methodRef own index y).before a0 Z = true) (w2 : (Jvm.Cond.instanceMethod y).before a0 Z = true)
    {bytes : ByteArray} {maxL : Nat} (wc : (Jvm.Cond.code y bytes maxL none).before a0 Z = true) (hy : y.cls ≠ "java/lang/invoke/MethodHandle" ∧ y.cls ≠ "java/lang/invoke/VarHandle")
    {W : Nat} {Pre : Pt → Array Value → Prop} {Post : Pt → Array Value → Option Value → Pt → Prop} (hK : Back l R p e below s args y 3 W Pre Post)
    {g : JFrame} (hg : g.method = m) (hsize : g.locals.size = c.maxLocals) {a : Addr} {argsL rest : List Value}
    (hlen : ∀ sig, parseMethodDescriptor y.desc = some sig → argsL.length = sig.parameters.length) (hstack : g.stack = argsL.reverse ++ .ref a :: rest) (hW : 2 * g.monitorRoom + (rest.map fun v => v.category).sum ≤ W)
    (hdg : decode c.code g.pc = .ok (.invokespecial index, 3)) (hpre : Pre ⟨T, locs, cells, slots⟩ (.ref a :: argsL).toArray) :
    ∃ (v : Option Value) (B : Pt), Stand p l e R s m args below meth c B.U B.locs B.cells B.slots ∧ Post ⟨T, locs, cells, slots⟩ (.ref a :: argsL).toArray v B ∧
      Steps p.tables e below (T.setTop g) (B.U.setTop { g with pc := g.pc + 3, stack := v.toList ++ rest }) := by
  have hU : Z.Warmed39 T.vm := wtrans hZ X.warmed
  obtain ⟨mZ, -, hnZ, -⟩ := Cond.instanceMethod_spec w2
  obtain ⟨mk, methM, hn, hm, hst, hab⟩ := Cond.instanceMethod_spec (mv (s := T) (args := #[]) hU w2)
  obtain ⟨methM', cM, hm', -, -, -, -, -, -, hsig⟩ := Cond.code_spec hn (mv (s := T) (args := #[]) hU wc)
  cases hm.symm.trans hm'
  have hwR : (Jvm.Cond.methodRef own index y).before a0 (Z.setVm T.vm) = true := Cond.methodRef_warmed39 hU hnZ hy w1
  have hwT : (Jvm.Cond.methodRef own index y).before a0 T = true := hwR
  have hc : T.vm.findClass own = some m.cls := by rw [X.warmed.alike.findClass]; exact hown
  obtain ⟨r, c', hf, hready, hfind, hnamed⟩ := Cond.methodRef_named e hc hwT
  cases hf.symm.trans (State.methodFound?_of_named hn hy)
  cases hfind.symm.trans (findClass_of_methodNamed hn)
  obtain ⟨kP, hkP, -⟩ := className_of_methodNamed hn
  obtain ⟨nm1, nm2⟩ := name_of_methodNamed hn hm
  have hfound : lookupSpecial T.vm mk.cls "<init>" methM.desc = .method mk := by rw [nm2, ← hy1]; exact lookupSpecial_of_named hn hm hst
  obtain ⟨v, B, X', hpost, hsteps⟩ := hK m meth c ⟨T, locs, cells, slots⟩ { g with stack := rest } (.invokespecial index) mk (.ref a :: argsL).toArray X hg hsize hdg hW hn hpre
  refine ⟨v, B, X', hpost, ?_⟩
  subst hg
  jvm_step X.here [hx, hdg, invokespecial.wp_init (e := e) (s := T) (f := g) (m := mk) (k := kP) (meth := methM) (a := a) (args := argsL) (rest := rest) X.here.top hnamed hready hkP hm (nm1.trans hy1) hst hab hfound (hlen _ hsig) hstack]
  intro acts
  rw [doInvoke_state]
  exact hsteps
theorem own_virtR (X : Stand p l e R s m args below meth c T locs cells slots) (hx : p.tables.exec = Jvm.exec) (hZ : Z.Warmed39 s.vm) {own : String} {index : Nat} {y : MethodName} (hown : s.vm.findClass own = some m.cls) (w1 : (Jvm.Cond.methodRef own index y).before a0 Z = true) (w2 : (Jvm.Cond.instanceMethod y).before a0 Z = true) (w3 : (Jvm.Cond.privateMethod y).before a0 Z = true)
    {bytes : ByteArray} {maxL kk : Nat} {ret : Option FieldType} (wc : (Jvm.Cond.code y bytes maxL ret).before a0 Z = true) (wi : (Jvm.Cond.instantiable y.cls kk).before a0 Z = true) (hy : y.cls ≠ "java/lang/invoke/MethodHandle" ∧ y.cls ≠ "java/lang/invoke/VarHandle")
    {W : Nat} {Pre : Pt → Array Value → Prop} {Post : Pt → Array Value → Option Value → Pt → Prop} (hK : Back l R p e below s args y 3 W Pre Post)
    (eT : T.heap = h) {a : Addr} {C : String} (E : Exa Z h a C)
    {g : JFrame} (hg : g.method = m) (hsize : g.locals.size = c.maxLocals) {argsL rest : List Value}
    (hlen : ∀ sig, parseMethodDescriptor y.desc = some sig → argsL.length = sig.parameters.length) (hstack : g.stack = argsL.reverse ++ .ref a :: rest) (hW : 2 * g.monitorRoom + (rest.map fun v => v.category).sum ≤ W)
    (hdg : decode c.code g.pc = .ok (.invokevirtual index, 3)) (hpre : Pre ⟨T, locs, cells, slots⟩ (.ref a :: argsL).toArray) :
    ∃ (v : Option Value) (B : Pt), Stand p l e R s m args below meth c B.U B.locs B.cells B.slots ∧ Post ⟨T, locs, cells, slots⟩ (.ref a :: argsL).toArray v B ∧
      Steps p.tables e below (T.setTop g) (B.U.setTop { g with pc := g.pc + 3, stack := v.toList ++ rest }) := by
  have hU : Z.Warmed39 T.vm := wtrans hZ X.warmed
  obtain ⟨mZ, -, hnZ, -⟩ := Cond.instanceMethod_spec w2
  obtain ⟨mk, methM, hn, hm, hst, hab⟩ := Cond.instanceMethod_spec (mv (s := T) (args := #[]) hU w2)
  obtain ⟨methM', cM, hm', -, -, -, -, -, -, hsig⟩ := Cond.code_spec hn (mv (s := T) (args := #[]) hU wc)
  cases hm.symm.trans hm'
  have hwR : (Jvm.Cond.methodRef own index y).before a0 (Z.setVm T.vm) = true := Cond.methodRef_warmed39 hU hnZ hy w1
  have hwT : (Jvm.Cond.methodRef own index y).before a0 T = true := hwR
  have hc : T.vm.findClass own = some m.cls := by rw [X.warmed.alike.findClass]; exact hown
  obtain ⟨r, c', hf, hready, hfind, hnamed⟩ := Cond.methodRef_named e hc hwT
  cases hf.symm.trans (State.methodFound?_of_named hn hy)
  cases hfind.symm.trans (findClass_of_methodNamed hn)
  obtain ⟨kP, hkP, hkn⟩ := className_of_methodNamed hn
  obtain ⟨ci, ki, i1, i2, i3, i4, -⟩ := Cond.instantiable_spec (mv (s := T) (args := #[]) hU wi)
  cases i1.symm.trans (findClass_of_methodNamed hn)
  cases i2.symm.trans hkP
  have hni : kP.isInterface = false := (Bool.or_eq_false_iff.mp i4).1
  have hpr : methM.isPrivate = true := by
    have q := mvP (s := T) (args := #[]) hU w3
    simpa [Jvm.Cond.before, Jvm.Cond.holds, Jvm.Cond.value, hn, hm] using q
  obtain ⟨cell, kc, e1, e2, e3, e4, -⟩ := E
  have hsel : selectMethod e.platform T.vm cell.cls mk = .method mk := by simp [selectMethod, hm, hpr]
  have hpoly : signaturePolymorphic kP methM = false := by simp [signaturePolymorphic, hkn, hy.1, hy.2]
  obtain ⟨v, B, X', hpost, hsteps⟩ := hK m meth c ⟨T, locs, cells, slots⟩ { g with stack := rest } (.invokevirtual index) mk (.ref a :: argsL).toArray X hg hsize hdg hW hn hpre
  refine ⟨v, B, X', hpost, ?_⟩
  subst hg
  jvm_step X.here [hx, hdg, invokevirtual.wp_named (e := e) (s := T) (f := g) (r := mk) (m := mk) (c' := mk.cls) (k := kP) (k' := kP) (mk := kP) (rmeth := methM) (meth := methM) (a := a) (args := argsL) (rest := rest) (cell := cell) X.here.top hnamed hkP hni hready hkP hm hpoly hst (hlen _ hsig) hstack (by rw [eT]; exact e1) (fun q z => by rw [z] at e4; cases e4) hsel hm hab hkP hni]
  intro acts
  rw [doInvoke_state]
  exact hsteps
end ownR

theorem own_len {Z : State} {args : Array Value} {t : Term} {ty : FieldType} {n : Int32} (h1 : (Jvm.Cond.arrayOf t ty).value args Z none Z [] = some true) (h2 : (Jvm.Cond.eq (.length t) (.int n)).value args Z none Z [] = some true) : ∃ (a : Addr) (cl : Cell), t.eval args Z none [] Z = some (.ref a) ∧ Arr Z Z.heap a cl ty ∧ cl.slots.size.toInt32 = n ∧ cl.slots.size < 2 ^ 31 := by
  obtain ⟨a, ev⟩ := arr_v h1
  obtain ⟨cl, A⟩ := Arr.start ev h1
  have hA : Z.arrayAt? a = some cl := A.fin (Vm.Alike.refl _)
  refine ⟨a, cl, ev, A, ?_⟩
  have e3 : (Term.int n).eval args Z none [] Z = some (.int n) := Term.int_eval n
  by_cases hl : cl.slots.size < 2 ^ 31
  · have e4 := len_f ev hA hl
    simp only [Jvm.Cond.value, e4, e3] at h2
    exact ⟨by simpa using h2, hl⟩
  · exfalso
    have e5 : (Term.length t).eval args Z none [] Z = none := by simp [Term.eval, ev, hA, hl]
    simp [Jvm.Cond.value, e5] at h2
theorem own_arv0 {Z : State} {a : Addr} {cl : Cell} {ty : FieldType} {d : Value} (hf : Fit Z) (A : Arr Z Z.heap a cl ty) (e : cl.slots.size.toInt32 = 0) (hl : cl.slots.size < 2 ^ 31) : Arv Z Z.heap a cl.cls ty 0 [] d :=
  Arv.start hf A hl e (by decide) (by decide) trivial

theorem own_nar {d : String} {v : Value} (h : v.isRef = true) : narrow (.object d) v = v := by
  rcases ref_cases h with rfl | ⟨a, rfl⟩ <;> rfl
theorem own_fit {d : String} {v : Value} (h : v.isRef = true) : fits (.object d) v = true := by
  rcases ref_cases h with rfl | ⟨a, rfl⟩ <;> rfl

theorem pn_com_example_chiffchaff_chiffchaff_OpenElementsRoomPinLaw : plainName "com/example/chiffchaff/chiffchaff/OpenElementsRoomPinLaw" = true := by first | (simp [plainName, overriddenIn]; done) | decide +kernel
theorem pn_com_example_chiffchaff_chiffchaff_OpenElements : plainName "com/example/chiffchaff/chiffchaff/OpenElements" = true := by first | (simp [plainName, overriddenIn]; done) | decide +kernel
theorem pn_com_example_chiffchaff_chiffchaff_OpenElements_Block : plainName "com/example/chiffchaff/chiffchaff/OpenElements$Block" = true := by first | (simp [plainName, overriddenIn]; done) | decide +kernel
theorem pn_com_example_chiffchaff_chiffchaff_ElementType : plainName "com/example/chiffchaff/chiffchaff/ElementType" = true := by first | (simp [plainName, overriddenIn]; done) | decide +kernel
theorem pn_java_util_Arrays : plainName "java/util/Arrays" = true := by first | (simp [plainName, overriddenIn]; done) | decide +kernel
theorem d1_0 : decode prog_52_method_1_code 0 = .ok (.aload_n 0, 1) := by decide +kernel
theorem d1_1 : decode prog_52_method_1_code 1 = .ok (.invokespecial 3, 3) := by decide +kernel
theorem d1_4 : decode prog_52_method_1_code 4 = .ok (.aload_n 0, 1) := by decide +kernel
theorem d1_5 : decode prog_52_method_1_code 5 = .ok (.iconst 1, 1) := by decide +kernel
theorem d1_6 : decode prog_52_method_1_code 6 = .ok (.anewarray 9, 3) := by decide +kernel
theorem d1_9 : decode prog_52_method_1_code 9 = .ok (.dup, 1) := by decide +kernel
theorem d1_10 : decode prog_52_method_1_code 10 = .ok (.iconst 0, 1) := by decide +kernel
theorem d1_11 : decode prog_52_method_1_code 11 = .ok (.new 9, 3) := by decide +kernel
theorem d1_14 : decode prog_52_method_1_code 14 = .ok (.dup, 1) := by decide +kernel
theorem d1_15 : decode prog_52_method_1_code 15 = .ok (.bipush 16, 2) := by decide +kernel
theorem d1_17 : decode prog_52_method_1_code 17 = .ok (.invokespecial 11, 3) := by decide +kernel
theorem d1_20 : decode prog_52_method_1_code 20 = .ok (.aastore, 1) := by decide +kernel
theorem d1_21 : decode prog_52_method_1_code 21 = .ok (.putfield 14, 3) := by decide +kernel
theorem d1_24 : decode prog_52_method_1_code 24 = .ok (.aload_n 0, 1) := by decide +kernel
theorem d1_25 : decode prog_52_method_1_code 25 = .ok (.aload_n 0, 1) := by decide +kernel
theorem d1_26 : decode prog_52_method_1_code 26 = .ok (.getfield 14, 3) := by decide +kernel
theorem d1_29 : decode prog_52_method_1_code 29 = .ok (.iconst 0, 1) := by decide +kernel
theorem d1_30 : decode prog_52_method_1_code 30 = .ok (.aaload, 1) := by decide +kernel
theorem d1_31 : decode prog_52_method_1_code 31 = .ok (.putfield 18, 3) := by decide +kernel
theorem d1_34 : decode prog_52_method_1_code 34 = .ok (.aload_n 0, 1) := by decide +kernel
theorem d1_35 : decode prog_52_method_1_code 35 = .ok (.iconst (-1), 1) := by decide +kernel
theorem d1_36 : decode prog_52_method_1_code 36 = .ok (.putfield 22, 3) := by decide +kernel
theorem d1_39 : decode prog_52_method_1_code 39 = .ok (.return_, 1) := by decide +kernel
theorem d3_0 : decode prog_53_method_1_code 0 = .ok (.aload_n 0, 1) := by decide +kernel
theorem d3_1 : decode prog_53_method_1_code 1 = .ok (.invokespecial 1, 3) := by decide +kernel
theorem d3_4 : decode prog_53_method_1_code 4 = .ok (.aload_n 0, 1) := by decide +kernel
theorem d3_5 : decode prog_53_method_1_code 5 = .ok (.iload_n 1, 1) := by decide +kernel
theorem d3_6 : decode prog_53_method_1_code 6 = .ok (.anewarray 7, 3) := by decide +kernel
theorem d3_9 : decode prog_53_method_1_code 9 = .ok (.putfield 9, 3) := by decide +kernel
theorem d3_12 : decode prog_53_method_1_code 12 = .ok (.aload_n 0, 1) := by decide +kernel
theorem d3_13 : decode prog_53_method_1_code 13 = .ok (.iload_n 1, 1) := by decide +kernel
theorem d3_14 : decode prog_53_method_1_code 14 = .ok (.anewarray 15, 3) := by decide +kernel
theorem d3_17 : decode prog_53_method_1_code 17 = .ok (.putfield 17, 3) := by decide +kernel
theorem d3_20 : decode prog_53_method_1_code 20 = .ok (.aload_n 0, 1) := by decide +kernel
theorem d3_21 : decode prog_53_method_1_code 21 = .ok (.iload_n 1, 1) := by decide +kernel
theorem d3_22 : decode prog_53_method_1_code 22 = .ok (.newarray .int, 2) := by decide +kernel
theorem d3_24 : decode prog_53_method_1_code 24 = .ok (.putfield 21, 3) := by decide +kernel
theorem d3_27 : decode prog_53_method_1_code 27 = .ok (.aload_n 0, 1) := by decide +kernel
theorem d3_28 : decode prog_53_method_1_code 28 = .ok (.iload_n 1, 1) := by decide +kernel
theorem d3_29 : decode prog_53_method_1_code 29 = .ok (.newarray .long, 2) := by decide +kernel
theorem d3_31 : decode prog_53_method_1_code 31 = .ok (.putfield 25, 3) := by decide +kernel
theorem d3_34 : decode prog_53_method_1_code 34 = .ok (.return_, 1) := by decide +kernel
theorem d4_0 : decode prog_52_method_6_code 0 = .ok (.iconst 0, 1) := by decide +kernel
theorem d4_1 : decode prog_52_method_6_code 1 = .ok (.istore_n 1, 1) := by decide +kernel
theorem d4_2 : decode prog_52_method_6_code 2 = .ok (.aload_n 0, 1) := by decide +kernel
theorem d4_3 : decode prog_52_method_6_code 3 = .ok (.getfield 14, 3) := by decide +kernel
theorem d4_6 : decode prog_52_method_6_code 6 = .ok (.astore_n 2, 1) := by decide +kernel
theorem d4_7 : decode prog_52_method_6_code 7 = .ok (.aload_n 2, 1) := by decide +kernel
theorem d4_8 : decode prog_52_method_6_code 8 = .ok (.arraylength, 1) := by decide +kernel
theorem d4_9 : decode prog_52_method_6_code 9 = .ok (.istore_n 3, 1) := by decide +kernel
theorem d4_10 : decode prog_52_method_6_code 10 = .ok (.iconst 0, 1) := by decide +kernel
theorem d4_11 : decode prog_52_method_6_code 11 = .ok (.istore 4, 2) := by decide +kernel
theorem d4_13 : decode prog_52_method_6_code 13 = .ok (.iload 4, 2) := by decide +kernel
theorem d4_15 : decode prog_52_method_6_code 15 = .ok (.iload_n 3, 1) := by decide +kernel
theorem d4_16 : decode prog_52_method_6_code 16 = .ok (.if_icmp .ge 33, 3) := by decide +kernel
theorem d4_19 : decode prog_52_method_6_code 19 = .ok (.aload_n 2, 1) := by decide +kernel
theorem d4_20 : decode prog_52_method_6_code 20 = .ok (.iload 4, 2) := by decide +kernel
theorem d4_22 : decode prog_52_method_6_code 22 = .ok (.aaload, 1) := by decide +kernel
theorem d4_23 : decode prog_52_method_6_code 23 = .ok (.astore 5, 2) := by decide +kernel
theorem d4_25 : decode prog_52_method_6_code 25 = .ok (.iload_n 1, 1) := by decide +kernel
theorem d4_26 : decode prog_52_method_6_code 26 = .ok (.aload 5, 2) := by decide +kernel
theorem d4_28 : decode prog_52_method_6_code 28 = .ok (.ifnonnull 7, 3) := by decide +kernel
theorem d4_31 : decode prog_52_method_6_code 31 = .ok (.iconst 0, 1) := by decide +kernel
theorem d4_32 : decode prog_52_method_6_code 32 = .ok (.goto 9, 3) := by decide +kernel
theorem d4_35 : decode prog_52_method_6_code 35 = .ok (.aload 5, 2) := by decide +kernel
theorem d4_37 : decode prog_52_method_6_code 37 = .ok (.getfield 43, 3) := by decide +kernel
theorem d4_40 : decode prog_52_method_6_code 40 = .ok (.arraylength, 1) := by decide +kernel
theorem d4_41 : decode prog_52_method_6_code 41 = .ok (.iadd, 1) := by decide +kernel
theorem d4_42 : decode prog_52_method_6_code 42 = .ok (.istore_n 1, 1) := by decide +kernel
theorem d4_43 : decode prog_52_method_6_code 43 = .ok (.iinc 4 1, 3) := by decide +kernel
theorem d4_46 : decode prog_52_method_6_code 46 = .ok (.goto (-33), 3) := by decide +kernel
theorem d4_49 : decode prog_52_method_6_code 49 = .ok (.iload_n 1, 1) := by decide +kernel
theorem d4_50 : decode prog_52_method_6_code 50 = .ok (.ireturn, 1) := by decide +kernel
theorem d5_0 : decode jdk_29_method_69_code 0 = .ok (.iload_n 0, 1) := by decide +kernel
theorem d5_1 : decode jdk_29_method_69_code 1 = .ok (.iload_n 1, 1) := by decide +kernel
theorem d5_2 : decode jdk_29_method_69_code 2 = .ok (.if_icmp .gt 7, 3) := by decide +kernel
theorem d5_5 : decode jdk_29_method_69_code 5 = .ok (.iload_n 0, 1) := by decide +kernel
theorem d5_6 : decode jdk_29_method_69_code 6 = .ok (.goto 4, 3) := by decide +kernel
theorem d5_9 : decode jdk_29_method_69_code 9 = .ok (.iload_n 1, 1) := by decide +kernel
theorem d5_10 : decode jdk_29_method_69_code 10 = .ok (.ireturn, 1) := by decide +kernel
theorem d6_0 : decode prog_52_method_5_code 0 = .ok (.aload_n 0, 1) := by decide +kernel
theorem d6_1 : decode prog_52_method_5_code 1 = .ok (.getfield 14, 3) := by decide +kernel
theorem d6_4 : decode prog_52_method_5_code 4 = .ok (.iconst 0, 1) := by decide +kernel
theorem d6_5 : decode prog_52_method_5_code 5 = .ok (.aaload, 1) := by decide +kernel
theorem d6_6 : decode prog_52_method_5_code 6 = .ok (.aload_n 0, 1) := by decide +kernel
theorem d6_7 : decode prog_52_method_5_code 7 = .ok (.getfield 26, 3) := by decide +kernel
theorem d6_10 : decode prog_52_method_5_code 10 = .ok (.invokevirtual 75, 3) := by decide +kernel
theorem d6_13 : decode prog_52_method_5_code 13 = .ok (.aload_n 0, 1) := by decide +kernel
theorem d6_14 : decode prog_52_method_5_code 14 = .ok (.aload_n 0, 1) := by decide +kernel
theorem d6_15 : decode prog_52_method_5_code 15 = .ok (.getfield 14, 3) := by decide +kernel
theorem d6_18 : decode prog_52_method_5_code 18 = .ok (.iconst 0, 1) := by decide +kernel
theorem d6_19 : decode prog_52_method_5_code 19 = .ok (.aaload, 1) := by decide +kernel
theorem d6_20 : decode prog_52_method_5_code 20 = .ok (.putfield 18, 3) := by decide +kernel
theorem d6_23 : decode prog_52_method_5_code 23 = .ok (.aload_n 0, 1) := by decide +kernel
theorem d6_24 : decode prog_52_method_5_code 24 = .ok (.iconst (-1), 1) := by decide +kernel
theorem d6_25 : decode prog_52_method_5_code 25 = .ok (.putfield 22, 3) := by decide +kernel
theorem d6_28 : decode prog_52_method_5_code 28 = .ok (.aload_n 0, 1) := by decide +kernel
theorem d6_29 : decode prog_52_method_5_code 29 = .ok (.iconst 0, 1) := by decide +kernel
theorem d6_30 : decode prog_52_method_5_code 30 = .ok (.putfield 26, 3) := by decide +kernel
theorem d6_33 : decode prog_52_method_5_code 33 = .ok (.return_, 1) := by decide +kernel
theorem d7_0 : decode prog_53_method_4_code 0 = .ok (.aload_n 0, 1) := by decide +kernel
theorem d7_1 : decode prog_53_method_4_code 1 = .ok (.getfield 9, 3) := by decide +kernel
theorem d7_4 : decode prog_53_method_4_code 4 = .ok (.iconst 0, 1) := by decide +kernel
theorem d7_5 : decode prog_53_method_4_code 5 = .ok (.iload_n 1, 1) := by decide +kernel
theorem d7_6 : decode prog_53_method_4_code 6 = .ok (.aconst_null, 1) := by decide +kernel
theorem d7_7 : decode prog_53_method_4_code 7 = .ok (.invokestatic 54, 3) := by decide +kernel
theorem d7_10 : decode prog_53_method_4_code 10 = .ok (.aload_n 0, 1) := by decide +kernel
theorem d7_11 : decode prog_53_method_4_code 11 = .ok (.getfield 36, 3) := by decide +kernel
theorem d7_14 : decode prog_53_method_4_code 14 = .ok (.ifnull 13, 3) := by decide +kernel
theorem d7_17 : decode prog_53_method_4_code 17 = .ok (.aload_n 0, 1) := by decide +kernel
theorem d7_18 : decode prog_53_method_4_code 18 = .ok (.getfield 36, 3) := by decide +kernel
theorem d7_21 : decode prog_53_method_4_code 21 = .ok (.iconst 0, 1) := by decide +kernel
theorem d7_22 : decode prog_53_method_4_code 22 = .ok (.iload_n 1, 1) := by decide +kernel
theorem d7_23 : decode prog_53_method_4_code 23 = .ok (.aconst_null, 1) := by decide +kernel
theorem d7_24 : decode prog_53_method_4_code 24 = .ok (.invokestatic 54, 3) := by decide +kernel
theorem d7_27 : decode prog_53_method_4_code 27 = .ok (.aload_n 0, 1) := by decide +kernel
theorem d7_28 : decode prog_53_method_4_code 28 = .ok (.getfield 41, 3) := by decide +kernel
theorem d7_31 : decode prog_53_method_4_code 31 = .ok (.ifnull 13, 3) := by decide +kernel
theorem d7_34 : decode prog_53_method_4_code 34 = .ok (.aload_n 0, 1) := by decide +kernel
theorem d7_35 : decode prog_53_method_4_code 35 = .ok (.getfield 41, 3) := by decide +kernel
theorem d7_38 : decode prog_53_method_4_code 38 = .ok (.iconst 0, 1) := by decide +kernel
theorem d7_39 : decode prog_53_method_4_code 39 = .ok (.iload_n 1, 1) := by decide +kernel
theorem d7_40 : decode prog_53_method_4_code 40 = .ok (.aconst_null, 1) := by decide +kernel
theorem d7_41 : decode prog_53_method_4_code 41 = .ok (.invokestatic 54, 3) := by decide +kernel
theorem d7_44 : decode prog_53_method_4_code 44 = .ok (.aload_n 0, 1) := by decide +kernel
theorem d7_45 : decode prog_53_method_4_code 45 = .ok (.getfield 17, 3) := by decide +kernel
theorem d7_48 : decode prog_53_method_4_code 48 = .ok (.iconst 0, 1) := by decide +kernel
theorem d7_49 : decode prog_53_method_4_code 49 = .ok (.iload_n 1, 1) := by decide +kernel
theorem d7_50 : decode prog_53_method_4_code 50 = .ok (.aconst_null, 1) := by decide +kernel
theorem d7_51 : decode prog_53_method_4_code 51 = .ok (.invokestatic 54, 3) := by decide +kernel
theorem d7_54 : decode prog_53_method_4_code 54 = .ok (.return_, 1) := by decide +kernel
theorem d8_0 : decode jdk_65_method_118_code 0 = .ok (.aload_n 0, 1) := by decide +kernel
theorem d8_1 : decode jdk_65_method_118_code 1 = .ok (.arraylength, 1) := by decide +kernel
theorem d8_2 : decode jdk_65_method_118_code 2 = .ok (.iload_n 1, 1) := by decide +kernel
theorem d8_3 : decode jdk_65_method_118_code 3 = .ok (.iload_n 2, 1) := by decide +kernel
theorem d8_4 : decode jdk_65_method_118_code 4 = .ok (.invokestatic 13, 3) := by decide +kernel
theorem d8_7 : decode jdk_65_method_118_code 7 = .ok (.iload_n 1, 1) := by decide +kernel
theorem d8_8 : decode jdk_65_method_118_code 8 = .ok (.istore 4, 2) := by decide +kernel
theorem d8_10 : decode jdk_65_method_118_code 10 = .ok (.iload 4, 2) := by decide +kernel
theorem d8_12 : decode jdk_65_method_118_code 12 = .ok (.iload_n 2, 1) := by decide +kernel
theorem d8_13 : decode jdk_65_method_118_code 13 = .ok (.if_icmp .ge 14, 3) := by decide +kernel
theorem d8_16 : decode jdk_65_method_118_code 16 = .ok (.aload_n 0, 1) := by decide +kernel
theorem d8_17 : decode jdk_65_method_118_code 17 = .ok (.iload 4, 2) := by decide +kernel
theorem d8_19 : decode jdk_65_method_118_code 19 = .ok (.aload_n 3, 1) := by decide +kernel
theorem d8_20 : decode jdk_65_method_118_code 20 = .ok (.aastore, 1) := by decide +kernel
theorem d8_21 : decode jdk_65_method_118_code 21 = .ok (.iinc 4 1, 3) := by decide +kernel
theorem d8_24 : decode jdk_65_method_118_code 24 = .ok (.goto (-14), 3) := by decide +kernel
theorem d8_27 : decode jdk_65_method_118_code 27 = .ok (.return_, 1) := by decide +kernel
theorem d9_0 : decode jdk_65_method_30_code 0 = .ok (.iload_n 1, 1) := by decide +kernel
theorem d9_1 : decode jdk_65_method_30_code 1 = .ok (.iload_n 2, 1) := by decide +kernel
theorem d9_2 : decode jdk_65_method_30_code 2 = .ok (.if_icmp .le 44, 3) := by decide +kernel
theorem d9_5 : decode jdk_65_method_30_code 5 = .ok (.new 43, 3) := by decide +kernel
theorem d9_8 : decode jdk_65_method_30_code 8 = .ok (.dup, 1) := by decide +kernel
theorem d9_9 : decode jdk_65_method_30_code 9 = .ok (.new 45, 3) := by decide +kernel
theorem d9_12 : decode jdk_65_method_30_code 12 = .ok (.dup, 1) := by decide +kernel
theorem d9_13 : decode jdk_65_method_30_code 13 = .ok (.invokespecial 47, 3) := by decide +kernel
theorem d9_16 : decode jdk_65_method_30_code 16 = .ok (.ldc 48, 2) := by decide +kernel
theorem d9_18 : decode jdk_65_method_30_code 18 = .ok (.invokevirtual 50, 3) := by decide +kernel
theorem d9_21 : decode jdk_65_method_30_code 21 = .ok (.iload_n 1, 1) := by decide +kernel
theorem d9_22 : decode jdk_65_method_30_code 22 = .ok (.invokevirtual 54, 3) := by decide +kernel
theorem d9_25 : decode jdk_65_method_30_code 25 = .ok (.ldc 57, 2) := by decide +kernel
theorem d9_27 : decode jdk_65_method_30_code 27 = .ok (.invokevirtual 50, 3) := by decide +kernel
theorem d9_30 : decode jdk_65_method_30_code 30 = .ok (.iload_n 2, 1) := by decide +kernel
theorem d9_31 : decode jdk_65_method_30_code 31 = .ok (.invokevirtual 54, 3) := by decide +kernel
theorem d9_34 : decode jdk_65_method_30_code 34 = .ok (.ldc 59, 2) := by decide +kernel
theorem d9_36 : decode jdk_65_method_30_code 36 = .ok (.invokevirtual 50, 3) := by decide +kernel
theorem d9_39 : decode jdk_65_method_30_code 39 = .ok (.invokevirtual 61, 3) := by decide +kernel
theorem d9_42 : decode jdk_65_method_30_code 42 = .ok (.invokespecial 65, 3) := by decide +kernel
theorem d9_45 : decode jdk_65_method_30_code 45 = .ok (.athrow, 1) := by decide +kernel
theorem d9_46 : decode jdk_65_method_30_code 46 = .ok (.iload_n 1, 1) := by decide +kernel
theorem d9_47 : decode jdk_65_method_30_code 47 = .ok (.ifCond .ge 12, 3) := by decide +kernel
theorem d9_50 : decode jdk_65_method_30_code 50 = .ok (.new 68, 3) := by decide +kernel
theorem d9_53 : decode jdk_65_method_30_code 53 = .ok (.dup, 1) := by decide +kernel
theorem d9_54 : decode jdk_65_method_30_code 54 = .ok (.iload_n 1, 1) := by decide +kernel
theorem d9_55 : decode jdk_65_method_30_code 55 = .ok (.invokespecial 70, 3) := by decide +kernel
theorem d9_58 : decode jdk_65_method_30_code 58 = .ok (.athrow, 1) := by decide +kernel
theorem d9_59 : decode jdk_65_method_30_code 59 = .ok (.iload_n 2, 1) := by decide +kernel
theorem d9_60 : decode jdk_65_method_30_code 60 = .ok (.iload_n 0, 1) := by decide +kernel
theorem d9_61 : decode jdk_65_method_30_code 61 = .ok (.if_icmp .le 12, 3) := by decide +kernel
theorem d9_64 : decode jdk_65_method_30_code 64 = .ok (.new 68, 3) := by decide +kernel
theorem d9_67 : decode jdk_65_method_30_code 67 = .ok (.dup, 1) := by decide +kernel
theorem d9_68 : decode jdk_65_method_30_code 68 = .ok (.iload_n 2, 1) := by decide +kernel
theorem d9_69 : decode jdk_65_method_30_code 69 = .ok (.invokespecial 70, 3) := by decide +kernel
theorem d9_72 : decode jdk_65_method_30_code 72 = .ok (.athrow, 1) := by decide +kernel
theorem d9_73 : decode jdk_65_method_30_code 73 = .ok (.return_, 1) := by decide +kernel
theorem d10_0 : decode prog_28_method_1_code 0 = .ok (.aload_n 0, 1) := by decide +kernel
theorem d10_1 : decode prog_28_method_1_code 1 = .ok (.invokespecial 1, 3) := by decide +kernel
theorem d10_4 : decode prog_28_method_1_code 4 = .ok (.aload_n 0, 1) := by decide +kernel
theorem d10_5 : decode prog_28_method_1_code 5 = .ok (.getstatic 7, 3) := by decide +kernel
theorem d10_8 : decode prog_28_method_1_code 8 = .ok (.putfield 13, 3) := by decide +kernel
theorem d10_11 : decode prog_28_method_1_code 11 = .ok (.return_, 1) := by decide +kernel
theorem d11_0 : decode prog_52_method_3_code 0 = .ok (.aload_n 0, 1) := by decide +kernel
theorem d11_1 : decode prog_52_method_3_code 1 = .ok (.getfield 26, 3) := by decide +kernel
theorem d11_4 : decode prog_52_method_3_code 4 = .ok (.invokestatic 29, 3) := by decide +kernel
theorem d11_7 : decode prog_52_method_3_code 7 = .ok (.istore 7, 2) := by decide +kernel
theorem d11_9 : decode prog_52_method_3_code 9 = .ok (.aload_n 0, 1) := by decide +kernel
theorem d11_10 : decode prog_52_method_3_code 10 = .ok (.getfield 26, 3) := by decide +kernel
theorem d11_13 : decode prog_52_method_3_code 13 = .ok (.invokestatic 33, 3) := by decide +kernel
theorem d11_16 : decode prog_52_method_3_code 16 = .ok (.istore 8, 2) := by decide +kernel
theorem d11_18 : decode prog_52_method_3_code 18 = .ok (.iload 7, 2) := by decide +kernel
theorem d11_20 : decode prog_52_method_3_code 20 = .ok (.aload_n 0, 1) := by decide +kernel
theorem d11_21 : decode prog_52_method_3_code 21 = .ok (.getfield 14, 3) := by decide +kernel
theorem d11_24 : decode prog_52_method_3_code 24 = .ok (.arraylength, 1) := by decide +kernel
theorem d11_25 : decode prog_52_method_3_code 25 = .ok (.if_icmp .ne 21, 3) := by decide +kernel
theorem d11_28 : decode prog_52_method_3_code 28 = .ok (.aload_n 0, 1) := by decide +kernel
theorem d11_29 : decode prog_52_method_3_code 29 = .ok (.aload_n 0, 1) := by decide +kernel
theorem d11_30 : decode prog_52_method_3_code 30 = .ok (.getfield 14, 3) := by decide +kernel
theorem d11_33 : decode prog_52_method_3_code 33 = .ok (.iload 7, 2) := by decide +kernel
theorem d11_35 : decode prog_52_method_3_code 35 = .ok (.iconst 2, 1) := by decide +kernel
theorem d11_36 : decode prog_52_method_3_code 36 = .ok (.imul, 1) := by decide +kernel
theorem d11_37 : decode prog_52_method_3_code 37 = .ok (.invokestatic 36, 3) := by decide +kernel
theorem d11_40 : decode prog_52_method_3_code 40 = .ok (.checkcast 42, 3) := by decide +kernel
theorem d11_43 : decode prog_52_method_3_code 43 = .ok (.putfield 14, 3) := by decide +kernel
theorem d11_46 : decode prog_52_method_3_code 46 = .ok (.aload_n 0, 1) := by decide +kernel
theorem d11_47 : decode prog_52_method_3_code 47 = .ok (.getfield 14, 3) := by decide +kernel
theorem d11_50 : decode prog_52_method_3_code 50 = .ok (.iload 7, 2) := by decide +kernel
theorem d11_52 : decode prog_52_method_3_code 52 = .ok (.aaload, 1) := by decide +kernel
theorem d11_53 : decode prog_52_method_3_code 53 = .ok (.ifnonnull 23, 3) := by decide +kernel
theorem d11_56 : decode prog_52_method_3_code 56 = .ok (.aload_n 0, 1) := by decide +kernel
theorem d11_57 : decode prog_52_method_3_code 57 = .ok (.getfield 14, 3) := by decide +kernel
theorem d11_60 : decode prog_52_method_3_code 60 = .ok (.iload 7, 2) := by decide +kernel
theorem d11_62 : decode prog_52_method_3_code 62 = .ok (.new 9, 3) := by decide +kernel
theorem d11_65 : decode prog_52_method_3_code 65 = .ok (.dup, 1) := by decide +kernel
theorem d11_66 : decode prog_52_method_3_code 66 = .ok (.sipush 4096, 3) := by decide +kernel
theorem d11_69 : decode prog_52_method_3_code 69 = .ok (.invokespecial 11, 3) := by decide +kernel
theorem d11_72 : decode prog_52_method_3_code 72 = .ok (.aastore, 1) := by decide +kernel
theorem d11_73 : decode prog_52_method_3_code 73 = .ok (.goto 44, 3) := by decide +kernel
theorem d11_76 : decode prog_52_method_3_code 76 = .ok (.iload 8, 2) := by decide +kernel
theorem d11_78 : decode prog_52_method_3_code 78 = .ok (.aload_n 0, 1) := by decide +kernel
theorem d11_79 : decode prog_52_method_3_code 79 = .ok (.getfield 14, 3) := by decide +kernel
theorem d11_82 : decode prog_52_method_3_code 82 = .ok (.iload 7, 2) := by decide +kernel
theorem d11_84 : decode prog_52_method_3_code 84 = .ok (.aaload, 1) := by decide +kernel
theorem d11_85 : decode prog_52_method_3_code 85 = .ok (.getfield 43, 3) := by decide +kernel
theorem d11_88 : decode prog_52_method_3_code 88 = .ok (.arraylength, 1) := by decide +kernel
theorem d11_89 : decode prog_52_method_3_code 89 = .ok (.if_icmp .ne 28, 3) := by decide +kernel
theorem d11_92 : decode prog_52_method_3_code 92 = .ok (.aload_n 0, 1) := by decide +kernel
theorem d11_93 : decode prog_52_method_3_code 93 = .ok (.getfield 14, 3) := by decide +kernel
theorem d11_96 : decode prog_52_method_3_code 96 = .ok (.iload 7, 2) := by decide +kernel
theorem d11_98 : decode prog_52_method_3_code 98 = .ok (.new 9, 3) := by decide +kernel
theorem d11_101 : decode prog_52_method_3_code 101 = .ok (.dup, 1) := by decide +kernel
theorem d11_102 : decode prog_52_method_3_code 102 = .ok (.aload_n 0, 1) := by decide +kernel
theorem d11_103 : decode prog_52_method_3_code 103 = .ok (.getfield 14, 3) := by decide +kernel
theorem d11_106 : decode prog_52_method_3_code 106 = .ok (.iload 7, 2) := by decide +kernel
theorem d11_108 : decode prog_52_method_3_code 108 = .ok (.aaload, 1) := by decide +kernel
theorem d11_109 : decode prog_52_method_3_code 109 = .ok (.iload 8, 2) := by decide +kernel
theorem d11_111 : decode prog_52_method_3_code 111 = .ok (.iconst 2, 1) := by decide +kernel
theorem d11_112 : decode prog_52_method_3_code 112 = .ok (.imul, 1) := by decide +kernel
theorem d11_113 : decode prog_52_method_3_code 113 = .ok (.invokespecial 47, 3) := by decide +kernel
theorem d11_116 : decode prog_52_method_3_code 116 = .ok (.aastore, 1) := by decide +kernel
theorem d11_117 : decode prog_52_method_3_code 117 = .ok (.aload_n 0, 1) := by decide +kernel
theorem d11_118 : decode prog_52_method_3_code 118 = .ok (.getfield 14, 3) := by decide +kernel
theorem d11_121 : decode prog_52_method_3_code 121 = .ok (.iload 7, 2) := by decide +kernel
theorem d11_123 : decode prog_52_method_3_code 123 = .ok (.aaload, 1) := by decide +kernel
theorem d11_124 : decode prog_52_method_3_code 124 = .ok (.astore 9, 2) := by decide +kernel
theorem d11_126 : decode prog_52_method_3_code 126 = .ok (.aload 9, 2) := by decide +kernel
theorem d11_128 : decode prog_52_method_3_code 128 = .ok (.getfield 43, 3) := by decide +kernel
theorem d11_131 : decode prog_52_method_3_code 131 = .ok (.iload 8, 2) := by decide +kernel
theorem d11_133 : decode prog_52_method_3_code 133 = .ok (.aload_n 1, 1) := by decide +kernel
theorem d11_134 : decode prog_52_method_3_code 134 = .ok (.aastore, 1) := by decide +kernel
theorem d11_135 : decode prog_52_method_3_code 135 = .ok (.aload_n 2, 1) := by decide +kernel
theorem d11_136 : decode prog_52_method_3_code 136 = .ok (.getstatic 50, 3) := by decide +kernel
theorem d11_139 : decode prog_52_method_3_code 139 = .ok (.if_acmp .eq 12, 3) := by decide +kernel
theorem d11_142 : decode prog_52_method_3_code 142 = .ok (.aload 9, 2) := by decide +kernel
theorem d11_144 : decode prog_52_method_3_code 144 = .ok (.invokevirtual 56, 3) := by decide +kernel
theorem d11_147 : decode prog_52_method_3_code 147 = .ok (.iload 8, 2) := by decide +kernel
theorem d11_149 : decode prog_52_method_3_code 149 = .ok (.aload_n 2, 1) := by decide +kernel
theorem d11_150 : decode prog_52_method_3_code 150 = .ok (.aastore, 1) := by decide +kernel
theorem d11_151 : decode prog_52_method_3_code 151 = .ok (.aload 9, 2) := by decide +kernel
theorem d11_153 : decode prog_52_method_3_code 153 = .ok (.getfield 60, 3) := by decide +kernel
theorem d11_156 : decode prog_52_method_3_code 156 = .ok (.iload 8, 2) := by decide +kernel
theorem d11_158 : decode prog_52_method_3_code 158 = .ok (.aload_n 3, 1) := by decide +kernel
theorem d11_159 : decode prog_52_method_3_code 159 = .ok (.aastore, 1) := by decide +kernel
theorem d11_160 : decode prog_52_method_3_code 160 = .ok (.aload 9, 2) := by decide +kernel
theorem d11_162 : decode prog_52_method_3_code 162 = .ok (.getfield 64, 3) := by decide +kernel
theorem d11_165 : decode prog_52_method_3_code 165 = .ok (.iload 8, 2) := by decide +kernel
theorem d11_167 : decode prog_52_method_3_code 167 = .ok (.iload 4, 2) := by decide +kernel
theorem d11_169 : decode prog_52_method_3_code 169 = .ok (.iastore, 1) := by decide +kernel
theorem d11_170 : decode prog_52_method_3_code 170 = .ok (.aload 9, 2) := by decide +kernel
theorem d11_172 : decode prog_52_method_3_code 172 = .ok (.getfield 68, 3) := by decide +kernel
theorem d11_175 : decode prog_52_method_3_code 175 = .ok (.iload 8, 2) := by decide +kernel
theorem d11_177 : decode prog_52_method_3_code 177 = .ok (.lload 5, 2) := by decide +kernel
theorem d11_179 : decode prog_52_method_3_code 179 = .ok (.lastore, 1) := by decide +kernel
theorem d11_180 : decode prog_52_method_3_code 180 = .ok (.aload_n 0, 1) := by decide +kernel
theorem d11_181 : decode prog_52_method_3_code 181 = .ok (.getfield 18, 3) := by decide +kernel
theorem d11_184 : decode prog_52_method_3_code 184 = .ok (.aload 9, 2) := by decide +kernel
theorem d11_186 : decode prog_52_method_3_code 186 = .ok (.if_acmp .eq 9, 3) := by decide +kernel
theorem d11_189 : decode prog_52_method_3_code 189 = .ok (.aload_n 0, 1) := by decide +kernel
theorem d11_190 : decode prog_52_method_3_code 190 = .ok (.aload 9, 2) := by decide +kernel
theorem d11_192 : decode prog_52_method_3_code 192 = .ok (.putfield 18, 3) := by decide +kernel
theorem d11_195 : decode prog_52_method_3_code 195 = .ok (.aload_n 0, 1) := by decide +kernel
theorem d11_196 : decode prog_52_method_3_code 196 = .ok (.iload 8, 2) := by decide +kernel
theorem d11_198 : decode prog_52_method_3_code 198 = .ok (.putfield 22, 3) := by decide +kernel
theorem d11_201 : decode prog_52_method_3_code 201 = .ok (.aload_n 0, 1) := by decide +kernel
theorem d11_202 : decode prog_52_method_3_code 202 = .ok (.dup, 1) := by decide +kernel
theorem d11_203 : decode prog_52_method_3_code 203 = .ok (.getfield 26, 3) := by decide +kernel
theorem d11_206 : decode prog_52_method_3_code 206 = .ok (.iconst 1, 1) := by decide +kernel
theorem d11_207 : decode prog_52_method_3_code 207 = .ok (.iadd, 1) := by decide +kernel
theorem d11_208 : decode prog_52_method_3_code 208 = .ok (.putfield 26, 3) := by decide +kernel
theorem d11_211 : decode prog_52_method_3_code 211 = .ok (.return_, 1) := by decide +kernel
theorem d12_0 : decode prog_52_method_15_code 0 = .ok (.iload_n 0, 1) := by decide +kernel
theorem d12_1 : decode prog_52_method_15_code 1 = .ok (.bipush 12, 2) := by decide +kernel
theorem d12_3 : decode prog_52_method_15_code 3 = .ok (.iushr, 1) := by decide +kernel
theorem d12_4 : decode prog_52_method_15_code 4 = .ok (.ireturn, 1) := by decide +kernel
theorem d13_0 : decode prog_52_method_16_code 0 = .ok (.iload_n 0, 1) := by decide +kernel
theorem d13_1 : decode prog_52_method_16_code 1 = .ok (.sipush 4095, 3) := by decide +kernel
theorem d13_4 : decode prog_52_method_16_code 4 = .ok (.iand, 1) := by decide +kernel
theorem d13_5 : decode prog_52_method_16_code 5 = .ok (.ireturn, 1) := by decide +kernel
theorem d14_0 : decode prog_53_method_3_code 0 = .ok (.aload_n 0, 1) := by decide +kernel
theorem d14_1 : decode prog_53_method_3_code 1 = .ok (.getfield 36, 3) := by decide +kernel
theorem d14_4 : decode prog_53_method_3_code 4 = .ok (.ifnonnull 15, 3) := by decide +kernel
theorem d14_7 : decode prog_53_method_3_code 7 = .ok (.aload_n 0, 1) := by decide +kernel
theorem d14_8 : decode prog_53_method_3_code 8 = .ok (.aload_n 0, 1) := by decide +kernel
theorem d14_9 : decode prog_53_method_3_code 9 = .ok (.getfield 9, 3) := by decide +kernel
theorem d14_12 : decode prog_53_method_3_code 12 = .ok (.arraylength, 1) := by decide +kernel
theorem d14_13 : decode prog_53_method_3_code 13 = .ok (.anewarray 52, 3) := by decide +kernel
theorem d14_16 : decode prog_53_method_3_code 16 = .ok (.putfield 36, 3) := by decide +kernel
theorem d14_19 : decode prog_53_method_3_code 19 = .ok (.aload_n 0, 1) := by decide +kernel
theorem d14_20 : decode prog_53_method_3_code 20 = .ok (.getfield 36, 3) := by decide +kernel
theorem d14_23 : decode prog_53_method_3_code 23 = .ok (.areturn, 1) := by decide +kernel
theorem d15_0 : decode prog_52_method_7_code 0 = .ok (.aload_n 0, 1) := by decide +kernel
theorem d15_1 : decode prog_52_method_7_code 1 = .ok (.dup, 1) := by decide +kernel
theorem d15_2 : decode prog_52_method_7_code 2 = .ok (.getfield 26, 3) := by decide +kernel
theorem d15_5 : decode prog_52_method_7_code 5 = .ok (.iconst 1, 1) := by decide +kernel
theorem d15_6 : decode prog_52_method_7_code 6 = .ok (.isub, 1) := by decide +kernel
theorem d15_7 : decode prog_52_method_7_code 7 = .ok (.putfield 26, 3) := by decide +kernel
theorem d15_10 : decode prog_52_method_7_code 10 = .ok (.aload_n 0, 1) := by decide +kernel
theorem d15_11 : decode prog_52_method_7_code 11 = .ok (.getfield 18, 3) := by decide +kernel
theorem d15_14 : decode prog_52_method_7_code 14 = .ok (.getfield 43, 3) := by decide +kernel
theorem d15_17 : decode prog_52_method_7_code 17 = .ok (.aload_n 0, 1) := by decide +kernel
theorem d15_18 : decode prog_52_method_7_code 18 = .ok (.getfield 22, 3) := by decide +kernel
theorem d15_21 : decode prog_52_method_7_code 21 = .ok (.aconst_null, 1) := by decide +kernel
theorem d15_22 : decode prog_52_method_7_code 22 = .ok (.aastore, 1) := by decide +kernel
theorem d15_23 : decode prog_52_method_7_code 23 = .ok (.aload_n 0, 1) := by decide +kernel
theorem d15_24 : decode prog_52_method_7_code 24 = .ok (.getfield 18, 3) := by decide +kernel
theorem d15_27 : decode prog_52_method_7_code 27 = .ok (.getfield 60, 3) := by decide +kernel
theorem d15_30 : decode prog_52_method_7_code 30 = .ok (.aload_n 0, 1) := by decide +kernel
theorem d15_31 : decode prog_52_method_7_code 31 = .ok (.getfield 22, 3) := by decide +kernel
theorem d15_34 : decode prog_52_method_7_code 34 = .ok (.aconst_null, 1) := by decide +kernel
theorem d15_35 : decode prog_52_method_7_code 35 = .ok (.aastore, 1) := by decide +kernel
theorem d15_36 : decode prog_52_method_7_code 36 = .ok (.aload_n 0, 1) := by decide +kernel
theorem d15_37 : decode prog_52_method_7_code 37 = .ok (.getfield 18, 3) := by decide +kernel
theorem d15_40 : decode prog_52_method_7_code 40 = .ok (.getfield 78, 3) := by decide +kernel
theorem d15_43 : decode prog_52_method_7_code 43 = .ok (.ifnull 16, 3) := by decide +kernel
theorem d15_46 : decode prog_52_method_7_code 46 = .ok (.aload_n 0, 1) := by decide +kernel
theorem d15_47 : decode prog_52_method_7_code 47 = .ok (.getfield 18, 3) := by decide +kernel
theorem d15_50 : decode prog_52_method_7_code 50 = .ok (.getfield 78, 3) := by decide +kernel
theorem d15_53 : decode prog_52_method_7_code 53 = .ok (.aload_n 0, 1) := by decide +kernel
theorem d15_54 : decode prog_52_method_7_code 54 = .ok (.getfield 22, 3) := by decide +kernel
theorem d15_57 : decode prog_52_method_7_code 57 = .ok (.aconst_null, 1) := by decide +kernel
theorem d15_58 : decode prog_52_method_7_code 58 = .ok (.aastore, 1) := by decide +kernel
theorem d15_59 : decode prog_52_method_7_code 59 = .ok (.aload_n 0, 1) := by decide +kernel
theorem d15_60 : decode prog_52_method_7_code 60 = .ok (.getfield 18, 3) := by decide +kernel
theorem d15_63 : decode prog_52_method_7_code 63 = .ok (.getfield 82, 3) := by decide +kernel
theorem d15_66 : decode prog_52_method_7_code 66 = .ok (.ifnull 16, 3) := by decide +kernel
theorem d15_69 : decode prog_52_method_7_code 69 = .ok (.aload_n 0, 1) := by decide +kernel
theorem d15_70 : decode prog_52_method_7_code 70 = .ok (.getfield 18, 3) := by decide +kernel
theorem d15_73 : decode prog_52_method_7_code 73 = .ok (.getfield 82, 3) := by decide +kernel
theorem d15_76 : decode prog_52_method_7_code 76 = .ok (.aload_n 0, 1) := by decide +kernel
theorem d15_77 : decode prog_52_method_7_code 77 = .ok (.getfield 22, 3) := by decide +kernel
theorem d15_80 : decode prog_52_method_7_code 80 = .ok (.aconst_null, 1) := by decide +kernel
theorem d15_81 : decode prog_52_method_7_code 81 = .ok (.aastore, 1) := by decide +kernel
theorem d15_82 : decode prog_52_method_7_code 82 = .ok (.aload_n 0, 1) := by decide +kernel
theorem d15_83 : decode prog_52_method_7_code 83 = .ok (.getfield 22, 3) := by decide +kernel
theorem d15_86 : decode prog_52_method_7_code 86 = .ok (.ifCond .le 16, 3) := by decide +kernel
theorem d15_89 : decode prog_52_method_7_code 89 = .ok (.aload_n 0, 1) := by decide +kernel
theorem d15_90 : decode prog_52_method_7_code 90 = .ok (.dup, 1) := by decide +kernel
theorem d15_91 : decode prog_52_method_7_code 91 = .ok (.getfield 22, 3) := by decide +kernel
theorem d15_94 : decode prog_52_method_7_code 94 = .ok (.iconst 1, 1) := by decide +kernel
theorem d15_95 : decode prog_52_method_7_code 95 = .ok (.isub, 1) := by decide +kernel
theorem d15_96 : decode prog_52_method_7_code 96 = .ok (.putfield 22, 3) := by decide +kernel
theorem d15_99 : decode prog_52_method_7_code 99 = .ok (.goto 49, 3) := by decide +kernel
theorem d15_102 : decode prog_52_method_7_code 102 = .ok (.aload_n 0, 1) := by decide +kernel
theorem d15_103 : decode prog_52_method_7_code 103 = .ok (.getfield 26, 3) := by decide +kernel
theorem d15_106 : decode prog_52_method_7_code 106 = .ok (.ifCond .le 37, 3) := by decide +kernel
theorem d15_109 : decode prog_52_method_7_code 109 = .ok (.aload_n 0, 1) := by decide +kernel
theorem d15_110 : decode prog_52_method_7_code 110 = .ok (.aload_n 0, 1) := by decide +kernel
theorem d15_111 : decode prog_52_method_7_code 111 = .ok (.getfield 14, 3) := by decide +kernel
theorem d15_114 : decode prog_52_method_7_code 114 = .ok (.aload_n 0, 1) := by decide +kernel
theorem d15_115 : decode prog_52_method_7_code 115 = .ok (.getfield 26, 3) := by decide +kernel
theorem d15_118 : decode prog_52_method_7_code 118 = .ok (.iconst 1, 1) := by decide +kernel
theorem d15_119 : decode prog_52_method_7_code 119 = .ok (.isub, 1) := by decide +kernel
theorem d15_120 : decode prog_52_method_7_code 120 = .ok (.invokestatic 29, 3) := by decide +kernel
theorem d15_123 : decode prog_52_method_7_code 123 = .ok (.aaload, 1) := by decide +kernel
theorem d15_124 : decode prog_52_method_7_code 124 = .ok (.putfield 18, 3) := by decide +kernel
theorem d15_127 : decode prog_52_method_7_code 127 = .ok (.aload_n 0, 1) := by decide +kernel
theorem d15_128 : decode prog_52_method_7_code 128 = .ok (.aload_n 0, 1) := by decide +kernel
theorem d15_129 : decode prog_52_method_7_code 129 = .ok (.getfield 26, 3) := by decide +kernel
theorem d15_132 : decode prog_52_method_7_code 132 = .ok (.iconst 1, 1) := by decide +kernel
theorem d15_133 : decode prog_52_method_7_code 133 = .ok (.isub, 1) := by decide +kernel
theorem d15_134 : decode prog_52_method_7_code 134 = .ok (.invokestatic 33, 3) := by decide +kernel
theorem d15_137 : decode prog_52_method_7_code 137 = .ok (.putfield 22, 3) := by decide +kernel
theorem d15_140 : decode prog_52_method_7_code 140 = .ok (.goto 8, 3) := by decide +kernel
theorem d15_143 : decode prog_52_method_7_code 143 = .ok (.aload_n 0, 1) := by decide +kernel
theorem d15_144 : decode prog_52_method_7_code 144 = .ok (.iconst (-1), 1) := by decide +kernel
theorem d15_145 : decode prog_52_method_7_code 145 = .ok (.putfield 22, 3) := by decide +kernel
theorem d15_148 : decode prog_52_method_7_code 148 = .ok (.return_, 1) := by decide +kernel
theorem d16_0 : decode prog_52_method_4_code 0 = .ok (.aload_n 0, 1) := by decide +kernel
theorem d16_1 : decode prog_52_method_4_code 1 = .ok (.getstatic 72, 3) := by decide +kernel
theorem d16_4 : decode prog_52_method_4_code 4 = .ok (.putfield 14, 3) := by decide +kernel
theorem d16_7 : decode prog_52_method_4_code 7 = .ok (.aload_n 0, 1) := by decide +kernel
theorem d16_8 : decode prog_52_method_4_code 8 = .ok (.aconst_null, 1) := by decide +kernel
theorem d16_9 : decode prog_52_method_4_code 9 = .ok (.putfield 18, 3) := by decide +kernel
theorem d16_12 : decode prog_52_method_4_code 12 = .ok (.return_, 1) := by decide +kernel
theorem own_blk {d : Int32} (hd : (d = 0 ∨ d = 1 ∨ d = 2)) : ((d.toUInt32 >>> ((12 : Int32) &&& 31).toUInt32).toInt32) = 0 := by rcases hd with rfl | rfl | rfl <;> decide
theorem own_slt {d : Int32} (hd : (d = 0 ∨ d = 1 ∨ d = 2)) : (d &&& (4095 : Int32)) = d := by rcases hd with rfl | rfl | rfl <;> decide
theorem own_in3 {d : Int32} (hd : (d = 0 ∨ d = 1 ∨ d = 2)) : ¬ d < 0 ∧ d < (16 : Int32) := by rcases hd with rfl | rfl | rfl <;> decide
theorem own_16 {d : Int32} (hd : (d = 0 ∨ d = 1 ∨ d = 2)) : ¬ d = (16 : Int32) := by rcases hd with rfl | rfl | rfl <;> decide
theorem own_up {d : Int32} (hd : (d = 0 ∨ d = 1 ∨ d = 2)) : d + 1 - 1 = d := by rcases hd with rfl | rfl | rfl <;> decide
theorem own_inp {d : Int32} (hd : (d = 1 ∨ d = 2 ∨ d = 3)) : ¬ d - 1 < 0 ∧ d - 1 < (16 : Int32) := by rcases hd with rfl | rfl | rfl <;> decide
theorem own_dn {d : Int32} (hd : (d = 1 ∨ d = 2 ∨ d = 3)) (h : ¬ 0 < d - 1) : d - 1 - 1 = -1 := by rcases hd with rfl | rfl | rfl <;> revert h <;> decide
theorem own_r0 {d : Int32} (hd : (d = 0 ∨ d = 1 ∨ d = 2 ∨ d = 3)) : ¬ d < 0 ∧ ¬ (16 : Int32) < d ∧ ¬ (3 : Int32) < d := by rcases hd with rfl | rfl | rfl | rfl <;> decide
theorem own_p0 {d pp : Int32} (hd : (d = 0 ∨ d = 1 ∨ d = 2 ∨ d = 3)) (hdp : ¬ d < pp) (c0 : 0 < pp) : d = 1 ∨ d = 2 ∨ d = 3 := by
  rcases hd with rfl | h
  · exact absurd c0 hdp
  · exact h
theorem own_p1 {d pp : Int32} (hd : (d = 0 ∨ d = 1 ∨ d = 2 ∨ d = 3)) (hdp : ¬ d < pp) (c1 : (1 : Int32) < pp) : d - 1 = 1 ∨ d - 1 = 2 ∨ d - 1 = 3 := by
  rcases hd with rfl | rfl | rfl | rfl
  · exact absurd (Int32.lt_trans (by decide) c1) hdp
  · exact absurd c1 hdp
  · exact Or.inl (by decide)
  · exact Or.inr (Or.inl (by decide))
theorem own_p2 {d pp : Int32} (hd : (d = 0 ∨ d = 1 ∨ d = 2 ∨ d = 3)) (hdp : ¬ d < pp) (c2 : (2 : Int32) < pp) : d - 1 - 1 = 1 ∨ d - 1 - 1 = 2 ∨ d - 1 - 1 = 3 := by
  rcases hd with rfl | rfl | rfl | rfl
  · exact absurd (Int32.lt_trans (by decide) c2) hdp
  · exact absurd (Int32.lt_trans (by decide) c2) hdp
  · exact absurd c2 hdp
  · exact Or.inl (by decide)
theorem own_pd {d : Int32} (h : (d = 1 ∨ d = 2 ∨ d = 3)) : d - 1 = 0 ∨ d - 1 = 1 ∨ d - 1 = 2 ∨ d - 1 = 3 := by rcases h with rfl | rfl | rfl <;> decide
theorem own_pn01 {pp : Int32} (h : ¬ 0 < pp) : ¬ (1 : Int32) < pp := fun q => h (Int32.lt_trans (by decide) q)
theorem own_pn02 {pp : Int32} (h : ¬ 0 < pp) : ¬ (2 : Int32) < pp := fun q => h (Int32.lt_trans (by decide) q)
theorem own_pn12 {pp : Int32} (h : ¬ (1 : Int32) < pp) : ¬ (2 : Int32) < pp := fun q => h (Int32.lt_trans (by decide) q)
theorem own_ltle {a b k : Int32} (h1 : ¬ a < b) (h2 : ¬ k < a) : ¬ k < b := by
  rw [Int32.lt_iff_toInt_lt] at h1 h2 ⊢
  omega
theorem own_l3 {x pp : Int32} (h : ¬ (x &&& (3 : Int32)) < pp) : ¬ (3 : Int32) < pp := own_ltle h (by
  rw [Int32.lt_iff_toInt_lt]
  have h1 := c_and x 3 (by decide)
  omega)
theorem own_ln0 {a b : Int32} (h1 : ¬ a < b) (h2 : ¬ (0 : Int32) < a) : ¬ (0 : Int32) < b := own_ltle h1 h2
theorem own_nn01 {a : Int32} (h : ¬ (0 : Int32) < a) : ¬ (1 : Int32) < a := fun q => h (Int32.lt_trans (by decide) q)
theorem own_nn02 {a : Int32} (h : ¬ (0 : Int32) < a) : ¬ (2 : Int32) < a := fun q => h (Int32.lt_trans (by decide) q)
theorem own_ln1 {a b : Int32} (h1 : ¬ a < b) (h2 : ¬ (1 : Int32) < a) : ¬ (1 : Int32) < b := own_ltle h1 h2
theorem own_nn12 {a : Int32} (h : ¬ (1 : Int32) < a) : ¬ (2 : Int32) < a := fun q => h (Int32.lt_trans (by decide) q)
theorem own_ln2 {a b : Int32} (h1 : ¬ a < b) (h2 : ¬ (2 : Int32) < a) : ¬ (2 : Int32) < b := own_ltle h1 h2
/-- the object at a: depth d, topAt d - 1, one block b of sixteen -/
def own_OE (Z : State) (h : Heap) (n0 : Nat) (a b bl nm ur lv bd : Addr) (kB : ClassId) (tv : Value) (d : Int32) : Prop :=
  (Exa Z h a "com/example/chiffchaff/chiffchaff/OpenElements" ∧ Exa Z h b "com/example/chiffchaff/chiffchaff/OpenElements$Block" ∧ Fld Z h a "com/example/chiffchaff/chiffchaff/OpenElements" "blocks" "[Lcom/example/chiffchaff/chiffchaff/OpenElements$Block;" (.ref bl) ∧ Fld Z h a "com/example/chiffchaff/chiffchaff/OpenElements" "top" "Lcom/example/chiffchaff/chiffchaff/OpenElements$Block;" (.ref b) ∧ Fld Z h a "com/example/chiffchaff/chiffchaff/OpenElements" "topAt" "I" (.int (d - 1)) ∧ Fld Z h a "com/example/chiffchaff/chiffchaff/OpenElements" "depth" "I" (.int d) ∧ Arv Z h bl kB (.object "com/example/chiffchaff/chiffchaff/OpenElements$Block") 1 [.ref b] .null) ∧
  (Fld Z h b "com/example/chiffchaff/chiffchaff/OpenElements$Block" "names" "[Lcom/example/chiffchaff/chiffchaff/XmlName;" (.ref nm) ∧ Fld Z h b "com/example/chiffchaff/chiffchaff/OpenElements$Block" "uris" "[Ljava/lang/String;" (.ref ur) ∧ Fld Z h b "com/example/chiffchaff/chiffchaff/OpenElements$Block" "levels" "[I" (.ref lv) ∧ Fld Z h b "com/example/chiffchaff/chiffchaff/OpenElements$Block" "bindings" "[J" (.ref bd) ∧ Fld Z h b "com/example/chiffchaff/chiffchaff/OpenElements$Block" "types" "[Lcom/example/chiffchaff/chiffchaff/ElementType;" tv ∧ Fld Z h b "com/example/chiffchaff/chiffchaff/OpenElements$Block" "states" "[Ljava/lang/Object;" .null) ∧
  (own_O Z h nm "com/example/chiffchaff/chiffchaff/XmlName" 16 ∧ own_O Z h ur "java/lang/String" 16 ∧ own_A Z h lv .int 16 ∧ own_A Z h bd .long 16 ∧ (tv = .null ∨ ∃ ty, tv = .ref ty ∧ own_O Z h ty "com/example/chiffchaff/chiffchaff/ElementType" 16 ∧ n0 ≤ ty)) ∧
  (n0 ≤ a ∧ n0 ≤ b ∧ n0 ≤ nm ∧ n0 ≤ ur ∧ n0 ≤ lv ∧ n0 ≤ bd)
theorem own_OE.ext {Z : State} {h h' : Heap} {n0 : Nat} {a b bl nm ur lv bd : Addr} {kB : ClassId} {tv : Value} {d : Int32} (F : own_OE Z h n0 a b bl nm ur lv bd kB tv d) (E : Ext h h') : own_OE Z h' n0 a b bl nm ur lv bd kB tv d := by
  obtain ⟨⟨E_a, E_b, F_bl, F_top, F_at, F_d, V_bl⟩, ⟨F_nm, F_ur, F_lv, F_bd, F_ty, F_st⟩, ⟨O_nm, O_ur, A_lv, A_bd, hty⟩, ⟨g_a, g_b, g_nm, g_ur, g_lv, g_bd⟩⟩ := F
  exact ⟨⟨E_a.ext E, E_b.ext E, F_bl.ext E, F_top.ext E, F_at.ext E, F_d.ext E, V_bl.ext E⟩, ⟨F_nm.ext E, F_ur.ext E, F_lv.ext E, F_bd.ext E, F_ty.ext E, F_st.ext E⟩, ⟨O_nm.ext E, O_ur.ext E, A_lv.ext E, A_bd.ext E, hty.imp id fun ⟨ty, q, o, r⟩ => ⟨ty, q, o.ext E, r⟩⟩, ⟨g_a, g_b, g_nm, g_ur, g_lv, g_bd⟩⟩
theorem own_OE.keep {Z : State} {h h' : Heap} {n0 : Nat} {a b bl nm ur lv bd : Addr} {kB : ClassId} {tv : Value} {d : Int32} {ws : List Addr} (F : own_OE Z h n0 a b bl nm ur lv bd kB tv d) (K : Keep h h' ws) (na : a ∉ ws) (nb : b ∉ ws) (nl : bl ∉ ws) : own_OE Z h' n0 a b bl nm ur lv bd kB tv d := by
  obtain ⟨⟨E_a, E_b, F_bl, F_top, F_at, F_d, V_bl⟩, ⟨F_nm, F_ur, F_lv, F_bd, F_ty, F_st⟩, ⟨O_nm, O_ur, A_lv, A_bd, hty⟩, ⟨g_a, g_b, g_nm, g_ur, g_lv, g_bd⟩⟩ := F
  exact ⟨⟨E_a.keep K, E_b.keep K, F_bl.keep K na, F_top.keep K na, F_at.keep K na, F_d.keep K na, V_bl.keep K nl⟩, ⟨F_nm.keep K nb, F_ur.keep K nb, F_lv.keep K nb, F_bd.keep K nb, F_ty.keep K nb, F_st.keep K nb⟩, ⟨O_nm.keep K, O_ur.keep K, A_lv.keep K, A_bd.keep K, hty.imp id fun ⟨ty, q, o, r⟩ => ⟨ty, q, o.keep K, r⟩⟩, ⟨g_a, g_b, g_nm, g_ur, g_lv, g_bd⟩⟩
theorem pd__III_V : parseMethodDescriptor "(III)V" = some ⟨[.int, .int, .int], none⟩ := by decide +kernel
theorem pd__I_V : parseMethodDescriptor "(I)V" = some ⟨[.int], none⟩ := by decide +kernel
theorem pd___Ljava_lang_Object_IILjava_lang_Object__V : parseMethodDescriptor "([Ljava/lang/Object;IILjava/lang/Object;)V" = some ⟨[(.array (.object "java/lang/Object")), .int, .int, (.object "java/lang/Object")], none⟩ := by decide +kernel
theorem pd__I_I : parseMethodDescriptor "(I)I" = some ⟨[.int], some .int⟩ := by decide +kernel
theorem pd____Lcom_example_chiffchaff_chiffchaff_ElementType_ : parseMethodDescriptor "()[Lcom/example/chiffchaff/chiffchaff/ElementType;" = some ⟨[], some (.array (.object "com/example/chiffchaff/chiffchaff/ElementType"))⟩ := by decide +kernel
theorem pd___V : parseMethodDescriptor "()V" = some ⟨[], none⟩ := by decide +kernel
theorem pd___I : parseMethodDescriptor "()I" = some ⟨[], some .int⟩ := by decide +kernel
theorem pd__Lcom_example_chiffchaff_chiffchaff_XmlName_Lcom_example_chiffchaff_chiffchaff_ElementType_Ljava_lang_String_IJ_V : parseMethodDescriptor "(Lcom/example/chiffchaff/chiffchaff/XmlName;Lcom/example/chiffchaff/chiffchaff/ElementType;Ljava/lang/String;IJ)V" = some ⟨[(.object "com/example/chiffchaff/chiffchaff/XmlName"), (.object "com/example/chiffchaff/chiffchaff/ElementType"), (.object "java/lang/String"), .int, .long], none⟩ := by decide +kernel
theorem pd__II_I : parseMethodDescriptor "(II)I" = some ⟨[.int, .int], some .int⟩ := by decide +kernel
def Q5 (Z : State) (x1 : Int32) (x2 : Int32) (h0 : Heap) (n0 : Nat) (v : Option Value) (h : Heap) (L : List Loc) : Prop := ∃ z : Int32, v = some (.int z) ∧ ¬ x2 < z ∧ Fr n0 L ∧ h = h0
set_option maxRecDepth 65536 in
set_option maxHeartbeats 40000000 in
theorem rm5 (l : Launch) (Z : State) (a0 : Array Value) (hw : ∀ d ∈ tables_1, d.before a0 Z = true) (ws : List Jvm.Cond) (x1 : Int32) (x2 : Int32) (h0 : Heap) (n0 : Nat) (Z0 : n0 ≤ h0.size)  :
    MetFree l (⟨"java/lang/Math", "min", "(II)I"⟩ : MethodName) (head1 (Jvm.Cond.code (⟨"java/lang/Math", "min", "(II)I"⟩ : MethodName) jdk_29_method_69_code 2 (some .int) :: ws) ({ frames := 1, cells := 0, slots := 0, locals := 12 } : Room)) (fun xs U => xs = #[(.int x1), (.int x2)] ∧ Z.Warmed39 U.vm ∧ U.heap = h0) (fun _ _ _ _ _ => True) (fun _ U o U' => ∃ v L, o = .returned v ∧ Q5 Z x1 x2 h0 n0 v U'.heap L ∧ FrameEnd U o U' L ({ frames := 1, cells := 0, slots := 0, locals := 12 } : Room).cells ({ frames := 1, cells := 0, slots := 0, locals := 12 } : Room).slots) := by
  refine MetFree.of_bodySF (Jvm.Free.JP.mathPlain rfl (by decide +kernel)) hisR ?_
  intro p e s m args below meth c s₁ Bd hml0 hP hK
  obtain ⟨rfl, hZ, hh⟩ := hP
  have hx := Bd.exec
  have hby := Bd.bytes
  have hml : c.maxLocals = 2 := hml0
  have hown : s.vm.findClass "java/lang/Math" = some m.cls := findClass_of_methodNamed Bd.named
  have hnm := (name_of_methodNamed Bd.named Bd.method).1
  have X0 : Stand p l e ({ frames := 1, cells := 0, slots := 0, locals := 12 } : Room) s m #[(.int x1), (.int x2)] below meth c s₁ [] 0 0 := Stand.of_body Bd
  have e0 : s₁.heap = h0 := by rw [← hh, Bd.state]; rfl
  have N0 := Fr.nil n0
  change own_Fin p.tables e below (fun s₂ o => ∃ v L, o = .returned v ∧ Q5 Z x1 x2 h0 n0 v s₂.heap L ∧ FrameEnd s o s₂ L ({ frames := 1, cells := 0, slots := 0, locals := 12 } : Room).cells ({ frames := 1, cells := 0, slots := 0, locals := 12 } : Room).slots) (s₁.setTop (entryFrame m #[(.int x1), (.int x2)] 2))
  refine own_st (fun t k => castTop (show entryFrame m #[(.int x1), (.int x2)] 2 = mkF m 0 #[.val (.int x1), .val (.int x2)] [] by first | (simp [entryFrame, mkF, argsToLocals, Value.category, maxLocals]; done) | rfl) k) ?_
  show own_Fin p.tables e below _ (s₁.setTop (mkF m 0 #[.val (.int x1), .val (.int x2)] []))
  refine own_st (fun t k => XS.iloadN X0.here hx rfl (hb hby d5_0) rfl k) ?_
  show own_Fin p.tables e below _ (s₁.setTop (mkF m 1 #[.val (.int x1), .val (.int x2)] [(.int x1)]))
  refine own_st (fun t k => XS.iloadN X0.here hx rfl (hb hby d5_1) rfl k) ?_
  show own_Fin p.tables e below _ (s₁.setTop (mkF m 2 #[.val (.int x1), .val (.int x2)] [(.int x2), (.int x1)]))
  rcases Decidable.em (x2 < x1) with cm | cm
  · have _ := cm
    refine own_st (fun t k => XS.icmpYes X0.here hx rfl (pc0 := 2) (pc' := 9) rfl (hb hby d5_2) rfl (XT.ii_gt_t cm) (by decide) (by decide) k) ?_
    show own_Fin p.tables e below _ (s₁.setTop (mkF m 9 #[.val (.int x1), .val (.int x2)] []))
    refine own_st (fun t k => XS.iloadN X0.here hx rfl (hb hby d5_9) rfl k) ?_
    show own_Fin p.tables e below _ (s₁.setTop (mkF m 10 #[.val (.int x1), .val (.int x2)] [(.int x2)]))
    obtain ⟨fs, hr, hrun, hended, hW, hsame⟩ := X0.leave (v := (some (.int x2))) (fun h => by rw [Bd.returns] at h; cases h)
    refine ⟨_, _, retOut X0 hx (t := .int) Bd.returns rfl (Or.inl ⟨rfl, Or.inl rfl, _, rfl⟩) (hb hby d5_10) hr, hrun, hended, _, _, rfl, ?_, ⟨_, rfl⟩, hW, hsame.mono (by decide) (by decide)⟩
    show Q5 Z x1 x2 h0 n0 _ s₁.heap _
    rw [e0]
    exact ⟨_, rfl, fun q => Int32.lt_irrefl q, N0, rfl⟩
  · have _ := cm
    refine own_st (fun t k => XS.icmpNo X0.here hx rfl (hb hby d5_2) rfl (XT.ii_gt_f cm) k) ?_
    show own_Fin p.tables e below _ (s₁.setTop (mkF m 5 #[.val (.int x1), .val (.int x2)] []))
    refine own_st (fun t k => XS.iloadN X0.here hx rfl (hb hby d5_5) rfl k) ?_
    show own_Fin p.tables e below _ (s₁.setTop (mkF m 6 #[.val (.int x1), .val (.int x2)] [(.int x1)]))
    refine own_st (fun t k => XS.goto X0.here hx rfl (pc0 := 6) (pc' := 10) rfl (hb hby d5_6) (by decide) (by decide) k) ?_
    show own_Fin p.tables e below _ (s₁.setTop (mkF m 10 #[.val (.int x1), .val (.int x2)] [(.int x1)]))
    obtain ⟨fs, hr, hrun, hended, hW, hsame⟩ := X0.leave (v := (some (.int x1))) (fun h => by rw [Bd.returns] at h; cases h)
    refine ⟨_, _, retOut X0 hx (t := .int) Bd.returns rfl (Or.inl ⟨rfl, Or.inl rfl, _, rfl⟩) (hb hby d5_10) hr, hrun, hended, _, _, rfl, ?_, ⟨_, rfl⟩, hW, hsame.mono (by decide) (by decide)⟩
    show Q5 Z x1 x2 h0 n0 _ s₁.heap _
    rw [e0]
    exact ⟨_, rfl, cm, N0, rfl⟩
def Q12 (Z : State) (d : Int32) (h0 : Heap) (n0 : Nat) (v : Option Value) (h : Heap) (L : List Loc) : Prop := v = some (.int 0) ∧ Fr n0 L ∧ h = h0
set_option maxRecDepth 65536 in
set_option maxHeartbeats 40000000 in
theorem rm12 (l : Launch) (Z : State) (a0 : Array Value) (hw : ∀ d ∈ tables_1, d.before a0 Z = true) (ws : List Jvm.Cond) (d : Int32) (h0 : Heap) (n0 : Nat) (Z0 : n0 ≤ h0.size) (hd : (d = 0 ∨ d = 1 ∨ d = 2)) :
    MetFree l (⟨"com/example/chiffchaff/chiffchaff/OpenElements", "block", "(I)I"⟩ : MethodName) (head1 (Jvm.Cond.code (⟨"com/example/chiffchaff/chiffchaff/OpenElements", "block", "(I)I"⟩ : MethodName) prog_52_method_15_code 1 (some .int) :: ws) ({ frames := 1, cells := 0, slots := 0, locals := 12 } : Room)) (fun xs U => xs = #[(.int d)] ∧ Z.Warmed39 U.vm ∧ U.heap = h0) (fun _ _ _ _ _ => True) (fun _ U o U' => ∃ v L, o = .returned v ∧ Q12 Z d h0 n0 v U'.heap L ∧ FrameEnd U o U' L ({ frames := 1, cells := 0, slots := 0, locals := 12 } : Room).cells ({ frames := 1, cells := 0, slots := 0, locals := 12 } : Room).slots) := by
  refine MetFree.of_bodySF (plainFor_of_name pn_com_example_chiffchaff_chiffchaff_OpenElements) hisR ?_
  intro p e s m args below meth c s₁ Bd hml0 hP hK
  obtain ⟨rfl, hZ, hh⟩ := hP
  have hx := Bd.exec
  have hby := Bd.bytes
  have hml : c.maxLocals = 1 := hml0
  have hown : s.vm.findClass "com/example/chiffchaff/chiffchaff/OpenElements" = some m.cls := findClass_of_methodNamed Bd.named
  have hnm := (name_of_methodNamed Bd.named Bd.method).1
  have X0 : Stand p l e ({ frames := 1, cells := 0, slots := 0, locals := 12 } : Room) s m #[(.int d)] below meth c s₁ [] 0 0 := Stand.of_body Bd
  have e0 : s₁.heap = h0 := by rw [← hh, Bd.state]; rfl
  have N0 := Fr.nil n0
  change own_Fin p.tables e below (fun s₂ o => ∃ v L, o = .returned v ∧ Q12 Z d h0 n0 v s₂.heap L ∧ FrameEnd s o s₂ L ({ frames := 1, cells := 0, slots := 0, locals := 12 } : Room).cells ({ frames := 1, cells := 0, slots := 0, locals := 12 } : Room).slots) (s₁.setTop (entryFrame m #[(.int d)] 1))
  refine own_st (fun t k => castTop (show entryFrame m #[(.int d)] 1 = mkF m 0 #[.val (.int d)] [] by first | (simp [entryFrame, mkF, argsToLocals, Value.category, maxLocals]; done) | rfl) k) ?_
  show own_Fin p.tables e below _ (s₁.setTop (mkF m 0 #[.val (.int d)] []))
  refine own_st (fun t k => XS.iloadN X0.here hx rfl (hb hby d12_0) rfl k) ?_
  show own_Fin p.tables e below _ (s₁.setTop (mkF m 1 #[.val (.int d)] [(.int d)]))
  refine own_st (fun t k => XS.bipush X0.here hx rfl (hb hby d12_1) k) ?_
  show own_Fin p.tables e below _ (s₁.setTop (mkF m 3 #[.val (.int d)] [(.int (12 : Int32)), (.int d)]))
  refine own_st (fun t k => XS.iushr X0.here hx rfl (hb hby d12_3) rfl k) ?_
  show own_Fin p.tables e below _ (s₁.setTop (mkF m 4 #[.val (.int d)] [(.int ((d.toUInt32 >>> ((12 : Int32) &&& 31).toUInt32).toInt32))]))
  obtain ⟨fs, hr, hrun, hended, hW, hsame⟩ := X0.leave (v := (some (.int ((d.toUInt32 >>> ((12 : Int32) &&& 31).toUInt32).toInt32)))) (fun h => by rw [Bd.returns] at h; cases h)
  refine ⟨_, _, retOut X0 hx (t := .int) Bd.returns rfl (Or.inl ⟨rfl, Or.inl rfl, _, rfl⟩) (hb hby d12_4) hr, hrun, hended, _, _, rfl, ?_, ⟨_, rfl⟩, hW, hsame.mono (by decide) (by decide)⟩
  show Q12 Z d h0 n0 _ s₁.heap _
  rw [e0]
  exact ⟨congrArg (fun z => some (Value.int z)) (own_blk hd), N0, rfl⟩
def Q13 (Z : State) (d : Int32) (h0 : Heap) (n0 : Nat) (v : Option Value) (h : Heap) (L : List Loc) : Prop := v = some (.int d) ∧ Fr n0 L ∧ h = h0
set_option maxRecDepth 65536 in
set_option maxHeartbeats 40000000 in
theorem rm13 (l : Launch) (Z : State) (a0 : Array Value) (hw : ∀ d ∈ tables_1, d.before a0 Z = true) (ws : List Jvm.Cond) (d : Int32) (h0 : Heap) (n0 : Nat) (Z0 : n0 ≤ h0.size) (hd : (d = 0 ∨ d = 1 ∨ d = 2)) :
    MetFree l (⟨"com/example/chiffchaff/chiffchaff/OpenElements", "slot", "(I)I"⟩ : MethodName) (head1 (Jvm.Cond.code (⟨"com/example/chiffchaff/chiffchaff/OpenElements", "slot", "(I)I"⟩ : MethodName) prog_52_method_16_code 1 (some .int) :: ws) ({ frames := 1, cells := 0, slots := 0, locals := 12 } : Room)) (fun xs U => xs = #[(.int d)] ∧ Z.Warmed39 U.vm ∧ U.heap = h0) (fun _ _ _ _ _ => True) (fun _ U o U' => ∃ v L, o = .returned v ∧ Q13 Z d h0 n0 v U'.heap L ∧ FrameEnd U o U' L ({ frames := 1, cells := 0, slots := 0, locals := 12 } : Room).cells ({ frames := 1, cells := 0, slots := 0, locals := 12 } : Room).slots) := by
  refine MetFree.of_bodySF (plainFor_of_name pn_com_example_chiffchaff_chiffchaff_OpenElements) hisR ?_
  intro p e s m args below meth c s₁ Bd hml0 hP hK
  obtain ⟨rfl, hZ, hh⟩ := hP
  have hx := Bd.exec
  have hby := Bd.bytes
  have hml : c.maxLocals = 1 := hml0
  have hown : s.vm.findClass "com/example/chiffchaff/chiffchaff/OpenElements" = some m.cls := findClass_of_methodNamed Bd.named
  have hnm := (name_of_methodNamed Bd.named Bd.method).1
  have X0 : Stand p l e ({ frames := 1, cells := 0, slots := 0, locals := 12 } : Room) s m #[(.int d)] below meth c s₁ [] 0 0 := Stand.of_body Bd
  have e0 : s₁.heap = h0 := by rw [← hh, Bd.state]; rfl
  have N0 := Fr.nil n0
  change own_Fin p.tables e below (fun s₂ o => ∃ v L, o = .returned v ∧ Q13 Z d h0 n0 v s₂.heap L ∧ FrameEnd s o s₂ L ({ frames := 1, cells := 0, slots := 0, locals := 12 } : Room).cells ({ frames := 1, cells := 0, slots := 0, locals := 12 } : Room).slots) (s₁.setTop (entryFrame m #[(.int d)] 1))
  refine own_st (fun t k => castTop (show entryFrame m #[(.int d)] 1 = mkF m 0 #[.val (.int d)] [] by first | (simp [entryFrame, mkF, argsToLocals, Value.category, maxLocals]; done) | rfl) k) ?_
  show own_Fin p.tables e below _ (s₁.setTop (mkF m 0 #[.val (.int d)] []))
  refine own_st (fun t k => XS.iloadN X0.here hx rfl (hb hby d13_0) rfl k) ?_
  show own_Fin p.tables e below _ (s₁.setTop (mkF m 1 #[.val (.int d)] [(.int d)]))
  refine own_st (fun t k => XS.sipush X0.here hx rfl (hb hby d13_1) k) ?_
  show own_Fin p.tables e below _ (s₁.setTop (mkF m 4 #[.val (.int d)] [(.int (4095 : Int32)), (.int d)]))
  refine own_st (fun t k => XS.iand X0.here hx rfl (hb hby d13_4) rfl k) ?_
  show own_Fin p.tables e below _ (s₁.setTop (mkF m 5 #[.val (.int d)] [(.int (d &&& (4095 : Int32)))]))
  obtain ⟨fs, hr, hrun, hended, hW, hsame⟩ := X0.leave (v := (some (.int (d &&& (4095 : Int32))))) (fun h => by rw [Bd.returns] at h; cases h)
  refine ⟨_, _, retOut X0 hx (t := .int) Bd.returns rfl (Or.inl ⟨rfl, Or.inl rfl, _, rfl⟩) (hb hby d13_5) hr, hrun, hended, _, _, rfl, ?_, ⟨_, rfl⟩, hW, hsame.mono (by decide) (by decide)⟩
  show Q13 Z d h0 n0 _ s₁.heap _
  rw [e0]
  exact ⟨congrArg (fun z => some (Value.int z)) (own_slt hd), N0, rfl⟩
def Q9 (Z : State) (d : Int32) (h0 : Heap) (n0 : Nat) (v : Option Value) (h : Heap) (L : List Loc) : Prop := v = none ∧ Fr n0 L ∧ h = h0
set_option maxRecDepth 65536 in
set_option maxHeartbeats 40000000 in
theorem rm9 (l : Launch) (Z : State) (a0 : Array Value) (hw : ∀ d ∈ tables_1, d.before a0 Z = true) (ws : List Jvm.Cond) (d : Int32) (h0 : Heap) (n0 : Nat) (Z0 : n0 ≤ h0.size) (hd : ¬ d < 0 ∧ ¬ (16 : Int32) < d ∧ ¬ (3 : Int32) < d) :
    MetFree l (⟨"java/util/Arrays", "rangeCheck", "(III)V"⟩ : MethodName) (head1 (Jvm.Cond.code (⟨"java/util/Arrays", "rangeCheck", "(III)V"⟩ : MethodName) jdk_65_method_30_code 3 none :: ws) ({ frames := 1, cells := 0, slots := 0, locals := 12 } : Room)) (fun xs U => xs = #[(.int (16 : Int32)), (.int (0 : Int32)), (.int d)] ∧ Z.Warmed39 U.vm ∧ U.heap = h0) (fun _ _ _ _ _ => True) (fun _ U o U' => ∃ v L, o = .returned v ∧ Q9 Z d h0 n0 v U'.heap L ∧ FrameEnd U o U' L ({ frames := 1, cells := 0, slots := 0, locals := 12 } : Room).cells ({ frames := 1, cells := 0, slots := 0, locals := 12 } : Room).slots) := by
  refine MetFree.of_bodySF (plainFor_of_name pn_java_util_Arrays) hisR ?_
  intro p e s m args below meth c s₁ Bd hml0 hP hK
  obtain ⟨rfl, hZ, hh⟩ := hP
  have hx := Bd.exec
  have hby := Bd.bytes
  have hml : c.maxLocals = 3 := hml0
  have hown : s.vm.findClass "java/util/Arrays" = some m.cls := findClass_of_methodNamed Bd.named
  have hnm := (name_of_methodNamed Bd.named Bd.method).1
  have X0 : Stand p l e ({ frames := 1, cells := 0, slots := 0, locals := 12 } : Room) s m #[(.int (16 : Int32)), (.int (0 : Int32)), (.int d)] below meth c s₁ [] 0 0 := Stand.of_body Bd
  have e0 : s₁.heap = h0 := by rw [← hh, Bd.state]; rfl
  have N0 := Fr.nil n0
  change own_Fin p.tables e below (fun s₂ o => ∃ v L, o = .returned v ∧ Q9 Z d h0 n0 v s₂.heap L ∧ FrameEnd s o s₂ L ({ frames := 1, cells := 0, slots := 0, locals := 12 } : Room).cells ({ frames := 1, cells := 0, slots := 0, locals := 12 } : Room).slots) (s₁.setTop (entryFrame m #[(.int (16 : Int32)), (.int (0 : Int32)), (.int d)] 3))
  refine own_st (fun t k => castTop (show entryFrame m #[(.int (16 : Int32)), (.int (0 : Int32)), (.int d)] 3 = mkF m 0 #[.val (.int (16 : Int32)), .val (.int (0 : Int32)), .val (.int d)] [] by first | (simp [entryFrame, mkF, argsToLocals, Value.category, maxLocals]; done) | rfl) k) ?_
  show own_Fin p.tables e below _ (s₁.setTop (mkF m 0 #[.val (.int (16 : Int32)), .val (.int (0 : Int32)), .val (.int d)] []))
  refine own_st (fun t k => XS.iloadN X0.here hx rfl (hb hby d9_0) rfl k) ?_
  show own_Fin p.tables e below _ (s₁.setTop (mkF m 1 #[.val (.int (16 : Int32)), .val (.int (0 : Int32)), .val (.int d)] [(.int (0 : Int32))]))
  refine own_st (fun t k => XS.iloadN X0.here hx rfl (hb hby d9_1) rfl k) ?_
  show own_Fin p.tables e below _ (s₁.setTop (mkF m 2 #[.val (.int (16 : Int32)), .val (.int (0 : Int32)), .val (.int d)] [(.int d), (.int (0 : Int32))]))
  refine own_st (fun t k => XS.icmpYes X0.here hx rfl (pc0 := 2) (pc' := 46) rfl (hb hby d9_2) rfl (XT.ii_le_t hd.1) (by decide) (by decide) k) ?_
  show own_Fin p.tables e below _ (s₁.setTop (mkF m 46 #[.val (.int (16 : Int32)), .val (.int (0 : Int32)), .val (.int d)] []))
  refine own_st (fun t k => XS.iloadN X0.here hx rfl (hb hby d9_46) rfl k) ?_
  show own_Fin p.tables e below _ (s₁.setTop (mkF m 47 #[.val (.int (16 : Int32)), .val (.int (0 : Int32)), .val (.int d)] [(.int (0 : Int32))]))
  refine own_st (fun t k => XS.ifYes X0.here hx rfl (pc0 := 47) (pc' := 59) rfl (hb hby d9_47) rfl (XT.i0_ge_t (by decide)) (by decide) (by decide) k) ?_
  show own_Fin p.tables e below _ (s₁.setTop (mkF m 59 #[.val (.int (16 : Int32)), .val (.int (0 : Int32)), .val (.int d)] []))
  refine own_st (fun t k => XS.iloadN X0.here hx rfl (hb hby d9_59) rfl k) ?_
  show own_Fin p.tables e below _ (s₁.setTop (mkF m 60 #[.val (.int (16 : Int32)), .val (.int (0 : Int32)), .val (.int d)] [(.int d)]))
  refine own_st (fun t k => XS.iloadN X0.here hx rfl (hb hby d9_60) rfl k) ?_
  show own_Fin p.tables e below _ (s₁.setTop (mkF m 61 #[.val (.int (16 : Int32)), .val (.int (0 : Int32)), .val (.int d)] [(.int (16 : Int32)), (.int d)]))
  refine own_st (fun t k => XS.icmpYes X0.here hx rfl (pc0 := 61) (pc' := 73) rfl (hb hby d9_61) rfl (XT.ii_le_t hd.2.1) (by decide) (by decide) k) ?_
  show own_Fin p.tables e below _ (s₁.setTop (mkF m 73 #[.val (.int (16 : Int32)), .val (.int (0 : Int32)), .val (.int d)] []))
  obtain ⟨fs, hr, hrun, hended, hW, hsame⟩ := X0.leave (v := none) (fun _ => rfl)
  refine ⟨_, _, X0.returnOut hx Bd.returns (hb hby d9_73) hr, hrun, hended, _, _, rfl, ?_, ⟨_, rfl⟩, hW, hsame.mono (by decide) (by decide)⟩
  show Q9 Z d h0 n0 _ s₁.heap _
  rw [e0]
  exact ⟨rfl, N0, rfl⟩
def Q8 (Z : State) (a1 : Addr) (C : String) (d : Int32) (h0 : Heap) (n0 : Nat) (v : Option Value) (h : Heap) (L : List Loc) : Prop := v = none ∧ Fr n0 L ∧ Keep h0 h [a1]
set_option maxRecDepth 65536 in
set_option maxHeartbeats 40000000 in
theorem rm8 (l : Launch) (Z : State) (a0 : Array Value) (hw : ∀ d ∈ tables_1, d.before a0 Z = true) (ws : List Jvm.Cond) (a1 : Addr) (C : String) (d : Int32) (h0 : Heap) (n0 : Nat) (Z0 : n0 ≤ h0.size) (O_1 : own_O Z h0 a1 C 16) (ga : n0 ≤ a1) (hd : (d = 0 ∨ d = 1 ∨ d = 2 ∨ d = 3)) :
    MetFree l (⟨"java/util/Arrays", "fill", "([Ljava/lang/Object;IILjava/lang/Object;)V"⟩ : MethodName) (head1 (Jvm.Cond.code (⟨"java/util/Arrays", "fill", "([Ljava/lang/Object;IILjava/lang/Object;)V"⟩ : MethodName) jdk_65_method_118_code 5 none :: ws) ({ frames := 2, cells := 0, slots := 0, locals := 30 } : Room)) (fun xs U => xs = #[(.ref a1), (.int (0 : Int32)), (.int d), .null] ∧ Z.Warmed39 U.vm ∧ U.heap = h0) (fun _ _ _ _ _ => True) (fun _ U o U' => ∃ v L, o = .returned v ∧ Q8 Z a1 C d h0 n0 v U'.heap L ∧ FrameEnd U o U' L ({ frames := 2, cells := 0, slots := 0, locals := 30 } : Room).cells ({ frames := 2, cells := 0, slots := 0, locals := 30 } : Room).slots) := by
  refine MetFree.of_bodySF (plainFor_of_name pn_java_util_Arrays) hisR ?_
  intro p e s m args below meth c s₁ Bd hml0 hP hK
  obtain ⟨rfl, hZ, hh⟩ := hP
  have hx := Bd.exec
  have hby := Bd.bytes
  have hml : c.maxLocals = 5 := hml0
  have hown : s.vm.findClass "java/util/Arrays" = some m.cls := findClass_of_methodNamed Bd.named
  have hnm := (name_of_methodNamed Bd.named Bd.method).1
  have X0 : Stand p l e ({ frames := 2, cells := 0, slots := 0, locals := 30 } : Room) s m #[(.ref a1), (.int (0 : Int32)), (.int d), .null] below meth c s₁ [] 0 0 := Stand.of_body Bd
  have e0 : s₁.heap = h0 := by rw [← hh, Bd.state]; rfl
  have N0 := Fr.nil n0
  change own_Fin p.tables e below (fun s₂ o => ∃ v L, o = .returned v ∧ Q8 Z a1 C d h0 n0 v s₂.heap L ∧ FrameEnd s o s₂ L ({ frames := 2, cells := 0, slots := 0, locals := 30 } : Room).cells ({ frames := 2, cells := 0, slots := 0, locals := 30 } : Room).slots) (s₁.setTop (entryFrame m #[(.ref a1), (.int (0 : Int32)), (.int d), .null] 5))
  refine own_st (fun t k => castTop (show entryFrame m #[(.ref a1), (.int (0 : Int32)), (.int d), .null] 5 = mkF m 0 #[.val (.ref a1), .val (.int (0 : Int32)), .val (.int d), .val .null, .unset] [] by first | (simp [entryFrame, mkF, argsToLocals, Value.category, maxLocals]; done) | rfl) k) ?_
  show own_Fin p.tables e below _ (s₁.setTop (mkF m 0 #[.val (.ref a1), .val (.int (0 : Int32)), .val (.int d), .val .null, .unset] []))
  have K0 : Keep h0 h0 [a1] := Keep.refl h0 [a1]
  have g_a1 := ga
  refine own_st (fun t k => XS.aloadN X0.here hx rfl (hb hby d8_0) rfl rfl k) ?_
  show own_Fin p.tables e below _ (s₁.setTop (mkF m 1 #[.val (.ref a1), .val (.int (0 : Int32)), .val (.int d), .val .null, .unset] [(.ref a1)]))
  refine own_st (fun t k => own_len1 X0 hx hZ e0 (own_O.A O_1) (g := (mkF m 1 #[.val (.ref a1), .val (.int (0 : Int32)), .val (.int d), .val .null, .unset] [(.ref a1)])) rfl rfl (hb hby d8_1) t k) ?_
  show own_Fin p.tables e below _ (s₁.setTop (mkF m 2 #[.val (.ref a1), .val (.int (0 : Int32)), .val (.int d), .val .null, .unset] [(.int (16 : Int32))]))
  refine own_st (fun t k => XS.iloadN X0.here hx rfl (hb hby d8_2) rfl k) ?_
  show own_Fin p.tables e below _ (s₁.setTop (mkF m 3 #[.val (.ref a1), .val (.int (0 : Int32)), .val (.int d), .val .null, .unset] [(.int (0 : Int32)), (.int (16 : Int32))]))
  refine own_st (fun t k => XS.iloadN X0.here hx rfl (hb hby d8_3) rfl k) ?_
  show own_Fin p.tables e below _ (s₁.setTop (mkF m 4 #[.val (.ref a1), .val (.int (0 : Int32)), .val (.int d), .val .null, .unset] [(.int d), (.int (0 : Int32)), (.int (16 : Int32))]))
  obtain ⟨_, _, ⟨T1, L1, k1, n1⟩, -, X1, ⟨Lc1, hQ1, l1, y1, z1⟩, st1⟩ := Jvm.LawKit.callS X0 hx (y := (⟨"java/util/Arrays", "rangeCheck", "(III)V"⟩ : MethodName)) hown (mvT hZ (hw _ (List.mem_of_getElem? (i := 66) rfl))) (mvT hZ (hw _ (List.mem_of_getElem? (i := 67) rfl))) (mvT hZ (hw _ (List.mem_of_getElem? (i := 64) rfl))) (mvT hZ (hw _ (List.mem_of_getElem? (i := 68) rfl))) (by decide) (backOf (W := 0) (rm9 l Z a0 hw [] d h0 n0 Z0 (own_r0 hd)) hZ (hw _ (List.mem_of_getElem? (i := 68) rfl)) (hw _ (List.mem_of_getElem? (i := 64) rfl)) (by decide) (by decide)) (g := (mkF m 4 #[.val (.ref a1), .val (.int (0 : Int32)), .val (.int d), .val .null, .unset] [(.int d), (.int (0 : Int32)), (.int (16 : Int32))])) rfl (by rw [hml]; rfl) (argsL := [(.int (16 : Int32)), (.int (0 : Int32)), (.int d)]) (rest := []) (lenOf pd__III_V rfl) rfl (by show 2 * 0 + _ ≤ _; exact Nat.le_of_eq rfl) (hb hby d8_4) (fun _ _ => ⟨rfl, e0, (by decide : 0 + 0 ≤ _), (by decide : 0 + 0 ≤ _)⟩)
  dsimp only [Pt.U, Pt.locs, Pt.cells, Pt.slots] at X1 l1 y1 z1 st1 hQ1
  subst l1 y1 z1
  obtain ⟨rfl, N1, q1⟩ := hQ1
  refine own_st (st1) ?_
  have N1a := Fr.app N0 N1
  show own_Fin p.tables e below _ (T1.setTop (mkF m 7 #[.val (.ref a1), .val (.int (0 : Int32)), .val (.int d), .val .null, .unset] []))
  refine own_st (fun t k => XS.iloadN X1.here hx rfl (hb hby d8_7) rfl k) ?_
  show own_Fin p.tables e below _ (T1.setTop (mkF m 8 #[.val (.ref a1), .val (.int (0 : Int32)), .val (.int d), .val .null, .unset] [(.int (0 : Int32))]))
  refine own_st (fun t k => XS.istore X1.here hx rfl (hb hby d8_8) rfl (l' := #[.val (.ref a1), .val (.int (0 : Int32)), .val (.int d), .val .null, .val (.int (0 : Int32))]) rfl k) ?_
  show own_Fin p.tables e below _ (T1.setTop (mkF m 10 #[.val (.ref a1), .val (.int (0 : Int32)), .val (.int d), .val .null, .val (.int (0 : Int32))] []))
  refine own_st (fun t k => XS.iload X1.here hx rfl (hb hby d8_10) rfl k) ?_
  show own_Fin p.tables e below _ (T1.setTop (mkF m 12 #[.val (.ref a1), .val (.int (0 : Int32)), .val (.int d), .val .null, .val (.int (0 : Int32))] [(.int (0 : Int32))]))
  refine own_st (fun t k => XS.iloadN X1.here hx rfl (hb hby d8_12) rfl k) ?_
  show own_Fin p.tables e below _ (T1.setTop (mkF m 13 #[.val (.ref a1), .val (.int (0 : Int32)), .val (.int d), .val .null, .val (.int (0 : Int32))] [(.int d), (.int (0 : Int32))]))
  rcases Decidable.em ((0 : Int32) < d) with c0 | c0
  · have _ := c0
    refine own_st (fun t k => XS.icmpNo X1.here hx rfl (hb hby d8_13) rfl (XT.ii_ge_f c0) k) ?_
    show own_Fin p.tables e below _ (T1.setTop (mkF m 16 #[.val (.ref a1), .val (.int (0 : Int32)), .val (.int d), .val .null, .val (.int (0 : Int32))] []))
    refine own_st (fun t k => XS.aloadN X1.here hx rfl (hb hby d8_16) rfl rfl k) ?_
    show own_Fin p.tables e below _ (T1.setTop (mkF m 17 #[.val (.ref a1), .val (.int (0 : Int32)), .val (.int d), .val .null, .val (.int (0 : Int32))] [(.ref a1)]))
    refine own_st (fun t k => XS.iload X1.here hx rfl (hb hby d8_17) rfl k) ?_
    show own_Fin p.tables e below _ (T1.setTop (mkF m 19 #[.val (.ref a1), .val (.int (0 : Int32)), .val (.int d), .val .null, .val (.int (0 : Int32))] [(.int (0 : Int32)), (.ref a1)]))
    refine own_st (fun t k => XS.aloadN X1.here hx rfl (hb hby d8_19) rfl rfl k) ?_
    show own_Fin p.tables e below _ (T1.setTop (mkF m 20 #[.val (.ref a1), .val (.int (0 : Int32)), .val (.int d), .val .null, .val (.int (0 : Int32))] [.null, (.int (0 : Int32)), (.ref a1)]))
    obtain ⟨T2, h2, X2, e2, W2, st2⟩ := own_stR X1 hx hZ q1 O_1 (j := (0 : Int32)) ⟨by decide, by decide⟩ (Or.inl rfl) (g := (mkF m 20 #[.val (.ref a1), .val (.int (0 : Int32)), .val (.int d), .val .null, .val (.int (0 : Int32))] [.null, (.int (0 : Int32)), (.ref a1)])) rfl rfl (hb hby d8_20)
    refine own_st st2 ?_
    have O_1'2 := O_1.wr W2
    have K0'2 := K0.wr W2 (Or.inl (List.mem_of_getElem? (i := 0) rfl))
    have N2 := Fr.snoc X2 N1a g_a1
    have Z2 : n0 ≤ h2.size := by rw [W2.size]; exact Z0
    show own_Fin p.tables e below _ (T2.setTop (mkF m 21 #[.val (.ref a1), .val (.int (0 : Int32)), .val (.int d), .val .null, .val (.int (0 : Int32))] []))
    refine own_st (fun t k => XS.iinc X2.here hx rfl (hb hby d8_21) rfl (l' := #[.val (.ref a1), .val (.int (0 : Int32)), .val (.int d), .val .null, .val (.int (1 : Int32))]) rfl k) ?_
    show own_Fin p.tables e below _ (T2.setTop (mkF m 24 #[.val (.ref a1), .val (.int (0 : Int32)), .val (.int d), .val .null, .val (.int (1 : Int32))] []))
    refine own_st (fun t k => XS.goto X2.here hx rfl (pc0 := 24) (pc' := 10) rfl (hb hby d8_24) (by decide) (by decide) k) ?_
    show own_Fin p.tables e below _ (T2.setTop (mkF m 10 #[.val (.ref a1), .val (.int (0 : Int32)), .val (.int d), .val .null, .val (.int (1 : Int32))] []))
    refine own_st (fun t k => XS.iload X2.here hx rfl (hb hby d8_10) rfl k) ?_
    show own_Fin p.tables e below _ (T2.setTop (mkF m 12 #[.val (.ref a1), .val (.int (0 : Int32)), .val (.int d), .val .null, .val (.int (1 : Int32))] [(.int (1 : Int32))]))
    refine own_st (fun t k => XS.iloadN X2.here hx rfl (hb hby d8_12) rfl k) ?_
    show own_Fin p.tables e below _ (T2.setTop (mkF m 13 #[.val (.ref a1), .val (.int (0 : Int32)), .val (.int d), .val .null, .val (.int (1 : Int32))] [(.int d), (.int (1 : Int32))]))
    rcases Decidable.em ((1 : Int32) < d) with c1 | c1
    · have _ := c1
      refine own_st (fun t k => XS.icmpNo X2.here hx rfl (hb hby d8_13) rfl (XT.ii_ge_f c1) k) ?_
      show own_Fin p.tables e below _ (T2.setTop (mkF m 16 #[.val (.ref a1), .val (.int (0 : Int32)), .val (.int d), .val .null, .val (.int (1 : Int32))] []))
      refine own_st (fun t k => XS.aloadN X2.here hx rfl (hb hby d8_16) rfl rfl k) ?_
      show own_Fin p.tables e below _ (T2.setTop (mkF m 17 #[.val (.ref a1), .val (.int (0 : Int32)), .val (.int d), .val .null, .val (.int (1 : Int32))] [(.ref a1)]))
      refine own_st (fun t k => XS.iload X2.here hx rfl (hb hby d8_17) rfl k) ?_
      show own_Fin p.tables e below _ (T2.setTop (mkF m 19 #[.val (.ref a1), .val (.int (0 : Int32)), .val (.int d), .val .null, .val (.int (1 : Int32))] [(.int (1 : Int32)), (.ref a1)]))
      refine own_st (fun t k => XS.aloadN X2.here hx rfl (hb hby d8_19) rfl rfl k) ?_
      show own_Fin p.tables e below _ (T2.setTop (mkF m 20 #[.val (.ref a1), .val (.int (0 : Int32)), .val (.int d), .val .null, .val (.int (1 : Int32))] [.null, (.int (1 : Int32)), (.ref a1)]))
      obtain ⟨T3, h3, X3, e3, W3, st3⟩ := own_stR X2 hx hZ e2 O_1'2 (j := (1 : Int32)) ⟨by decide, by decide⟩ (Or.inl rfl) (g := (mkF m 20 #[.val (.ref a1), .val (.int (0 : Int32)), .val (.int d), .val .null, .val (.int (1 : Int32))] [.null, (.int (1 : Int32)), (.ref a1)])) rfl rfl (hb hby d8_20)
      refine own_st st3 ?_
      have O_1'3 := O_1'2.wr W3
      have K0'3 := K0'2.wr W3 (Or.inl (List.mem_of_getElem? (i := 0) rfl))
      have N3 := Fr.snoc X3 N2 g_a1
      have Z3 : n0 ≤ h3.size := by rw [W3.size]; exact Z2
      show own_Fin p.tables e below _ (T3.setTop (mkF m 21 #[.val (.ref a1), .val (.int (0 : Int32)), .val (.int d), .val .null, .val (.int (1 : Int32))] []))
      refine own_st (fun t k => XS.iinc X3.here hx rfl (hb hby d8_21) rfl (l' := #[.val (.ref a1), .val (.int (0 : Int32)), .val (.int d), .val .null, .val (.int (2 : Int32))]) rfl k) ?_
      show own_Fin p.tables e below _ (T3.setTop (mkF m 24 #[.val (.ref a1), .val (.int (0 : Int32)), .val (.int d), .val .null, .val (.int (2 : Int32))] []))
      refine own_st (fun t k => XS.goto X3.here hx rfl (pc0 := 24) (pc' := 10) rfl (hb hby d8_24) (by decide) (by decide) k) ?_
      show own_Fin p.tables e below _ (T3.setTop (mkF m 10 #[.val (.ref a1), .val (.int (0 : Int32)), .val (.int d), .val .null, .val (.int (2 : Int32))] []))
      refine own_st (fun t k => XS.iload X3.here hx rfl (hb hby d8_10) rfl k) ?_
      show own_Fin p.tables e below _ (T3.setTop (mkF m 12 #[.val (.ref a1), .val (.int (0 : Int32)), .val (.int d), .val .null, .val (.int (2 : Int32))] [(.int (2 : Int32))]))
      refine own_st (fun t k => XS.iloadN X3.here hx rfl (hb hby d8_12) rfl k) ?_
      show own_Fin p.tables e below _ (T3.setTop (mkF m 13 #[.val (.ref a1), .val (.int (0 : Int32)), .val (.int d), .val .null, .val (.int (2 : Int32))] [(.int d), (.int (2 : Int32))]))
      rcases Decidable.em ((2 : Int32) < d) with c2 | c2
      · have _ := c2
        refine own_st (fun t k => XS.icmpNo X3.here hx rfl (hb hby d8_13) rfl (XT.ii_ge_f c2) k) ?_
        show own_Fin p.tables e below _ (T3.setTop (mkF m 16 #[.val (.ref a1), .val (.int (0 : Int32)), .val (.int d), .val .null, .val (.int (2 : Int32))] []))
        refine own_st (fun t k => XS.aloadN X3.here hx rfl (hb hby d8_16) rfl rfl k) ?_
        show own_Fin p.tables e below _ (T3.setTop (mkF m 17 #[.val (.ref a1), .val (.int (0 : Int32)), .val (.int d), .val .null, .val (.int (2 : Int32))] [(.ref a1)]))
        refine own_st (fun t k => XS.iload X3.here hx rfl (hb hby d8_17) rfl k) ?_
        show own_Fin p.tables e below _ (T3.setTop (mkF m 19 #[.val (.ref a1), .val (.int (0 : Int32)), .val (.int d), .val .null, .val (.int (2 : Int32))] [(.int (2 : Int32)), (.ref a1)]))
        refine own_st (fun t k => XS.aloadN X3.here hx rfl (hb hby d8_19) rfl rfl k) ?_
        show own_Fin p.tables e below _ (T3.setTop (mkF m 20 #[.val (.ref a1), .val (.int (0 : Int32)), .val (.int d), .val .null, .val (.int (2 : Int32))] [.null, (.int (2 : Int32)), (.ref a1)]))
        obtain ⟨T4, h4, X4, e4, W4, st4⟩ := own_stR X3 hx hZ e3 O_1'3 (j := (2 : Int32)) ⟨by decide, by decide⟩ (Or.inl rfl) (g := (mkF m 20 #[.val (.ref a1), .val (.int (0 : Int32)), .val (.int d), .val .null, .val (.int (2 : Int32))] [.null, (.int (2 : Int32)), (.ref a1)])) rfl rfl (hb hby d8_20)
        refine own_st st4 ?_
        have O_1'4 := O_1'3.wr W4
        have K0'4 := K0'3.wr W4 (Or.inl (List.mem_of_getElem? (i := 0) rfl))
        have N4 := Fr.snoc X4 N3 g_a1
        have Z4 : n0 ≤ h4.size := by rw [W4.size]; exact Z3
        show own_Fin p.tables e below _ (T4.setTop (mkF m 21 #[.val (.ref a1), .val (.int (0 : Int32)), .val (.int d), .val .null, .val (.int (2 : Int32))] []))
        refine own_st (fun t k => XS.iinc X4.here hx rfl (hb hby d8_21) rfl (l' := #[.val (.ref a1), .val (.int (0 : Int32)), .val (.int d), .val .null, .val (.int (3 : Int32))]) rfl k) ?_
        show own_Fin p.tables e below _ (T4.setTop (mkF m 24 #[.val (.ref a1), .val (.int (0 : Int32)), .val (.int d), .val .null, .val (.int (3 : Int32))] []))
        refine own_st (fun t k => XS.goto X4.here hx rfl (pc0 := 24) (pc' := 10) rfl (hb hby d8_24) (by decide) (by decide) k) ?_
        show own_Fin p.tables e below _ (T4.setTop (mkF m 10 #[.val (.ref a1), .val (.int (0 : Int32)), .val (.int d), .val .null, .val (.int (3 : Int32))] []))
        refine own_st (fun t k => XS.iload X4.here hx rfl (hb hby d8_10) rfl k) ?_
        show own_Fin p.tables e below _ (T4.setTop (mkF m 12 #[.val (.ref a1), .val (.int (0 : Int32)), .val (.int d), .val .null, .val (.int (3 : Int32))] [(.int (3 : Int32))]))
        refine own_st (fun t k => XS.iloadN X4.here hx rfl (hb hby d8_12) rfl k) ?_
        show own_Fin p.tables e below _ (T4.setTop (mkF m 13 #[.val (.ref a1), .val (.int (0 : Int32)), .val (.int d), .val .null, .val (.int (3 : Int32))] [(.int d), (.int (3 : Int32))]))
        refine own_st (fun t k => XS.icmpYes X4.here hx rfl (pc0 := 13) (pc' := 27) rfl (hb hby d8_13) rfl (XT.ii_ge_t (own_r0 hd).2.2) (by decide) (by decide) k) ?_
        show own_Fin p.tables e below _ (T4.setTop (mkF m 27 #[.val (.ref a1), .val (.int (0 : Int32)), .val (.int d), .val .null, .val (.int (3 : Int32))] []))
        obtain ⟨fs, hr, hrun, hended, hW, hsame⟩ := X4.leave (v := none) (fun _ => rfl)
        refine ⟨_, _, X4.returnOut hx Bd.returns (hb hby d8_27) hr, hrun, hended, _, _, rfl, ?_, ⟨_, rfl⟩, hW, hsame.mono (by decide) (by decide)⟩
        show Q8 Z a1 C d h0 n0 _ T4.heap _
        rw [e4]
        exact ⟨rfl, N4, K0'4⟩
      · have _ := c2
        refine own_st (fun t k => XS.icmpYes X3.here hx rfl (pc0 := 13) (pc' := 27) rfl (hb hby d8_13) rfl (XT.ii_ge_t c2) (by decide) (by decide) k) ?_
        show own_Fin p.tables e below _ (T3.setTop (mkF m 27 #[.val (.ref a1), .val (.int (0 : Int32)), .val (.int d), .val .null, .val (.int (2 : Int32))] []))
        obtain ⟨fs, hr, hrun, hended, hW, hsame⟩ := X3.leave (v := none) (fun _ => rfl)
        refine ⟨_, _, X3.returnOut hx Bd.returns (hb hby d8_27) hr, hrun, hended, _, _, rfl, ?_, ⟨_, rfl⟩, hW, hsame.mono (by decide) (by decide)⟩
        show Q8 Z a1 C d h0 n0 _ T3.heap _
        rw [e3]
        exact ⟨rfl, N3, K0'3⟩
    · have _ := c1
      refine own_st (fun t k => XS.icmpYes X2.here hx rfl (pc0 := 13) (pc' := 27) rfl (hb hby d8_13) rfl (XT.ii_ge_t c1) (by decide) (by decide) k) ?_
      show own_Fin p.tables e below _ (T2.setTop (mkF m 27 #[.val (.ref a1), .val (.int (0 : Int32)), .val (.int d), .val .null, .val (.int (1 : Int32))] []))
      obtain ⟨fs, hr, hrun, hended, hW, hsame⟩ := X2.leave (v := none) (fun _ => rfl)
      refine ⟨_, _, X2.returnOut hx Bd.returns (hb hby d8_27) hr, hrun, hended, _, _, rfl, ?_, ⟨_, rfl⟩, hW, hsame.mono (by decide) (by decide)⟩
      show Q8 Z a1 C d h0 n0 _ T2.heap _
      rw [e2]
      exact ⟨rfl, N2, K0'2⟩
  · have _ := c0
    refine own_st (fun t k => XS.icmpYes X1.here hx rfl (pc0 := 13) (pc' := 27) rfl (hb hby d8_13) rfl (XT.ii_ge_t c0) (by decide) (by decide) k) ?_
    show own_Fin p.tables e below _ (T1.setTop (mkF m 27 #[.val (.ref a1), .val (.int (0 : Int32)), .val (.int d), .val .null, .val (.int (0 : Int32))] []))
    obtain ⟨fs, hr, hrun, hended, hW, hsame⟩ := X1.leave (v := none) (fun _ => rfl)
    refine ⟨_, _, X1.returnOut hx Bd.returns (hb hby d8_27) hr, hrun, hended, _, _, rfl, ?_, ⟨_, rfl⟩, hW, hsame.mono (by decide) (by decide)⟩
    show Q8 Z a1 C d h0 n0 _ T1.heap _
    rw [q1]
    exact ⟨rfl, N1a, K0⟩
def Q3 (Z : State) (b : Addr) (h0 : Heap) (n0 : Nat) (v : Option Value) (h : Heap) (L : List Loc) : Prop := v = none ∧ Fr n0 L ∧ Keep h0 h [b] ∧ ∃ nm ur lv bd, Fld Z h b "com/example/chiffchaff/chiffchaff/OpenElements$Block" "names" "[Lcom/example/chiffchaff/chiffchaff/XmlName;" (.ref nm) ∧ Fld Z h b "com/example/chiffchaff/chiffchaff/OpenElements$Block" "uris" "[Ljava/lang/String;" (.ref ur) ∧ Fld Z h b "com/example/chiffchaff/chiffchaff/OpenElements$Block" "levels" "[I" (.ref lv) ∧ Fld Z h b "com/example/chiffchaff/chiffchaff/OpenElements$Block" "bindings" "[J" (.ref bd) ∧ Fld Z h b "com/example/chiffchaff/chiffchaff/OpenElements$Block" "types" "[Lcom/example/chiffchaff/chiffchaff/ElementType;" .null ∧ Fld Z h b "com/example/chiffchaff/chiffchaff/OpenElements$Block" "states" "[Ljava/lang/Object;" .null ∧ own_O Z h nm "com/example/chiffchaff/chiffchaff/XmlName" 16 ∧ own_O Z h ur "java/lang/String" 16 ∧ own_A Z h lv .int 16 ∧ own_A Z h bd .long 16 ∧ n0 ≤ nm ∧ n0 ≤ ur ∧ n0 ≤ lv ∧ n0 ≤ bd
set_option maxRecDepth 65536 in
set_option maxHeartbeats 40000000 in
theorem rm3 (l : Launch) (Z : State) (a0 : Array Value) (hw : ∀ d ∈ tables_1, d.before a0 Z = true) (ws : List Jvm.Cond) (b : Addr) (h0 : Heap) (n0 : Nat) (Z0 : n0 ≤ h0.size) (F_names : Fld Z h0 b "com/example/chiffchaff/chiffchaff/OpenElements$Block" "names" "[Lcom/example/chiffchaff/chiffchaff/XmlName;" .null) (F_uris : Fld Z h0 b "com/example/chiffchaff/chiffchaff/OpenElements$Block" "uris" "[Ljava/lang/String;" .null) (F_levels : Fld Z h0 b "com/example/chiffchaff/chiffchaff/OpenElements$Block" "levels" "[I" .null) (F_bindings : Fld Z h0 b "com/example/chiffchaff/chiffchaff/OpenElements$Block" "bindings" "[J" .null) (F_types : Fld Z h0 b "com/example/chiffchaff/chiffchaff/OpenElements$Block" "types" "[Lcom/example/chiffchaff/chiffchaff/ElementType;" .null) (F_states : Fld Z h0 b "com/example/chiffchaff/chiffchaff/OpenElements$Block" "states" "[Ljava/lang/Object;" .null) (E_b : Exa Z h0 b "com/example/chiffchaff/chiffchaff/OpenElements$Block") (g_b : n0 ≤ b) :
    MetFree l (⟨"com/example/chiffchaff/chiffchaff/OpenElements$Block", "<init>", "(I)V"⟩ : MethodName) (head1 (Jvm.Cond.code (⟨"com/example/chiffchaff/chiffchaff/OpenElements$Block", "<init>", "(I)V"⟩ : MethodName) prog_53_method_1_code 2 none :: ws) ({ frames := 1, cells := 4, slots := 64, locals := 12 } : Room)) (fun xs U => xs = #[(.ref b), (.int (16 : Int32))] ∧ Z.Warmed39 U.vm ∧ U.heap = h0) (fun _ _ _ _ _ => True) (fun _ U o U' => ∃ v L, o = .returned v ∧ Q3 Z b h0 n0 v U'.heap L ∧ FrameEnd U o U' L ({ frames := 1, cells := 4, slots := 64, locals := 12 } : Room).cells ({ frames := 1, cells := 4, slots := 64, locals := 12 } : Room).slots) := by
  refine MetFree.of_bodySF (plainFor_of_name pn_com_example_chiffchaff_chiffchaff_OpenElements_Block) hisR ?_
  intro p e s m args below meth c s₁ Bd hml0 hP hK
  obtain ⟨rfl, hZ, hh⟩ := hP
  have hx := Bd.exec
  have hby := Bd.bytes
  have hml : c.maxLocals = 2 := hml0
  have hown : s.vm.findClass "com/example/chiffchaff/chiffchaff/OpenElements$Block" = some m.cls := findClass_of_methodNamed Bd.named
  have hnm := (name_of_methodNamed Bd.named Bd.method).1
  have X0 : Stand p l e ({ frames := 1, cells := 4, slots := 64, locals := 12 } : Room) s m #[(.ref b), (.int (16 : Int32))] below meth c s₁ [] 0 0 := Stand.of_body Bd
  have e0 : s₁.heap = h0 := by rw [← hh, Bd.state]; rfl
  have N0 := Fr.nil n0
  change own_Fin p.tables e below (fun s₂ o => ∃ v L, o = .returned v ∧ Q3 Z b h0 n0 v s₂.heap L ∧ FrameEnd s o s₂ L ({ frames := 1, cells := 4, slots := 64, locals := 12 } : Room).cells ({ frames := 1, cells := 4, slots := 64, locals := 12 } : Room).slots) (s₁.setTop (entryFrame m #[(.ref b), (.int (16 : Int32))] 2))
  refine own_st (fun t k => castTop (show entryFrame m #[(.ref b), (.int (16 : Int32))] 2 = mkF m 0 #[.val (.ref b), .val (.int (16 : Int32))] [] by first | (simp [entryFrame, mkF, argsToLocals, Value.category, maxLocals]; done) | rfl) k) ?_
  show own_Fin p.tables e below _ (s₁.setTop (mkF m 0 #[.val (.ref b), .val (.int (16 : Int32))] []))
  have K0 : Keep h0 h0 [b] := Keep.refl h0 [b]
  refine own_st (fun t k => XS.aloadN X0.here hx rfl (hb hby d3_0) rfl rfl k) ?_
  show own_Fin p.tables e below _ (s₁.setTop (mkF m 1 #[.val (.ref b), .val (.int (16 : Int32))] [(.ref b)]))
  obtain ⟨T1, X1, e1, st1⟩ := initO X0 hx hZ hown (hw _ (List.mem_of_getElem? (i := 16) rfl)) (hw _ (List.mem_of_getElem? (i := 7) rfl)) (hw _ (List.mem_of_getElem? (i := 8) rfl)) e0 (g := (mkF m 1 #[.val (.ref b), .val (.int (16 : Int32))] [(.ref b)])) rfl (by rw [hml]; rfl) rfl (hb hby d3_1) (by decide) (W := 0) (by show 2 * 0 + _ ≤ _; exact Nat.le_of_eq rfl) (by decide)
  refine own_st st1 ?_
  show own_Fin p.tables e below _ (T1.setTop (mkF m 4 #[.val (.ref b), .val (.int (16 : Int32))] []))
  refine own_st (fun t k => XS.aloadN X1.here hx rfl (hb hby d3_4) rfl rfl k) ?_
  show own_Fin p.tables e below _ (T1.setTop (mkF m 5 #[.val (.ref b), .val (.int (16 : Int32))] [(.ref b)]))
  refine own_st (fun t k => XS.iloadN X1.here hx rfl (hb hby d3_5) rfl k) ?_
  show own_Fin p.tables e below _ (T1.setTop (mkF m 6 #[.val (.ref b), .val (.int (16 : Int32))] [(.int (16 : Int32)), (.ref b)]))
  obtain ⟨T2, h2, kc2, X2, e2, E2, A2, O2, st2⟩ := newR X1 hx hZ hown (hw _ (List.mem_of_getElem? (i := 17) rfl)) (hw _ (List.mem_of_getElem? (i := 18) rfl)) e1 (g := (mkF m 6 #[.val (.ref b), .val (.int (16 : Int32))] [(.int (16 : Int32)), (.ref b)])) rfl (hb hby d3_6) rfl (by decide) (cap := 16) (by decide) (by decide) (by decide) (by decide)
  obtain ⟨b2, g2⟩ : ∃ z, z = h0.size := ⟨_, rfl⟩
  have ne_b_b2 : b ≠ b2 := Nat.ne_of_lt (Nat.lt_of_lt_of_le F_names.lt (Nat.le_of_eq g2.symm))
  have g_b2 : n0 ≤ b2 := Nat.le_trans Z0 (Nat.le_of_eq g2.symm)
  have sz_b2 : h0.size ≤ b2 := Nat.le_trans K0.1 (Nat.le_of_eq g2.symm)
  rw [← g2] at A2 st2
  refine own_st st2 ?_
  have F_names'2 := F_names.ext E2
  have F_uris'2 := F_uris.ext E2
  have F_levels'2 := F_levels.ext E2
  have F_bindings'2 := F_bindings.ext E2
  have F_types'2 := F_types.ext E2
  have F_states'2 := F_states.ext E2
  have E_b'2 := E_b.ext E2
  have K0'2 := K0.ext E2
  have Z2 : n0 ≤ h2.size := Nat.le_trans Z0 E2.1
  have OA2 : own_O Z h2 b2 "com/example/chiffchaff/chiffchaff/XmlName" (16 : Int32) := ⟨_, A2, sz_new _ _ _, (by decide), O2⟩
  show own_Fin p.tables e below _ (T2.setTop (mkF m 9 #[.val (.ref b), .val (.int (16 : Int32))] [(.ref b2), (.ref b)]))
  obtain ⟨T3, h3, X3, e3, W3, st3⟩ := putF X2 hx hZ hown (host := "") (Or.inl (hw _ (List.mem_of_getElem? (i := 19) rfl))) Via.refl e2 F_names'2 E_b'2 (Or.inr ⟨(hw _ (List.mem_of_getElem? (i := 20) rfl)), rfl, hnm⟩) (hw _ (List.mem_of_getElem? (i := 11) rfl)) (ty := (.array (.object "com/example/chiffchaff/chiffchaff/XmlName"))) (by decide) rfl rfl (g := (mkF m 9 #[.val (.ref b), .val (.int (16 : Int32))] [(.ref b2), (.ref b)])) rfl rfl (hb hby d3_9)
  refine own_st st3 ?_
  have F_names'3 := F_names'2.same W3
  have F_uris'3 := F_uris'2.other W3 (Or.inr (slot_ne (Or.inr (hw _ (List.mem_of_getElem? (i := 24) rfl))) (Or.inr (hw _ (List.mem_of_getElem? (i := 20) rfl))) (by decide) (t := (.array (.object "java/lang/String"))) (t' := (.array (.object "com/example/chiffchaff/chiffchaff/XmlName"))) (by decide) (by decide)))
  have F_levels'3 := F_levels'2.other W3 (Or.inr (slot_ne (Or.inr (hw _ (List.mem_of_getElem? (i := 27) rfl))) (Or.inr (hw _ (List.mem_of_getElem? (i := 20) rfl))) (by decide) (t := (.array .int)) (t' := (.array (.object "com/example/chiffchaff/chiffchaff/XmlName"))) (by decide) (by decide)))
  have F_bindings'3 := F_bindings'2.other W3 (Or.inr (slot_ne (Or.inr (hw _ (List.mem_of_getElem? (i := 30) rfl))) (Or.inr (hw _ (List.mem_of_getElem? (i := 20) rfl))) (by decide) (t := (.array .long)) (t' := (.array (.object "com/example/chiffchaff/chiffchaff/XmlName"))) (by decide) (by decide)))
  have F_types'3 := F_types'2.other W3 (Or.inr (slot_ne (Or.inl (hw _ (List.mem_of_getElem? (i := 70) rfl))) (Or.inr (hw _ (List.mem_of_getElem? (i := 20) rfl))) (by decide) (t := (.array (.object "com/example/chiffchaff/chiffchaff/ElementType"))) (t' := (.array (.object "com/example/chiffchaff/chiffchaff/XmlName"))) (by decide) (by decide)))
  have F_states'3 := F_states'2.other W3 (Or.inr (slot_ne (Or.inl (hw _ (List.mem_of_getElem? (i := 72) rfl))) (Or.inr (hw _ (List.mem_of_getElem? (i := 20) rfl))) (by decide) (t := (.array (.object "java/lang/Object"))) (t' := (.array (.object "com/example/chiffchaff/chiffchaff/XmlName"))) (by decide) (by decide)))
  have E_b'3 := E_b'2.wr W3
  have K0'3 := K0'2.wr W3 (Or.inl (List.mem_of_getElem? (i := 0) rfl))
  have OA2'3 := OA2.wr W3
  have N3 := Fr.snoc X3 N0 g_b
  have Z3 : n0 ≤ h3.size := by rw [W3.size]; exact Z2
  show own_Fin p.tables e below _ (T3.setTop (mkF m 12 #[.val (.ref b), .val (.int (16 : Int32))] []))
  refine own_st (fun t k => XS.aloadN X3.here hx rfl (hb hby d3_12) rfl rfl k) ?_
  show own_Fin p.tables e below _ (T3.setTop (mkF m 13 #[.val (.ref b), .val (.int (16 : Int32))] [(.ref b)]))
  refine own_st (fun t k => XS.iloadN X3.here hx rfl (hb hby d3_13) rfl k) ?_
  show own_Fin p.tables e below _ (T3.setTop (mkF m 14 #[.val (.ref b), .val (.int (16 : Int32))] [(.int (16 : Int32)), (.ref b)]))
  obtain ⟨T4, h4, kc4, X4, e4, E4, A4, O4, st4⟩ := newR X3 hx hZ hown (hw _ (List.mem_of_getElem? (i := 21) rfl)) (hw _ (List.mem_of_getElem? (i := 22) rfl)) e3 (g := (mkF m 14 #[.val (.ref b), .val (.int (16 : Int32))] [(.int (16 : Int32)), (.ref b)])) rfl (hb hby d3_14) rfl (by decide) (cap := 16) (by decide) (by decide) (by decide) (by decide)
  obtain ⟨b4, g4⟩ : ∃ z, z = h3.size := ⟨_, rfl⟩
  have ne_b_b4 : b ≠ b4 := Nat.ne_of_lt (Nat.lt_of_lt_of_le F_names'3.lt (Nat.le_of_eq g4.symm))
  have ne_b2_b4 : b2 ≠ b4 := Nat.ne_of_lt (Nat.lt_of_lt_of_le OA2'3.lt (Nat.le_of_eq g4.symm))
  have g_b4 : n0 ≤ b4 := Nat.le_trans Z3 (Nat.le_of_eq g4.symm)
  have sz_b4 : h0.size ≤ b4 := Nat.le_trans K0'3.1 (Nat.le_of_eq g4.symm)
  rw [← g4] at A4 st4
  refine own_st st4 ?_
  have F_names'4 := F_names'3.ext E4
  have F_uris'4 := F_uris'3.ext E4
  have F_levels'4 := F_levels'3.ext E4
  have F_bindings'4 := F_bindings'3.ext E4
  have F_types'4 := F_types'3.ext E4
  have F_states'4 := F_states'3.ext E4
  have E_b'4 := E_b'3.ext E4
  have K0'4 := K0'3.ext E4
  have OA2'4 := OA2'3.ext E4
  have Z4 : n0 ≤ h4.size := Nat.le_trans Z3 E4.1
  have OA4 : own_O Z h4 b4 "java/lang/String" (16 : Int32) := ⟨_, A4, sz_new _ _ _, (by decide), O4⟩
  show own_Fin p.tables e below _ (T4.setTop (mkF m 17 #[.val (.ref b), .val (.int (16 : Int32))] [(.ref b4), (.ref b)]))
  obtain ⟨T5, h5, X5, e5, W5, st5⟩ := putF X4 hx hZ hown (host := "") (Or.inl (hw _ (List.mem_of_getElem? (i := 23) rfl))) Via.refl e4 F_uris'4 E_b'4 (Or.inr ⟨(hw _ (List.mem_of_getElem? (i := 24) rfl)), rfl, hnm⟩) (hw _ (List.mem_of_getElem? (i := 11) rfl)) (ty := (.array (.object "java/lang/String"))) (by decide) rfl rfl (g := (mkF m 17 #[.val (.ref b), .val (.int (16 : Int32))] [(.ref b4), (.ref b)])) rfl rfl (hb hby d3_17)
  refine own_st st5 ?_
  have F_names'5 := F_names'4.other W5 (Or.inr (slot_ne (Or.inr (hw _ (List.mem_of_getElem? (i := 20) rfl))) (Or.inr (hw _ (List.mem_of_getElem? (i := 24) rfl))) (by decide) (t := (.array (.object "com/example/chiffchaff/chiffchaff/XmlName"))) (t' := (.array (.object "java/lang/String"))) (by decide) (by decide)))
  have F_uris'5 := F_uris'4.same W5
  have F_levels'5 := F_levels'4.other W5 (Or.inr (slot_ne (Or.inr (hw _ (List.mem_of_getElem? (i := 27) rfl))) (Or.inr (hw _ (List.mem_of_getElem? (i := 24) rfl))) (by decide) (t := (.array .int)) (t' := (.array (.object "java/lang/String"))) (by decide) (by decide)))
  have F_bindings'5 := F_bindings'4.other W5 (Or.inr (slot_ne (Or.inr (hw _ (List.mem_of_getElem? (i := 30) rfl))) (Or.inr (hw _ (List.mem_of_getElem? (i := 24) rfl))) (by decide) (t := (.array .long)) (t' := (.array (.object "java/lang/String"))) (by decide) (by decide)))
  have F_types'5 := F_types'4.other W5 (Or.inr (slot_ne (Or.inl (hw _ (List.mem_of_getElem? (i := 70) rfl))) (Or.inr (hw _ (List.mem_of_getElem? (i := 24) rfl))) (by decide) (t := (.array (.object "com/example/chiffchaff/chiffchaff/ElementType"))) (t' := (.array (.object "java/lang/String"))) (by decide) (by decide)))
  have F_states'5 := F_states'4.other W5 (Or.inr (slot_ne (Or.inl (hw _ (List.mem_of_getElem? (i := 72) rfl))) (Or.inr (hw _ (List.mem_of_getElem? (i := 24) rfl))) (by decide) (t := (.array (.object "java/lang/Object"))) (t' := (.array (.object "java/lang/String"))) (by decide) (by decide)))
  have E_b'5 := E_b'4.wr W5
  have K0'5 := K0'4.wr W5 (Or.inl (List.mem_of_getElem? (i := 0) rfl))
  have OA2'5 := OA2'4.wr W5
  have OA4'5 := OA4.wr W5
  have N5 := Fr.snoc X5 N3 g_b
  have Z5 : n0 ≤ h5.size := by rw [W5.size]; exact Z4
  show own_Fin p.tables e below _ (T5.setTop (mkF m 20 #[.val (.ref b), .val (.int (16 : Int32))] []))
  refine own_st (fun t k => XS.aloadN X5.here hx rfl (hb hby d3_20) rfl rfl k) ?_
  show own_Fin p.tables e below _ (T5.setTop (mkF m 21 #[.val (.ref b), .val (.int (16 : Int32))] [(.ref b)]))
  refine own_st (fun t k => XS.iloadN X5.here hx rfl (hb hby d3_21) rfl k) ?_
  show own_Fin p.tables e below _ (T5.setTop (mkF m 22 #[.val (.ref b), .val (.int (16 : Int32))] [(.int (16 : Int32)), (.ref b)]))
  obtain ⟨T6, h6, kc6, X6, e6, E6, A6, st6⟩ := newP X5 hx hZ (hw _ (List.mem_of_getElem? (i := 25) rfl)) e5 (g := (mkF m 22 #[.val (.ref b), .val (.int (16 : Int32))] [(.int (16 : Int32)), (.ref b)])) rfl (hb hby d3_22) rfl (by decide) (cap := 16) (by decide) (by decide) (by decide) (by decide)
  obtain ⟨b6, g6⟩ : ∃ z, z = h5.size := ⟨_, rfl⟩
  have ne_b_b6 : b ≠ b6 := Nat.ne_of_lt (Nat.lt_of_lt_of_le F_names'5.lt (Nat.le_of_eq g6.symm))
  have ne_b2_b6 : b2 ≠ b6 := Nat.ne_of_lt (Nat.lt_of_lt_of_le OA2'5.lt (Nat.le_of_eq g6.symm))
  have ne_b4_b6 : b4 ≠ b6 := Nat.ne_of_lt (Nat.lt_of_lt_of_le OA4'5.lt (Nat.le_of_eq g6.symm))
  have g_b6 : n0 ≤ b6 := Nat.le_trans Z5 (Nat.le_of_eq g6.symm)
  have sz_b6 : h0.size ≤ b6 := Nat.le_trans K0'5.1 (Nat.le_of_eq g6.symm)
  rw [← g6] at A6 st6
  refine own_st st6 ?_
  have F_names'6 := F_names'5.ext E6
  have F_uris'6 := F_uris'5.ext E6
  have F_levels'6 := F_levels'5.ext E6
  have F_bindings'6 := F_bindings'5.ext E6
  have F_types'6 := F_types'5.ext E6
  have F_states'6 := F_states'5.ext E6
  have E_b'6 := E_b'5.ext E6
  have K0'6 := K0'5.ext E6
  have OA2'6 := OA2'5.ext E6
  have OA4'6 := OA4'5.ext E6
  have Z6 : n0 ≤ h6.size := Nat.le_trans Z5 E6.1
  have AA6 : own_A Z h6 b6 .int (16 : Int32) := ⟨_, A6, sz_new _ _ _, (by decide)⟩
  show own_Fin p.tables e below _ (T6.setTop (mkF m 24 #[.val (.ref b), .val (.int (16 : Int32))] [(.ref b6), (.ref b)]))
  obtain ⟨T7, h7, X7, e7, W7, st7⟩ := putF X6 hx hZ hown (host := "") (Or.inl (hw _ (List.mem_of_getElem? (i := 26) rfl))) Via.refl e6 F_levels'6 E_b'6 (Or.inr ⟨(hw _ (List.mem_of_getElem? (i := 27) rfl)), rfl, hnm⟩) (hw _ (List.mem_of_getElem? (i := 11) rfl)) (ty := (.array .int)) (by decide) rfl rfl (g := (mkF m 24 #[.val (.ref b), .val (.int (16 : Int32))] [(.ref b6), (.ref b)])) rfl rfl (hb hby d3_24)
  refine own_st st7 ?_
  have F_names'7 := F_names'6.other W7 (Or.inr (slot_ne (Or.inr (hw _ (List.mem_of_getElem? (i := 20) rfl))) (Or.inr (hw _ (List.mem_of_getElem? (i := 27) rfl))) (by decide) (t := (.array (.object "com/example/chiffchaff/chiffchaff/XmlName"))) (t' := (.array .int)) (by decide) (by decide)))
  have F_uris'7 := F_uris'6.other W7 (Or.inr (slot_ne (Or.inr (hw _ (List.mem_of_getElem? (i := 24) rfl))) (Or.inr (hw _ (List.mem_of_getElem? (i := 27) rfl))) (by decide) (t := (.array (.object "java/lang/String"))) (t' := (.array .int)) (by decide) (by decide)))
  have F_levels'7 := F_levels'6.same W7
  have F_bindings'7 := F_bindings'6.other W7 (Or.inr (slot_ne (Or.inr (hw _ (List.mem_of_getElem? (i := 30) rfl))) (Or.inr (hw _ (List.mem_of_getElem? (i := 27) rfl))) (by decide) (t := (.array .long)) (t' := (.array .int)) (by decide) (by decide)))
  have F_types'7 := F_types'6.other W7 (Or.inr (slot_ne (Or.inl (hw _ (List.mem_of_getElem? (i := 70) rfl))) (Or.inr (hw _ (List.mem_of_getElem? (i := 27) rfl))) (by decide) (t := (.array (.object "com/example/chiffchaff/chiffchaff/ElementType"))) (t' := (.array .int)) (by decide) (by decide)))
  have F_states'7 := F_states'6.other W7 (Or.inr (slot_ne (Or.inl (hw _ (List.mem_of_getElem? (i := 72) rfl))) (Or.inr (hw _ (List.mem_of_getElem? (i := 27) rfl))) (by decide) (t := (.array (.object "java/lang/Object"))) (t' := (.array .int)) (by decide) (by decide)))
  have E_b'7 := E_b'6.wr W7
  have K0'7 := K0'6.wr W7 (Or.inl (List.mem_of_getElem? (i := 0) rfl))
  have OA2'7 := OA2'6.wr W7
  have OA4'7 := OA4'6.wr W7
  have AA6'7 := AA6.wr W7
  have N7 := Fr.snoc X7 N5 g_b
  have Z7 : n0 ≤ h7.size := by rw [W7.size]; exact Z6
  show own_Fin p.tables e below _ (T7.setTop (mkF m 27 #[.val (.ref b), .val (.int (16 : Int32))] []))
  refine own_st (fun t k => XS.aloadN X7.here hx rfl (hb hby d3_27) rfl rfl k) ?_
  show own_Fin p.tables e below _ (T7.setTop (mkF m 28 #[.val (.ref b), .val (.int (16 : Int32))] [(.ref b)]))
  refine own_st (fun t k => XS.iloadN X7.here hx rfl (hb hby d3_28) rfl k) ?_
  show own_Fin p.tables e below _ (T7.setTop (mkF m 29 #[.val (.ref b), .val (.int (16 : Int32))] [(.int (16 : Int32)), (.ref b)]))
  obtain ⟨T8, h8, kc8, X8, e8, E8, A8, st8⟩ := newP X7 hx hZ (hw _ (List.mem_of_getElem? (i := 28) rfl)) e7 (g := (mkF m 29 #[.val (.ref b), .val (.int (16 : Int32))] [(.int (16 : Int32)), (.ref b)])) rfl (hb hby d3_29) rfl (by decide) (cap := 16) (by decide) (by decide) (by decide) (by decide)
  obtain ⟨b8, g8⟩ : ∃ z, z = h7.size := ⟨_, rfl⟩
  have ne_b_b8 : b ≠ b8 := Nat.ne_of_lt (Nat.lt_of_lt_of_le F_names'7.lt (Nat.le_of_eq g8.symm))
  have ne_b2_b8 : b2 ≠ b8 := Nat.ne_of_lt (Nat.lt_of_lt_of_le OA2'7.lt (Nat.le_of_eq g8.symm))
  have ne_b4_b8 : b4 ≠ b8 := Nat.ne_of_lt (Nat.lt_of_lt_of_le OA4'7.lt (Nat.le_of_eq g8.symm))
  have ne_b6_b8 : b6 ≠ b8 := Nat.ne_of_lt (Nat.lt_of_lt_of_le AA6'7.lt (Nat.le_of_eq g8.symm))
  have g_b8 : n0 ≤ b8 := Nat.le_trans Z7 (Nat.le_of_eq g8.symm)
  have sz_b8 : h0.size ≤ b8 := Nat.le_trans K0'7.1 (Nat.le_of_eq g8.symm)
  rw [← g8] at A8 st8
  refine own_st st8 ?_
  have F_names'8 := F_names'7.ext E8
  have F_uris'8 := F_uris'7.ext E8
  have F_levels'8 := F_levels'7.ext E8
  have F_bindings'8 := F_bindings'7.ext E8
  have F_types'8 := F_types'7.ext E8
  have F_states'8 := F_states'7.ext E8
  have E_b'8 := E_b'7.ext E8
  have K0'8 := K0'7.ext E8
  have OA2'8 := OA2'7.ext E8
  have OA4'8 := OA4'7.ext E8
  have AA6'8 := AA6'7.ext E8
  have Z8 : n0 ≤ h8.size := Nat.le_trans Z7 E8.1
  have AA8 : own_A Z h8 b8 .long (16 : Int32) := ⟨_, A8, sz_new _ _ _, (by decide)⟩
  show own_Fin p.tables e below _ (T8.setTop (mkF m 31 #[.val (.ref b), .val (.int (16 : Int32))] [(.ref b8), (.ref b)]))
  obtain ⟨T9, h9, X9, e9, W9, st9⟩ := putF X8 hx hZ hown (host := "") (Or.inl (hw _ (List.mem_of_getElem? (i := 29) rfl))) Via.refl e8 F_bindings'8 E_b'8 (Or.inr ⟨(hw _ (List.mem_of_getElem? (i := 30) rfl)), rfl, hnm⟩) (hw _ (List.mem_of_getElem? (i := 11) rfl)) (ty := (.array .long)) (by decide) rfl rfl (g := (mkF m 31 #[.val (.ref b), .val (.int (16 : Int32))] [(.ref b8), (.ref b)])) rfl rfl (hb hby d3_31)
  refine own_st st9 ?_
  have F_names'9 := F_names'8.other W9 (Or.inr (slot_ne (Or.inr (hw _ (List.mem_of_getElem? (i := 20) rfl))) (Or.inr (hw _ (List.mem_of_getElem? (i := 30) rfl))) (by decide) (t := (.array (.object "com/example/chiffchaff/chiffchaff/XmlName"))) (t' := (.array .long)) (by decide) (by decide)))
  have F_uris'9 := F_uris'8.other W9 (Or.inr (slot_ne (Or.inr (hw _ (List.mem_of_getElem? (i := 24) rfl))) (Or.inr (hw _ (List.mem_of_getElem? (i := 30) rfl))) (by decide) (t := (.array (.object "java/lang/String"))) (t' := (.array .long)) (by decide) (by decide)))
  have F_levels'9 := F_levels'8.other W9 (Or.inr (slot_ne (Or.inr (hw _ (List.mem_of_getElem? (i := 27) rfl))) (Or.inr (hw _ (List.mem_of_getElem? (i := 30) rfl))) (by decide) (t := (.array .int)) (t' := (.array .long)) (by decide) (by decide)))
  have F_bindings'9 := F_bindings'8.same W9
  have F_types'9 := F_types'8.other W9 (Or.inr (slot_ne (Or.inl (hw _ (List.mem_of_getElem? (i := 70) rfl))) (Or.inr (hw _ (List.mem_of_getElem? (i := 30) rfl))) (by decide) (t := (.array (.object "com/example/chiffchaff/chiffchaff/ElementType"))) (t' := (.array .long)) (by decide) (by decide)))
  have F_states'9 := F_states'8.other W9 (Or.inr (slot_ne (Or.inl (hw _ (List.mem_of_getElem? (i := 72) rfl))) (Or.inr (hw _ (List.mem_of_getElem? (i := 30) rfl))) (by decide) (t := (.array (.object "java/lang/Object"))) (t' := (.array .long)) (by decide) (by decide)))
  have E_b'9 := E_b'8.wr W9
  have K0'9 := K0'8.wr W9 (Or.inl (List.mem_of_getElem? (i := 0) rfl))
  have OA2'9 := OA2'8.wr W9
  have OA4'9 := OA4'8.wr W9
  have AA6'9 := AA6'8.wr W9
  have AA8'9 := AA8.wr W9
  have N9 := Fr.snoc X9 N7 g_b
  have Z9 : n0 ≤ h9.size := by rw [W9.size]; exact Z8
  show own_Fin p.tables e below _ (T9.setTop (mkF m 34 #[.val (.ref b), .val (.int (16 : Int32))] []))
  obtain ⟨fs, hr, hrun, hended, hW, hsame⟩ := X9.leave (v := none) (fun _ => rfl)
  refine ⟨_, _, X9.returnOut hx Bd.returns (hb hby d3_34) hr, hrun, hended, _, _, rfl, ?_, ⟨_, rfl⟩, hW, hsame.mono (by decide) (by decide)⟩
  show Q3 Z b h0 n0 _ T9.heap _
  rw [e9]
  exact ⟨rfl, N9, K0'9, b2, b4, b6, b8, F_names'9, F_uris'9, F_levels'9, F_bindings'9, F_types'9, F_states'9, OA2'9, OA4'9, AA6'9, AA8'9, g_b2, g_b4, g_b6, g_b8⟩
def Q1 (Z : State) (a : Addr) (h0 : Heap) (n0 : Nat) (v : Option Value) (h : Heap) (L : List Loc) : Prop := v = none ∧ Fr n0 L ∧ Old Z n0 h ∧ ∃ b bl nm ur lv bd kB, own_OE Z h n0 a b bl nm ur lv bd kB .null 0
set_option maxRecDepth 65536 in
set_option maxHeartbeats 40000000 in
theorem rm1 (l : Launch) (Z : State) (a0 : Array Value) (hw : ∀ d ∈ tables_1, d.before a0 Z = true) (ws : List Jvm.Cond) (a : Addr) (h0 : Heap) (n0 : Nat) (Z0 : n0 ≤ h0.size) (F_blocks : Fld Z h0 a "com/example/chiffchaff/chiffchaff/OpenElements" "blocks" "[Lcom/example/chiffchaff/chiffchaff/OpenElements$Block;" .null) (F_top : Fld Z h0 a "com/example/chiffchaff/chiffchaff/OpenElements" "top" "Lcom/example/chiffchaff/chiffchaff/OpenElements$Block;" .null) (F_topAt : Fld Z h0 a "com/example/chiffchaff/chiffchaff/OpenElements" "topAt" "I" (.int (0 : Int32))) (F_depth : Fld Z h0 a "com/example/chiffchaff/chiffchaff/OpenElements" "depth" "I" (.int (0 : Int32))) (E_a : Exa Z h0 a "com/example/chiffchaff/chiffchaff/OpenElements") (g_a : n0 ≤ a) (O0 : Old Z n0 h0) :
    MetFree l (⟨"com/example/chiffchaff/chiffchaff/OpenElements", "<init>", "()V"⟩ : MethodName) (head1 (Jvm.Cond.code (⟨"com/example/chiffchaff/chiffchaff/OpenElements", "<init>", "()V"⟩ : MethodName) prog_52_method_1_code 1 none :: ws) ({ frames := 2, cells := 6, slots := 71, locals := 40 } : Room)) (fun xs U => xs = #[(.ref a)] ∧ Z.Warmed39 U.vm ∧ U.heap = h0) (fun _ _ _ _ _ => True) (fun _ U o U' => ∃ v L, o = .returned v ∧ Q1 Z a h0 n0 v U'.heap L ∧ FrameEnd U o U' L ({ frames := 2, cells := 6, slots := 71, locals := 40 } : Room).cells ({ frames := 2, cells := 6, slots := 71, locals := 40 } : Room).slots) := by
  refine MetFree.of_bodySF (plainFor_of_name pn_com_example_chiffchaff_chiffchaff_OpenElements) hisR ?_
  intro p e s m args below meth c s₁ Bd hml0 hP hK
  obtain ⟨rfl, hZ, hh⟩ := hP
  have hx := Bd.exec
  have hby := Bd.bytes
  have hml : c.maxLocals = 1 := hml0
  have hown : s.vm.findClass "com/example/chiffchaff/chiffchaff/OpenElements" = some m.cls := findClass_of_methodNamed Bd.named
  have hnm := (name_of_methodNamed Bd.named Bd.method).1
  have X0 : Stand p l e ({ frames := 2, cells := 6, slots := 71, locals := 40 } : Room) s m #[(.ref a)] below meth c s₁ [] 0 0 := Stand.of_body Bd
  have e0 : s₁.heap = h0 := by rw [← hh, Bd.state]; rfl
  have N0 := Fr.nil n0
  change own_Fin p.tables e below (fun s₂ o => ∃ v L, o = .returned v ∧ Q1 Z a h0 n0 v s₂.heap L ∧ FrameEnd s o s₂ L ({ frames := 2, cells := 6, slots := 71, locals := 40 } : Room).cells ({ frames := 2, cells := 6, slots := 71, locals := 40 } : Room).slots) (s₁.setTop (entryFrame m #[(.ref a)] 1))
  refine own_st (fun t k => castTop (show entryFrame m #[(.ref a)] 1 = mkF m 0 #[.val (.ref a)] [] by first | (simp [entryFrame, mkF, argsToLocals, Value.category, maxLocals]; done) | rfl) k) ?_
  show own_Fin p.tables e below _ (s₁.setTop (mkF m 0 #[.val (.ref a)] []))
  refine own_st (fun t k => XS.aloadN X0.here hx rfl (hb hby d1_0) rfl rfl k) ?_
  show own_Fin p.tables e below _ (s₁.setTop (mkF m 1 #[.val (.ref a)] [(.ref a)]))
  obtain ⟨T1, X1, e1, st1⟩ := initO X0 hx hZ hown (hw _ (List.mem_of_getElem? (i := 6) rfl)) (hw _ (List.mem_of_getElem? (i := 7) rfl)) (hw _ (List.mem_of_getElem? (i := 8) rfl)) e0 (g := (mkF m 1 #[.val (.ref a)] [(.ref a)])) rfl (by rw [hml]; rfl) rfl (hb hby d1_1) (by decide) (W := 0) (by show 2 * 0 + _ ≤ _; exact Nat.le_of_eq rfl) (by decide)
  refine own_st st1 ?_
  show own_Fin p.tables e below _ (T1.setTop (mkF m 4 #[.val (.ref a)] []))
  refine own_st (fun t k => XS.aloadN X1.here hx rfl (hb hby d1_4) rfl rfl k) ?_
  show own_Fin p.tables e below _ (T1.setTop (mkF m 5 #[.val (.ref a)] [(.ref a)]))
  refine own_st (fun t k => XS.iconst X1.here hx rfl (hb hby d1_5) k) ?_
  show own_Fin p.tables e below _ (T1.setTop (mkF m 6 #[.val (.ref a)] [(.int (1 : Int32)), (.ref a)]))
  obtain ⟨T2, h2, kc2, X2, e2, E2, A2, O2, st2⟩ := newR X1 hx hZ hown (hw _ (List.mem_of_getElem? (i := 9) rfl)) (hw _ (List.mem_of_getElem? (i := 10) rfl)) e1 (g := (mkF m 6 #[.val (.ref a)] [(.int (1 : Int32)), (.ref a)])) rfl (hb hby d1_6) rfl (by decide) (cap := 1) (by decide) (by decide) (by decide) (by decide)
  obtain ⟨b2, g2⟩ : ∃ z, z = h0.size := ⟨_, rfl⟩
  have ne_a_b2 : a ≠ b2 := Nat.ne_of_lt (Nat.lt_of_lt_of_le F_blocks.lt (Nat.le_of_eq g2.symm))
  have g_b2 : n0 ≤ b2 := Nat.le_trans Z0 (Nat.le_of_eq g2.symm)
  rw [← g2] at A2 st2
  refine own_st st2 ?_
  have F_blocks'2 := F_blocks.ext E2
  have F_top'2 := F_top.ext E2
  have F_topAt'2 := F_topAt.ext E2
  have F_depth'2 := F_depth.ext E2
  have E_a'2 := E_a.ext E2
  have O0'2 := O0.ext E2
  have Z2 : n0 ≤ h2.size := Nat.le_trans Z0 E2.1
  have OA2 : own_O Z h2 b2 "com/example/chiffchaff/chiffchaff/OpenElements$Block" (1 : Int32) := ⟨_, A2, sz_new _ _ _, (by decide), O2⟩
  show own_Fin p.tables e below _ (T2.setTop (mkF m 9 #[.val (.ref a)] [(.ref b2), (.ref a)]))
  have V2 := (Arv.new A2 (by decide)).pad (pad_rep [] .null 1)
  refine own_st (fun t k => XS.dup X2.here hx rfl (hb hby d1_9) rfl rfl k) ?_
  show own_Fin p.tables e below _ (T2.setTop (mkF m 10 #[.val (.ref a)] [(.ref b2), (.ref b2), (.ref a)]))
  refine own_st (fun t k => XS.iconst X2.here hx rfl (hb hby d1_10) k) ?_
  show own_Fin p.tables e below _ (T2.setTop (mkF m 11 #[.val (.ref a)] [(.int (0 : Int32)), (.ref b2), (.ref b2), (.ref a)]))
  obtain ⟨T3, h3, X3, e3, E3, A3, D3, U3, st3⟩ := newO X2 hx hZ hown (hw _ (List.mem_of_getElem? (i := 9) rfl)) (hw _ (List.mem_of_getElem? (i := 11) rfl)) (hw _ (List.mem_of_getElem? (i := 12) rfl)) e2 (g := (mkF m 11 #[.val (.ref a)] [(.int (0 : Int32)), (.ref b2), (.ref b2), (.ref a)])) rfl (hb hby d1_11) (by decide) (by decide)
  obtain ⟨b3, g3⟩ : ∃ z, z = h2.size := ⟨_, rfl⟩
  have ne_a_b3 : a ≠ b3 := Nat.ne_of_lt (Nat.lt_of_lt_of_le F_blocks'2.lt (Nat.le_of_eq g3.symm))
  have ne_b2_b3 : b2 ≠ b3 := Nat.ne_of_lt (Nat.lt_of_lt_of_le OA2.lt (Nat.le_of_eq g3.symm))
  have g_b3 : n0 ≤ b3 := Nat.le_trans Z2 (Nat.le_of_eq g3.symm)
  rw [← g3] at A3 D3 U3 st3
  refine own_st st3 ?_
  have F_blocks'3 := F_blocks'2.ext E3
  have F_top'3 := F_top'2.ext E3
  have F_topAt'3 := F_topAt'2.ext E3
  have F_depth'3 := F_depth'2.ext E3
  have E_a'3 := E_a'2.ext E3
  have O0'3 := O0'2.ext E3
  have OA2'3 := OA2.ext E3
  have V2'3 := V2.ext E3
  have Z3 : n0 ≤ h3.size := Nat.le_trans Z2 E3.1
  have F_names_b3 : Fld Z h3 b3 "com/example/chiffchaff/chiffchaff/OpenElements$Block" "names" "[Lcom/example/chiffchaff/chiffchaff/XmlName;" .null := D3 (Or.inr (hw _ (List.mem_of_getElem? (i := 20) rfl))) (ty := (.array (.object "com/example/chiffchaff/chiffchaff/XmlName"))) (by decide)
  have F_uris_b3 : Fld Z h3 b3 "com/example/chiffchaff/chiffchaff/OpenElements$Block" "uris" "[Ljava/lang/String;" .null := D3 (Or.inr (hw _ (List.mem_of_getElem? (i := 24) rfl))) (ty := (.array (.object "java/lang/String"))) (by decide)
  have F_levels_b3 : Fld Z h3 b3 "com/example/chiffchaff/chiffchaff/OpenElements$Block" "levels" "[I" .null := D3 (Or.inr (hw _ (List.mem_of_getElem? (i := 27) rfl))) (ty := (.array .int)) (by decide)
  have F_bindings_b3 : Fld Z h3 b3 "com/example/chiffchaff/chiffchaff/OpenElements$Block" "bindings" "[J" .null := D3 (Or.inr (hw _ (List.mem_of_getElem? (i := 30) rfl))) (ty := (.array .long)) (by decide)
  have F_types_b3 : Fld Z h3 b3 "com/example/chiffchaff/chiffchaff/OpenElements$Block" "types" "[Lcom/example/chiffchaff/chiffchaff/ElementType;" .null := D3 (Or.inl (hw _ (List.mem_of_getElem? (i := 70) rfl))) (ty := (.array (.object "com/example/chiffchaff/chiffchaff/ElementType"))) (by decide)
  have F_states_b3 : Fld Z h3 b3 "com/example/chiffchaff/chiffchaff/OpenElements$Block" "states" "[Ljava/lang/Object;" .null := D3 (Or.inl (hw _ (List.mem_of_getElem? (i := 72) rfl))) (ty := (.array (.object "java/lang/Object"))) (by decide)
  show own_Fin p.tables e below _ (T3.setTop (mkF m 14 #[.val (.ref a)] [(.ref b3), (.int (0 : Int32)), (.ref b2), (.ref b2), (.ref a)]))
  refine own_st (fun t k => XS.dup X3.here hx rfl (hb hby d1_14) rfl rfl k) ?_
  show own_Fin p.tables e below _ (T3.setTop (mkF m 15 #[.val (.ref a)] [(.ref b3), (.ref b3), (.int (0 : Int32)), (.ref b2), (.ref b2), (.ref a)]))
  refine own_st (fun t k => XS.bipush X3.here hx rfl (hb hby d1_15) k) ?_
  show own_Fin p.tables e below _ (T3.setTop (mkF m 17 #[.val (.ref a)] [(.int (16 : Int32)), (.ref b3), (.ref b3), (.int (0 : Int32)), (.ref b2), (.ref b2), (.ref a)]))
  obtain ⟨_, ⟨T4, L4, k4, n4⟩, X4, ⟨Lc4, hQ4, l4, y4, z4⟩, st4⟩ := own_specR X3 hx hZ (y := (⟨"com/example/chiffchaff/chiffchaff/OpenElements$Block", "<init>", "(I)V"⟩ : MethodName)) rfl hown (hw _ (List.mem_of_getElem? (i := 13) rfl)) (hw _ (List.mem_of_getElem? (i := 14) rfl)) (hw _ (List.mem_of_getElem? (i := 15) rfl)) (by decide) (backOf (W := 5) (rm3 l Z a0 hw [] b3 h3 n0 Z3 F_names_b3 F_uris_b3 F_levels_b3 F_bindings_b3 F_types_b3 F_states_b3 A3 g_b3) hZ (hw _ (List.mem_of_getElem? (i := 15) rfl)) (hw _ (List.mem_of_getElem? (i := 12) rfl)) (by decide) (by decide)) (g := (mkF m 17 #[.val (.ref a)] [(.int (16 : Int32)), (.ref b3), (.ref b3), (.int (0 : Int32)), (.ref b2), (.ref b2), (.ref a)])) rfl (by rw [hml]; rfl) (a := b3) (argsL := [(.int (16 : Int32))]) (rest := [(.ref b3), (.int (0 : Int32)), (.ref b2), (.ref b2), (.ref a)]) (lenOf pd__I_V rfl) rfl (by show 2 * 0 + _ ≤ _; exact Nat.le_of_eq rfl) (hb hby d1_17) (⟨rfl, e3, (by decide : 2 + 4 ≤ _), (by decide : 7 + 64 ≤ _)⟩)
  dsimp only [Pt.U, Pt.locs, Pt.cells, Pt.slots] at X4 l4 y4 z4 st4 hQ4
  subst l4 y4 z4
  obtain ⟨rfl, N4, K4, nm4, ur4, lv4, bd4, Fnm4, Fur4, Flv4, Fbd4, Fty4, Fst4, Onm4, Our4, Alv4, Abd4, g_nm4, g_ur4, g_lv4, g_bd4⟩ := hQ4
  refine own_st (fun t k => st4.trans k) ?_
  have F_blocks'4 := F_blocks'3.keep K4 (ninS ne_a_b3 nin0)
  have F_top'4 := F_top'3.keep K4 (ninS ne_a_b3 nin0)
  have F_topAt'4 := F_topAt'3.keep K4 (ninS ne_a_b3 nin0)
  have F_depth'4 := F_depth'3.keep K4 (ninS ne_a_b3 nin0)
  have E_a'4 := E_a'3.keep K4
  have O0'4 := O0'3.keep K4 (allS g_b3 all0)
  have OA2'4 := OA2'3.keep K4
  have V2'4 := V2'3.keep K4 (ninS ne_b2_b3 nin0)
  have A3'4 := A3.keep K4
  have Z4 : n0 ≤ T4.heap.size := Nat.le_trans Z3 K4.1
  have N4a := Fr.app N0 N4
  show own_Fin p.tables e below _ (T4.setTop (mkF m 20 #[.val (.ref a)] [(.ref b3), (.int (0 : Int32)), (.ref b2), (.ref b2), (.ref a)]))
  obtain ⟨cl5, Ar5, q5, S5, N_5, H5, G5⟩ := V2'4
  have hin5 : ¬ ((0 : Int32) < 0 ∨ cl5.slots.size ≤ (0 : Int32).toNatClampNeg) := inb_of S5 ⟨by decide, by decide⟩
  obtain ⟨T5, h5, X5, e5, W5, st5⟩ := stR X4 hx hZ rfl Ar5 (j := (0 : Int32)) hin5 rfl (Sto.ofV Ar5 q5 O2 (Ins.self A3'4)) (g := (mkF m 20 #[.val (.ref a)] [(.ref b3), (.int (0 : Int32)), (.ref b2), (.ref b2), (.ref a)])) rfl rfl (hb hby d1_20)
  have Vn5 := Arv.set Ar5 q5 S5 N_5 H5 G5 (v := .ref b3) rfl W5 0 rfl (Nat.le_of_ble_eq_true rfl)
  refine own_st st5 ?_
  have F_blocks'5 := F_blocks'4.other W5 (Or.inl ne_a_b2)
  have F_top'5 := F_top'4.other W5 (Or.inl ne_a_b2)
  have F_topAt'5 := F_topAt'4.other W5 (Or.inl ne_a_b2)
  have F_depth'5 := F_depth'4.other W5 (Or.inl ne_a_b2)
  have E_a'5 := E_a'4.wr W5
  have O0'5 := O0'4.wr W5 g_b2
  have A3'5 := A3'4.wr W5
  have Fnm4'5 := Fnm4.other W5 (Or.inl (Ne.symm ne_b2_b3))
  have Fur4'5 := Fur4.other W5 (Or.inl (Ne.symm ne_b2_b3))
  have Flv4'5 := Flv4.other W5 (Or.inl (Ne.symm ne_b2_b3))
  have Fbd4'5 := Fbd4.other W5 (Or.inl (Ne.symm ne_b2_b3))
  have Fty4'5 := Fty4.other W5 (Or.inl (Ne.symm ne_b2_b3))
  have Fst4'5 := Fst4.other W5 (Or.inl (Ne.symm ne_b2_b3))
  have Onm4'5 := Onm4.wr W5
  have Our4'5 := Our4.wr W5
  have Alv4'5 := Alv4.wr W5
  have Abd4'5 := Abd4.wr W5
  have N5 := Fr.snoc X5 N4a g_b2
  have Z5 : n0 ≤ h5.size := by rw [W5.size]; exact Z4
  show own_Fin p.tables e below _ (T5.setTop (mkF m 21 #[.val (.ref a)] [(.ref b2), (.ref a)]))
  obtain ⟨T6, h6, X6, e6, W6, st6⟩ := putF X5 hx hZ hown (host := "") (Or.inl (hw _ (List.mem_of_getElem? (i := 32) rfl))) Via.refl e5 F_blocks'5 E_a'5 (Or.inl (hw _ (List.mem_of_getElem? (i := 33) rfl))) (hw _ (List.mem_of_getElem? (i := 1) rfl)) (ty := (.array (.object "com/example/chiffchaff/chiffchaff/OpenElements$Block"))) (by decide) rfl rfl (g := (mkF m 21 #[.val (.ref a)] [(.ref b2), (.ref a)])) rfl rfl (hb hby d1_21)
  refine own_st st6 ?_
  have F_blocks'6 := F_blocks'5.same W6
  have F_top'6 := F_top'5.other W6 (Or.inr (slot_ne (Or.inl (hw _ (List.mem_of_getElem? (i := 35) rfl))) (Or.inl (hw _ (List.mem_of_getElem? (i := 33) rfl))) (by decide) (t := (.object "com/example/chiffchaff/chiffchaff/OpenElements$Block")) (t' := (.array (.object "com/example/chiffchaff/chiffchaff/OpenElements$Block"))) (by decide) (by decide)))
  have F_topAt'6 := F_topAt'5.other W6 (Or.inr (slot_ne (Or.inl (hw _ (List.mem_of_getElem? (i := 37) rfl))) (Or.inl (hw _ (List.mem_of_getElem? (i := 33) rfl))) (by decide) (t := .int) (t' := (.array (.object "com/example/chiffchaff/chiffchaff/OpenElements$Block"))) (by decide) (by decide)))
  have F_depth'6 := F_depth'5.other W6 (Or.inr (slot_ne (Or.inl (hw _ (List.mem_of_getElem? (i := 57) rfl))) (Or.inl (hw _ (List.mem_of_getElem? (i := 33) rfl))) (by decide) (t := .int) (t' := (.array (.object "com/example/chiffchaff/chiffchaff/OpenElements$Block"))) (by decide) (by decide)))
  have E_a'6 := E_a'5.wr W6
  have O0'6 := O0'5.wr W6 g_a
  have A3'6 := A3'5.wr W6
  have Fnm4'6 := Fnm4'5.other W6 (Or.inl (Ne.symm ne_a_b3))
  have Fur4'6 := Fur4'5.other W6 (Or.inl (Ne.symm ne_a_b3))
  have Flv4'6 := Flv4'5.other W6 (Or.inl (Ne.symm ne_a_b3))
  have Fbd4'6 := Fbd4'5.other W6 (Or.inl (Ne.symm ne_a_b3))
  have Fty4'6 := Fty4'5.other W6 (Or.inl (Ne.symm ne_a_b3))
  have Fst4'6 := Fst4'5.other W6 (Or.inl (Ne.symm ne_a_b3))
  have Onm4'6 := Onm4'5.wr W6
  have Our4'6 := Our4'5.wr W6
  have Alv4'6 := Alv4'5.wr W6
  have Abd4'6 := Abd4'5.wr W6
  have Vn5'6 := Vn5.other W6 (Ne.symm ne_a_b2)
  have N6 := Fr.snoc X6 N5 g_a
  have Z6 : n0 ≤ h6.size := by rw [W6.size]; exact Z5
  show own_Fin p.tables e below _ (T6.setTop (mkF m 24 #[.val (.ref a)] []))
  refine own_st (fun t k => XS.aloadN X6.here hx rfl (hb hby d1_24) rfl rfl k) ?_
  show own_Fin p.tables e below _ (T6.setTop (mkF m 25 #[.val (.ref a)] [(.ref a)]))
  refine own_st (fun t k => XS.aloadN X6.here hx rfl (hb hby d1_25) rfl rfl k) ?_
  show own_Fin p.tables e below _ (T6.setTop (mkF m 26 #[.val (.ref a)] [(.ref a), (.ref a)]))
  obtain ⟨T7, X7, e7, st7⟩ := getF X6 hx hZ hown (host := "") (Or.inl (hw _ (List.mem_of_getElem? (i := 32) rfl))) Via.refl e6 F_blocks'6 (g := (mkF m 26 #[.val (.ref a)] [(.ref a), (.ref a)])) rfl rfl (hb hby d1_26)
  refine own_st st7 ?_
  show own_Fin p.tables e below _ (T7.setTop (mkF m 29 #[.val (.ref a)] [(.ref b2), (.ref a)]))
  refine own_st (fun t k => XS.iconst X7.here hx rfl (hb hby d1_29) k) ?_
  show own_Fin p.tables e below _ (T7.setTop (mkF m 30 #[.val (.ref a)] [(.int (0 : Int32)), (.ref b2), (.ref a)]))
  refine own_st (fun t k => own_aald X7 hx hZ e7 Vn5'6 rfl (j := (0 : Int32)) ⟨by decide, by decide⟩ (v := (.ref b3)) rfl (g := (mkF m 30 #[.val (.ref a)] [(.int (0 : Int32)), (.ref b2), (.ref a)])) rfl rfl (hb hby d1_30) t k) ?_
  show own_Fin p.tables e below _ (T7.setTop (mkF m 31 #[.val (.ref a)] [(.ref b3), (.ref a)]))
  obtain ⟨T8, h8, X8, e8, W8, st8⟩ := putF X7 hx hZ hown (host := "") (Or.inl (hw _ (List.mem_of_getElem? (i := 34) rfl))) Via.refl e7 F_top'6 E_a'6 (Or.inl (hw _ (List.mem_of_getElem? (i := 35) rfl))) (hw _ (List.mem_of_getElem? (i := 1) rfl)) (ty := (.object "com/example/chiffchaff/chiffchaff/OpenElements$Block")) (by decide) rfl rfl (g := (mkF m 31 #[.val (.ref a)] [(.ref b3), (.ref a)])) rfl rfl (hb hby d1_31)
  refine own_st st8 ?_
  have F_blocks'8 := F_blocks'6.other W8 (Or.inr (slot_ne (Or.inl (hw _ (List.mem_of_getElem? (i := 33) rfl))) (Or.inl (hw _ (List.mem_of_getElem? (i := 35) rfl))) (by decide) (t := (.array (.object "com/example/chiffchaff/chiffchaff/OpenElements$Block"))) (t' := (.object "com/example/chiffchaff/chiffchaff/OpenElements$Block")) (by decide) (by decide)))
  have F_top'8 := F_top'6.same W8
  have F_topAt'8 := F_topAt'6.other W8 (Or.inr (slot_ne (Or.inl (hw _ (List.mem_of_getElem? (i := 37) rfl))) (Or.inl (hw _ (List.mem_of_getElem? (i := 35) rfl))) (by decide) (t := .int) (t' := (.object "com/example/chiffchaff/chiffchaff/OpenElements$Block")) (by decide) (by decide)))
  have F_depth'8 := F_depth'6.other W8 (Or.inr (slot_ne (Or.inl (hw _ (List.mem_of_getElem? (i := 57) rfl))) (Or.inl (hw _ (List.mem_of_getElem? (i := 35) rfl))) (by decide) (t := .int) (t' := (.object "com/example/chiffchaff/chiffchaff/OpenElements$Block")) (by decide) (by decide)))
  have E_a'8 := E_a'6.wr W8
  have O0'8 := O0'6.wr W8 g_a
  have A3'8 := A3'6.wr W8
  have Fnm4'8 := Fnm4'6.other W8 (Or.inl (Ne.symm ne_a_b3))
  have Fur4'8 := Fur4'6.other W8 (Or.inl (Ne.symm ne_a_b3))
  have Flv4'8 := Flv4'6.other W8 (Or.inl (Ne.symm ne_a_b3))
  have Fbd4'8 := Fbd4'6.other W8 (Or.inl (Ne.symm ne_a_b3))
  have Fty4'8 := Fty4'6.other W8 (Or.inl (Ne.symm ne_a_b3))
  have Fst4'8 := Fst4'6.other W8 (Or.inl (Ne.symm ne_a_b3))
  have Onm4'8 := Onm4'6.wr W8
  have Our4'8 := Our4'6.wr W8
  have Alv4'8 := Alv4'6.wr W8
  have Abd4'8 := Abd4'6.wr W8
  have Vn5'8 := Vn5'6.other W8 (Ne.symm ne_a_b2)
  have N8 := Fr.snoc X8 N6 g_a
  have Z8 : n0 ≤ h8.size := by rw [W8.size]; exact Z6
  show own_Fin p.tables e below _ (T8.setTop (mkF m 34 #[.val (.ref a)] []))
  refine own_st (fun t k => XS.aloadN X8.here hx rfl (hb hby d1_34) rfl rfl k) ?_
  show own_Fin p.tables e below _ (T8.setTop (mkF m 35 #[.val (.ref a)] [(.ref a)]))
  refine own_st (fun t k => XS.iconst X8.here hx rfl (hb hby d1_35) k) ?_
  show own_Fin p.tables e below _ (T8.setTop (mkF m 36 #[.val (.ref a)] [(.int (-1 : Int32)), (.ref a)]))
  obtain ⟨T9, h9, X9, e9, W9, st9⟩ := putF X8 hx hZ hown (host := "") (Or.inl (hw _ (List.mem_of_getElem? (i := 36) rfl))) Via.refl e8 F_topAt'8 E_a'8 (Or.inl (hw _ (List.mem_of_getElem? (i := 37) rfl))) (hw _ (List.mem_of_getElem? (i := 1) rfl)) (ty := .int) (by decide) rfl rfl (g := (mkF m 36 #[.val (.ref a)] [(.int (-1 : Int32)), (.ref a)])) rfl rfl (hb hby d1_36)
  refine own_st st9 ?_
  have F_blocks'9 := F_blocks'8.other W9 (Or.inr (slot_ne (Or.inl (hw _ (List.mem_of_getElem? (i := 33) rfl))) (Or.inl (hw _ (List.mem_of_getElem? (i := 37) rfl))) (by decide) (t := (.array (.object "com/example/chiffchaff/chiffchaff/OpenElements$Block"))) (t' := .int) (by decide) (by decide)))
  have F_top'9 := F_top'8.other W9 (Or.inr (slot_ne (Or.inl (hw _ (List.mem_of_getElem? (i := 35) rfl))) (Or.inl (hw _ (List.mem_of_getElem? (i := 37) rfl))) (by decide) (t := (.object "com/example/chiffchaff/chiffchaff/OpenElements$Block")) (t' := .int) (by decide) (by decide)))
  have F_topAt'9 := F_topAt'8.same W9
  have F_depth'9 := F_depth'8.other W9 (Or.inr (slot_ne (Or.inl (hw _ (List.mem_of_getElem? (i := 57) rfl))) (Or.inl (hw _ (List.mem_of_getElem? (i := 37) rfl))) (by decide) (t := .int) (t' := .int) (by decide) (by decide)))
  have E_a'9 := E_a'8.wr W9
  have O0'9 := O0'8.wr W9 g_a
  have A3'9 := A3'8.wr W9
  have Fnm4'9 := Fnm4'8.other W9 (Or.inl (Ne.symm ne_a_b3))
  have Fur4'9 := Fur4'8.other W9 (Or.inl (Ne.symm ne_a_b3))
  have Flv4'9 := Flv4'8.other W9 (Or.inl (Ne.symm ne_a_b3))
  have Fbd4'9 := Fbd4'8.other W9 (Or.inl (Ne.symm ne_a_b3))
  have Fty4'9 := Fty4'8.other W9 (Or.inl (Ne.symm ne_a_b3))
  have Fst4'9 := Fst4'8.other W9 (Or.inl (Ne.symm ne_a_b3))
  have Onm4'9 := Onm4'8.wr W9
  have Our4'9 := Our4'8.wr W9
  have Alv4'9 := Alv4'8.wr W9
  have Abd4'9 := Abd4'8.wr W9
  have Vn5'9 := Vn5'8.other W9 (Ne.symm ne_a_b2)
  have N9 := Fr.snoc X9 N8 g_a
  have Z9 : n0 ≤ h9.size := by rw [W9.size]; exact Z8
  show own_Fin p.tables e below _ (T9.setTop (mkF m 39 #[.val (.ref a)] []))
  obtain ⟨fs, hr, hrun, hended, hW, hsame⟩ := X9.leave (v := none) (fun _ => rfl)
  refine ⟨_, _, X9.returnOut hx Bd.returns (hb hby d1_39) hr, hrun, hended, _, _, rfl, ?_, ⟨_, rfl⟩, hW, hsame.mono (by decide) (by decide)⟩
  show Q1 Z a h0 n0 _ T9.heap _
  rw [e9]
  exact ⟨rfl, N9, O0'9, b3, b2, nm4, ur4, lv4, bd4, kc2, ⟨E_a'9, A3'9, F_blocks'9, F_top'9, F_topAt'9, F_depth'9, Vn5'9⟩, ⟨Fnm4'9, Fur4'9, Flv4'9, Fbd4'9, Fty4'9, Fst4'9⟩, ⟨Onm4'9, Our4'9, Alv4'9, Abd4'9, Or.inl rfl⟩, ⟨g_a, g_b3, g_nm4, g_ur4, g_lv4, g_bd4⟩⟩
def Q4 (Z : State) (a : Addr) (b : Addr) (bl : Addr) (nm : Addr) (ur : Addr) (lv : Addr) (bd : Addr) (kB : ClassId) (tv : Value) (d : Int32) (h0 : Heap) (n0 : Nat) (v : Option Value) (h : Heap) (L : List Loc) : Prop := v = some (.int 16) ∧ Fr n0 L ∧ h = h0
set_option maxRecDepth 65536 in
set_option maxHeartbeats 40000000 in
theorem rm4 (l : Launch) (Z : State) (a0 : Array Value) (hw : ∀ d ∈ tables_1, d.before a0 Z = true) (ws : List Jvm.Cond) (a : Addr) (b : Addr) (bl : Addr) (nm : Addr) (ur : Addr) (lv : Addr) (bd : Addr) (kB : ClassId) (tv : Value) (d : Int32) (h0 : Heap) (n0 : Nat) (Z0 : n0 ≤ h0.size) (OE0 : own_OE Z h0 n0 a b bl nm ur lv bd kB tv d) :
    MetFree l (⟨"com/example/chiffchaff/chiffchaff/OpenElements", "room", "()I"⟩ : MethodName) (head1 (Jvm.Cond.code (⟨"com/example/chiffchaff/chiffchaff/OpenElements", "room", "()I"⟩ : MethodName) prog_52_method_6_code 6 (some .int) :: ws) ({ frames := 1, cells := 0, slots := 0, locals := 12 } : Room)) (fun xs U => xs = #[(.ref a)] ∧ Z.Warmed39 U.vm ∧ U.heap = h0) (fun _ _ _ _ _ => True) (fun _ U o U' => ∃ v L, o = .returned v ∧ Q4 Z a b bl nm ur lv bd kB tv d h0 n0 v U'.heap L ∧ FrameEnd U o U' L ({ frames := 1, cells := 0, slots := 0, locals := 12 } : Room).cells ({ frames := 1, cells := 0, slots := 0, locals := 12 } : Room).slots) := by
  refine MetFree.of_bodySF (plainFor_of_name pn_com_example_chiffchaff_chiffchaff_OpenElements) hisR ?_
  intro p e s m args below meth c s₁ Bd hml0 hP hK
  obtain ⟨rfl, hZ, hh⟩ := hP
  have hx := Bd.exec
  have hby := Bd.bytes
  have hml : c.maxLocals = 6 := hml0
  have hown : s.vm.findClass "com/example/chiffchaff/chiffchaff/OpenElements" = some m.cls := findClass_of_methodNamed Bd.named
  have hnm := (name_of_methodNamed Bd.named Bd.method).1
  have X0 : Stand p l e ({ frames := 1, cells := 0, slots := 0, locals := 12 } : Room) s m #[(.ref a)] below meth c s₁ [] 0 0 := Stand.of_body Bd
  have e0 : s₁.heap = h0 := by rw [← hh, Bd.state]; rfl
  have N0 := Fr.nil n0
  change own_Fin p.tables e below (fun s₂ o => ∃ v L, o = .returned v ∧ Q4 Z a b bl nm ur lv bd kB tv d h0 n0 v s₂.heap L ∧ FrameEnd s o s₂ L ({ frames := 1, cells := 0, slots := 0, locals := 12 } : Room).cells ({ frames := 1, cells := 0, slots := 0, locals := 12 } : Room).slots) (s₁.setTop (entryFrame m #[(.ref a)] 6))
  refine own_st (fun t k => castTop (show entryFrame m #[(.ref a)] 6 = mkF m 0 #[.val (.ref a), .unset, .unset, .unset, .unset, .unset] [] by first | (simp [entryFrame, mkF, argsToLocals, Value.category, maxLocals]; done) | rfl) k) ?_
  show own_Fin p.tables e below _ (s₁.setTop (mkF m 0 #[.val (.ref a), .unset, .unset, .unset, .unset, .unset] []))
  obtain ⟨⟨E_a, E_b, F_bl, F_top, F_at, F_d, V_bl⟩, ⟨F_nm, F_ur, F_lv, F_bd, F_ty, F_st⟩, ⟨O_nm, O_ur, A_lv, A_bd, hty⟩, ⟨g_a, g_b, g_nm, g_ur, g_lv, g_bd⟩⟩ := OE0
  refine own_st (fun t k => XS.iconst X0.here hx rfl (hb hby d4_0) k) ?_
  show own_Fin p.tables e below _ (s₁.setTop (mkF m 1 #[.val (.ref a), .unset, .unset, .unset, .unset, .unset] [(.int (0 : Int32))]))
  refine own_st (fun t k => XS.istoreN X0.here hx rfl (hb hby d4_1) rfl (l' := #[.val (.ref a), .val (.int (0 : Int32)), .unset, .unset, .unset, .unset]) rfl k) ?_
  show own_Fin p.tables e below _ (s₁.setTop (mkF m 2 #[.val (.ref a), .val (.int (0 : Int32)), .unset, .unset, .unset, .unset] []))
  refine own_st (fun t k => XS.aloadN X0.here hx rfl (hb hby d4_2) rfl rfl k) ?_
  show own_Fin p.tables e below _ (s₁.setTop (mkF m 3 #[.val (.ref a), .val (.int (0 : Int32)), .unset, .unset, .unset, .unset] [(.ref a)]))
  obtain ⟨T1, X1, e1, st1⟩ := getF X0 hx hZ hown (host := "") (Or.inl (hw _ (List.mem_of_getElem? (i := 32) rfl))) Via.refl e0 F_bl (g := (mkF m 3 #[.val (.ref a), .val (.int (0 : Int32)), .unset, .unset, .unset, .unset] [(.ref a)])) rfl rfl (hb hby d4_3)
  refine own_st st1 ?_
  show own_Fin p.tables e below _ (T1.setTop (mkF m 6 #[.val (.ref a), .val (.int (0 : Int32)), .unset, .unset, .unset, .unset] [(.ref bl)]))
  refine own_st (fun t k => XS.astoreN X1.here hx rfl (hb hby d4_6) rfl rfl (l' := #[.val (.ref a), .val (.int (0 : Int32)), .val (.ref bl), .unset, .unset, .unset]) rfl k) ?_
  show own_Fin p.tables e below _ (T1.setTop (mkF m 7 #[.val (.ref a), .val (.int (0 : Int32)), .val (.ref bl), .unset, .unset, .unset] []))
  refine own_st (fun t k => XS.aloadN X1.here hx rfl (hb hby d4_7) rfl rfl k) ?_
  show own_Fin p.tables e below _ (T1.setTop (mkF m 8 #[.val (.ref a), .val (.int (0 : Int32)), .val (.ref bl), .unset, .unset, .unset] [(.ref bl)]))
  refine own_st (fun t k => own_alen X1 hx hZ e1 V_bl (g := (mkF m 8 #[.val (.ref a), .val (.int (0 : Int32)), .val (.ref bl), .unset, .unset, .unset] [(.ref bl)])) rfl rfl (hb hby d4_8) t k) ?_
  show own_Fin p.tables e below _ (T1.setTop (mkF m 9 #[.val (.ref a), .val (.int (0 : Int32)), .val (.ref bl), .unset, .unset, .unset] [(.int (1 : Int32))]))
  refine own_st (fun t k => XS.istoreN X1.here hx rfl (hb hby d4_9) rfl (l' := #[.val (.ref a), .val (.int (0 : Int32)), .val (.ref bl), .val (.int (1 : Int32)), .unset, .unset]) rfl k) ?_
  show own_Fin p.tables e below _ (T1.setTop (mkF m 10 #[.val (.ref a), .val (.int (0 : Int32)), .val (.ref bl), .val (.int (1 : Int32)), .unset, .unset] []))
  refine own_st (fun t k => XS.iconst X1.here hx rfl (hb hby d4_10) k) ?_
  show own_Fin p.tables e below _ (T1.setTop (mkF m 11 #[.val (.ref a), .val (.int (0 : Int32)), .val (.ref bl), .val (.int (1 : Int32)), .unset, .unset] [(.int (0 : Int32))]))
  refine own_st (fun t k => XS.istore X1.here hx rfl (hb hby d4_11) rfl (l' := #[.val (.ref a), .val (.int (0 : Int32)), .val (.ref bl), .val (.int (1 : Int32)), .val (.int (0 : Int32)), .unset]) rfl k) ?_
  show own_Fin p.tables e below _ (T1.setTop (mkF m 13 #[.val (.ref a), .val (.int (0 : Int32)), .val (.ref bl), .val (.int (1 : Int32)), .val (.int (0 : Int32)), .unset] []))
  refine own_st (fun t k => XS.iload X1.here hx rfl (hb hby d4_13) rfl k) ?_
  show own_Fin p.tables e below _ (T1.setTop (mkF m 15 #[.val (.ref a), .val (.int (0 : Int32)), .val (.ref bl), .val (.int (1 : Int32)), .val (.int (0 : Int32)), .unset] [(.int (0 : Int32))]))
  refine own_st (fun t k => XS.iloadN X1.here hx rfl (hb hby d4_15) rfl k) ?_
  show own_Fin p.tables e below _ (T1.setTop (mkF m 16 #[.val (.ref a), .val (.int (0 : Int32)), .val (.ref bl), .val (.int (1 : Int32)), .val (.int (0 : Int32)), .unset] [(.int (1 : Int32)), (.int (0 : Int32))]))
  refine own_st (fun t k => XS.icmpNo X1.here hx rfl (hb hby d4_16) rfl (XT.ii_ge_f (by decide)) k) ?_
  show own_Fin p.tables e below _ (T1.setTop (mkF m 19 #[.val (.ref a), .val (.int (0 : Int32)), .val (.ref bl), .val (.int (1 : Int32)), .val (.int (0 : Int32)), .unset] []))
  refine own_st (fun t k => XS.aloadN X1.here hx rfl (hb hby d4_19) rfl rfl k) ?_
  show own_Fin p.tables e below _ (T1.setTop (mkF m 20 #[.val (.ref a), .val (.int (0 : Int32)), .val (.ref bl), .val (.int (1 : Int32)), .val (.int (0 : Int32)), .unset] [(.ref bl)]))
  refine own_st (fun t k => XS.iload X1.here hx rfl (hb hby d4_20) rfl k) ?_
  show own_Fin p.tables e below _ (T1.setTop (mkF m 22 #[.val (.ref a), .val (.int (0 : Int32)), .val (.ref bl), .val (.int (1 : Int32)), .val (.int (0 : Int32)), .unset] [(.int (0 : Int32)), (.ref bl)]))
  refine own_st (fun t k => own_aald X1 hx hZ e1 V_bl rfl (j := (0 : Int32)) ⟨by decide, by decide⟩ (v := (.ref b)) rfl (g := (mkF m 22 #[.val (.ref a), .val (.int (0 : Int32)), .val (.ref bl), .val (.int (1 : Int32)), .val (.int (0 : Int32)), .unset] [(.int (0 : Int32)), (.ref bl)])) rfl rfl (hb hby d4_22) t k) ?_
  show own_Fin p.tables e below _ (T1.setTop (mkF m 23 #[.val (.ref a), .val (.int (0 : Int32)), .val (.ref bl), .val (.int (1 : Int32)), .val (.int (0 : Int32)), .unset] [(.ref b)]))
  refine own_st (fun t k => XS.astore X1.here hx rfl (hb hby d4_23) rfl rfl (l' := #[.val (.ref a), .val (.int (0 : Int32)), .val (.ref bl), .val (.int (1 : Int32)), .val (.int (0 : Int32)), .val (.ref b)]) rfl k) ?_
  show own_Fin p.tables e below _ (T1.setTop (mkF m 25 #[.val (.ref a), .val (.int (0 : Int32)), .val (.ref bl), .val (.int (1 : Int32)), .val (.int (0 : Int32)), .val (.ref b)] []))
  refine own_st (fun t k => XS.iloadN X1.here hx rfl (hb hby d4_25) rfl k) ?_
  show own_Fin p.tables e below _ (T1.setTop (mkF m 26 #[.val (.ref a), .val (.int (0 : Int32)), .val (.ref bl), .val (.int (1 : Int32)), .val (.int (0 : Int32)), .val (.ref b)] [(.int (0 : Int32))]))
  refine own_st (fun t k => XS.aload X1.here hx rfl (hb hby d4_26) rfl rfl k) ?_
  show own_Fin p.tables e below _ (T1.setTop (mkF m 28 #[.val (.ref a), .val (.int (0 : Int32)), .val (.ref bl), .val (.int (1 : Int32)), .val (.int (0 : Int32)), .val (.ref b)] [(.ref b), (.int (0 : Int32))]))
  refine own_st (fun t k => XS.ifnonnullYes X1.here hx rfl (pc0 := 28) (pc' := 35) rfl (hb hby d4_28) rfl (by decide) (by decide) k) ?_
  show own_Fin p.tables e below _ (T1.setTop (mkF m 35 #[.val (.ref a), .val (.int (0 : Int32)), .val (.ref bl), .val (.int (1 : Int32)), .val (.int (0 : Int32)), .val (.ref b)] [(.int (0 : Int32))]))
  refine own_st (fun t k => XS.aload X1.here hx rfl (hb hby d4_35) rfl rfl k) ?_
  show own_Fin p.tables e below _ (T1.setTop (mkF m 37 #[.val (.ref a), .val (.int (0 : Int32)), .val (.ref bl), .val (.int (1 : Int32)), .val (.int (0 : Int32)), .val (.ref b)] [(.ref b), (.int (0 : Int32))]))
  refine own_st (fun t k => own_getR X1 hx hZ hown (hw _ (List.mem_of_getElem? (i := 43) rfl)) e1 F_nm (g := (mkF m 37 #[.val (.ref a), .val (.int (0 : Int32)), .val (.ref bl), .val (.int (1 : Int32)), .val (.int (0 : Int32)), .val (.ref b)] [(.ref b), (.int (0 : Int32))])) rfl rfl (hb hby d4_37) t k) ?_
  show own_Fin p.tables e below _ (T1.setTop (mkF m 40 #[.val (.ref a), .val (.int (0 : Int32)), .val (.ref bl), .val (.int (1 : Int32)), .val (.int (0 : Int32)), .val (.ref b)] [(.ref nm), (.int (0 : Int32))]))
  refine own_st (fun t k => own_len1 X1 hx hZ e1 (own_O.A O_nm) (g := (mkF m 40 #[.val (.ref a), .val (.int (0 : Int32)), .val (.ref bl), .val (.int (1 : Int32)), .val (.int (0 : Int32)), .val (.ref b)] [(.ref nm), (.int (0 : Int32))])) rfl rfl (hb hby d4_40) t k) ?_
  show own_Fin p.tables e below _ (T1.setTop (mkF m 41 #[.val (.ref a), .val (.int (0 : Int32)), .val (.ref bl), .val (.int (1 : Int32)), .val (.int (0 : Int32)), .val (.ref b)] [(.int (16 : Int32)), (.int (0 : Int32))]))
  refine own_st (fun t k => XS.iadd X1.here hx rfl (hb hby d4_41) rfl k) ?_
  show own_Fin p.tables e below _ (T1.setTop (mkF m 42 #[.val (.ref a), .val (.int (0 : Int32)), .val (.ref bl), .val (.int (1 : Int32)), .val (.int (0 : Int32)), .val (.ref b)] [(.int (16 : Int32))]))
  refine own_st (fun t k => XS.istoreN X1.here hx rfl (hb hby d4_42) rfl (l' := #[.val (.ref a), .val (.int (16 : Int32)), .val (.ref bl), .val (.int (1 : Int32)), .val (.int (0 : Int32)), .val (.ref b)]) rfl k) ?_
  show own_Fin p.tables e below _ (T1.setTop (mkF m 43 #[.val (.ref a), .val (.int (16 : Int32)), .val (.ref bl), .val (.int (1 : Int32)), .val (.int (0 : Int32)), .val (.ref b)] []))
  refine own_st (fun t k => XS.iinc X1.here hx rfl (hb hby d4_43) rfl (l' := #[.val (.ref a), .val (.int (16 : Int32)), .val (.ref bl), .val (.int (1 : Int32)), .val (.int (1 : Int32)), .val (.ref b)]) rfl k) ?_
  show own_Fin p.tables e below _ (T1.setTop (mkF m 46 #[.val (.ref a), .val (.int (16 : Int32)), .val (.ref bl), .val (.int (1 : Int32)), .val (.int (1 : Int32)), .val (.ref b)] []))
  refine own_st (fun t k => XS.goto X1.here hx rfl (pc0 := 46) (pc' := 13) rfl (hb hby d4_46) (by decide) (by decide) k) ?_
  show own_Fin p.tables e below _ (T1.setTop (mkF m 13 #[.val (.ref a), .val (.int (16 : Int32)), .val (.ref bl), .val (.int (1 : Int32)), .val (.int (1 : Int32)), .val (.ref b)] []))
  refine own_st (fun t k => XS.iload X1.here hx rfl (hb hby d4_13) rfl k) ?_
  show own_Fin p.tables e below _ (T1.setTop (mkF m 15 #[.val (.ref a), .val (.int (16 : Int32)), .val (.ref bl), .val (.int (1 : Int32)), .val (.int (1 : Int32)), .val (.ref b)] [(.int (1 : Int32))]))
  refine own_st (fun t k => XS.iloadN X1.here hx rfl (hb hby d4_15) rfl k) ?_
  show own_Fin p.tables e below _ (T1.setTop (mkF m 16 #[.val (.ref a), .val (.int (16 : Int32)), .val (.ref bl), .val (.int (1 : Int32)), .val (.int (1 : Int32)), .val (.ref b)] [(.int (1 : Int32)), (.int (1 : Int32))]))
  refine own_st (fun t k => XS.icmpYes X1.here hx rfl (pc0 := 16) (pc' := 49) rfl (hb hby d4_16) rfl (XT.ii_ge_t (by decide)) (by decide) (by decide) k) ?_
  show own_Fin p.tables e below _ (T1.setTop (mkF m 49 #[.val (.ref a), .val (.int (16 : Int32)), .val (.ref bl), .val (.int (1 : Int32)), .val (.int (1 : Int32)), .val (.ref b)] []))
  refine own_st (fun t k => XS.iloadN X1.here hx rfl (hb hby d4_49) rfl k) ?_
  show own_Fin p.tables e below _ (T1.setTop (mkF m 50 #[.val (.ref a), .val (.int (16 : Int32)), .val (.ref bl), .val (.int (1 : Int32)), .val (.int (1 : Int32)), .val (.ref b)] [(.int (16 : Int32))]))
  obtain ⟨fs, hr, hrun, hended, hW, hsame⟩ := X1.leave (v := (some (.int (16 : Int32)))) (fun h => by rw [Bd.returns] at h; cases h)
  refine ⟨_, _, retOut X1 hx (t := .int) Bd.returns rfl (Or.inl ⟨rfl, Or.inl rfl, _, rfl⟩) (hb hby d4_50) hr, hrun, hended, _, _, rfl, ?_, ⟨_, rfl⟩, hW, hsame.mono (by decide) (by decide)⟩
  show Q4 Z a b bl nm ur lv bd kB tv d h0 n0 _ T1.heap _
  rw [e1]
  exact ⟨rfl, N0, rfl⟩
def QR0 (Z : State) (a : Addr) (bN : Addr) (kN : ClassId) (h0 : Heap) (n0 : Nat) (v : Option Value) (h : Heap) (L : List Loc) : Prop := v = some (.int 0) ∧ Fr n0 L ∧ h = h0
set_option maxRecDepth 65536 in
set_option maxHeartbeats 40000000 in
theorem rmR0 (l : Launch) (Z : State) (a0 : Array Value) (hw : ∀ d ∈ tables_1, d.before a0 Z = true) (ws : List Jvm.Cond) (a : Addr) (bN : Addr) (kN : ClassId) (h0 : Heap) (n0 : Nat) (Z0 : n0 ≤ h0.size) (F_bl : Fld Z h0 a "com/example/chiffchaff/chiffchaff/OpenElements" "blocks" "[Lcom/example/chiffchaff/chiffchaff/OpenElements$Block;" (.ref bN)) (V_N : Arv Z h0 bN kN (.object "com/example/chiffchaff/chiffchaff/OpenElements$Block") 0 [] .null) :
    MetFree l (⟨"com/example/chiffchaff/chiffchaff/OpenElements", "room", "()I"⟩ : MethodName) (head1 (Jvm.Cond.code (⟨"com/example/chiffchaff/chiffchaff/OpenElements", "room", "()I"⟩ : MethodName) prog_52_method_6_code 6 (some .int) :: ws) ({ frames := 1, cells := 0, slots := 0, locals := 12 } : Room)) (fun xs U => xs = #[(.ref a)] ∧ Z.Warmed39 U.vm ∧ U.heap = h0) (fun _ _ _ _ _ => True) (fun _ U o U' => ∃ v L, o = .returned v ∧ QR0 Z a bN kN h0 n0 v U'.heap L ∧ FrameEnd U o U' L ({ frames := 1, cells := 0, slots := 0, locals := 12 } : Room).cells ({ frames := 1, cells := 0, slots := 0, locals := 12 } : Room).slots) := by
  refine MetFree.of_bodySF (plainFor_of_name pn_com_example_chiffchaff_chiffchaff_OpenElements) hisR ?_
  intro p e s m args below meth c s₁ Bd hml0 hP hK
  obtain ⟨rfl, hZ, hh⟩ := hP
  have hx := Bd.exec
  have hby := Bd.bytes
  have hml : c.maxLocals = 6 := hml0
  have hown : s.vm.findClass "com/example/chiffchaff/chiffchaff/OpenElements" = some m.cls := findClass_of_methodNamed Bd.named
  have hnm := (name_of_methodNamed Bd.named Bd.method).1
  have X0 : Stand p l e ({ frames := 1, cells := 0, slots := 0, locals := 12 } : Room) s m #[(.ref a)] below meth c s₁ [] 0 0 := Stand.of_body Bd
  have e0 : s₁.heap = h0 := by rw [← hh, Bd.state]; rfl
  have N0 := Fr.nil n0
  change own_Fin p.tables e below (fun s₂ o => ∃ v L, o = .returned v ∧ QR0 Z a bN kN h0 n0 v s₂.heap L ∧ FrameEnd s o s₂ L ({ frames := 1, cells := 0, slots := 0, locals := 12 } : Room).cells ({ frames := 1, cells := 0, slots := 0, locals := 12 } : Room).slots) (s₁.setTop (entryFrame m #[(.ref a)] 6))
  refine own_st (fun t k => castTop (show entryFrame m #[(.ref a)] 6 = mkF m 0 #[.val (.ref a), .unset, .unset, .unset, .unset, .unset] [] by first | (simp [entryFrame, mkF, argsToLocals, Value.category, maxLocals]; done) | rfl) k) ?_
  show own_Fin p.tables e below _ (s₁.setTop (mkF m 0 #[.val (.ref a), .unset, .unset, .unset, .unset, .unset] []))
  refine own_st (fun t k => XS.iconst X0.here hx rfl (hb hby d4_0) k) ?_
  show own_Fin p.tables e below _ (s₁.setTop (mkF m 1 #[.val (.ref a), .unset, .unset, .unset, .unset, .unset] [(.int (0 : Int32))]))
  refine own_st (fun t k => XS.istoreN X0.here hx rfl (hb hby d4_1) rfl (l' := #[.val (.ref a), .val (.int (0 : Int32)), .unset, .unset, .unset, .unset]) rfl k) ?_
  show own_Fin p.tables e below _ (s₁.setTop (mkF m 2 #[.val (.ref a), .val (.int (0 : Int32)), .unset, .unset, .unset, .unset] []))
  refine own_st (fun t k => XS.aloadN X0.here hx rfl (hb hby d4_2) rfl rfl k) ?_
  show own_Fin p.tables e below _ (s₁.setTop (mkF m 3 #[.val (.ref a), .val (.int (0 : Int32)), .unset, .unset, .unset, .unset] [(.ref a)]))
  obtain ⟨T1, X1, e1, st1⟩ := getF X0 hx hZ hown (host := "") (Or.inl (hw _ (List.mem_of_getElem? (i := 32) rfl))) Via.refl e0 F_bl (g := (mkF m 3 #[.val (.ref a), .val (.int (0 : Int32)), .unset, .unset, .unset, .unset] [(.ref a)])) rfl rfl (hb hby d4_3)
  refine own_st st1 ?_
  show own_Fin p.tables e below _ (T1.setTop (mkF m 6 #[.val (.ref a), .val (.int (0 : Int32)), .unset, .unset, .unset, .unset] [(.ref bN)]))
  refine own_st (fun t k => XS.astoreN X1.here hx rfl (hb hby d4_6) rfl rfl (l' := #[.val (.ref a), .val (.int (0 : Int32)), .val (.ref bN), .unset, .unset, .unset]) rfl k) ?_
  show own_Fin p.tables e below _ (T1.setTop (mkF m 7 #[.val (.ref a), .val (.int (0 : Int32)), .val (.ref bN), .unset, .unset, .unset] []))
  refine own_st (fun t k => XS.aloadN X1.here hx rfl (hb hby d4_7) rfl rfl k) ?_
  show own_Fin p.tables e below _ (T1.setTop (mkF m 8 #[.val (.ref a), .val (.int (0 : Int32)), .val (.ref bN), .unset, .unset, .unset] [(.ref bN)]))
  refine own_st (fun t k => own_alen X1 hx hZ e1 V_N (g := (mkF m 8 #[.val (.ref a), .val (.int (0 : Int32)), .val (.ref bN), .unset, .unset, .unset] [(.ref bN)])) rfl rfl (hb hby d4_8) t k) ?_
  show own_Fin p.tables e below _ (T1.setTop (mkF m 9 #[.val (.ref a), .val (.int (0 : Int32)), .val (.ref bN), .unset, .unset, .unset] [(.int (0 : Int32))]))
  refine own_st (fun t k => XS.istoreN X1.here hx rfl (hb hby d4_9) rfl (l' := #[.val (.ref a), .val (.int (0 : Int32)), .val (.ref bN), .val (.int (0 : Int32)), .unset, .unset]) rfl k) ?_
  show own_Fin p.tables e below _ (T1.setTop (mkF m 10 #[.val (.ref a), .val (.int (0 : Int32)), .val (.ref bN), .val (.int (0 : Int32)), .unset, .unset] []))
  refine own_st (fun t k => XS.iconst X1.here hx rfl (hb hby d4_10) k) ?_
  show own_Fin p.tables e below _ (T1.setTop (mkF m 11 #[.val (.ref a), .val (.int (0 : Int32)), .val (.ref bN), .val (.int (0 : Int32)), .unset, .unset] [(.int (0 : Int32))]))
  refine own_st (fun t k => XS.istore X1.here hx rfl (hb hby d4_11) rfl (l' := #[.val (.ref a), .val (.int (0 : Int32)), .val (.ref bN), .val (.int (0 : Int32)), .val (.int (0 : Int32)), .unset]) rfl k) ?_
  show own_Fin p.tables e below _ (T1.setTop (mkF m 13 #[.val (.ref a), .val (.int (0 : Int32)), .val (.ref bN), .val (.int (0 : Int32)), .val (.int (0 : Int32)), .unset] []))
  refine own_st (fun t k => XS.iload X1.here hx rfl (hb hby d4_13) rfl k) ?_
  show own_Fin p.tables e below _ (T1.setTop (mkF m 15 #[.val (.ref a), .val (.int (0 : Int32)), .val (.ref bN), .val (.int (0 : Int32)), .val (.int (0 : Int32)), .unset] [(.int (0 : Int32))]))
  refine own_st (fun t k => XS.iloadN X1.here hx rfl (hb hby d4_15) rfl k) ?_
  show own_Fin p.tables e below _ (T1.setTop (mkF m 16 #[.val (.ref a), .val (.int (0 : Int32)), .val (.ref bN), .val (.int (0 : Int32)), .val (.int (0 : Int32)), .unset] [(.int (0 : Int32)), (.int (0 : Int32))]))
  refine own_st (fun t k => XS.icmpYes X1.here hx rfl (pc0 := 16) (pc' := 49) rfl (hb hby d4_16) rfl (XT.ii_ge_t (by decide)) (by decide) (by decide) k) ?_
  show own_Fin p.tables e below _ (T1.setTop (mkF m 49 #[.val (.ref a), .val (.int (0 : Int32)), .val (.ref bN), .val (.int (0 : Int32)), .val (.int (0 : Int32)), .unset] []))
  refine own_st (fun t k => XS.iloadN X1.here hx rfl (hb hby d4_49) rfl k) ?_
  show own_Fin p.tables e below _ (T1.setTop (mkF m 50 #[.val (.ref a), .val (.int (0 : Int32)), .val (.ref bN), .val (.int (0 : Int32)), .val (.int (0 : Int32)), .unset] [(.int (0 : Int32))]))
  obtain ⟨fs, hr, hrun, hended, hW, hsame⟩ := X1.leave (v := (some (.int (0 : Int32)))) (fun h => by rw [Bd.returns] at h; cases h)
  refine ⟨_, _, retOut X1 hx (t := .int) Bd.returns rfl (Or.inl ⟨rfl, Or.inl rfl, _, rfl⟩) (hb hby d4_50) hr, hrun, hended, _, _, rfl, ?_, ⟨_, rfl⟩, hW, hsame.mono (by decide) (by decide)⟩
  show QR0 Z a bN kN h0 n0 _ T1.heap _
  rw [e1]
  exact ⟨rfl, N0, rfl⟩
def Q10 (Z : State) (a1 : Addr) (aN : Addr) (h0 : Heap) (n0 : Nat) (v : Option Value) (h : Heap) (L : List Loc) : Prop := v = none ∧ Fr n0 L ∧ Keep h0 h [a1]
set_option maxRecDepth 65536 in
set_option maxHeartbeats 40000000 in
theorem rm10 (l : Launch) (Z : State) (a0 : Array Value) (hw : ∀ d ∈ tables_1, d.before a0 Z = true) (ws : List Jvm.Cond) (a1 : Addr) (aN : Addr) (h0 : Heap) (n0 : Nat) (Z0 : n0 ≤ h0.size) (F_at : Fld Z h0 a1 "com/example/chiffchaff/chiffchaff/ElementType" "attributes" "Lcom/example/chiffchaff/chiffchaff/DeclaredAttributes;" .null) (E_1 : Exa Z h0 a1 "com/example/chiffchaff/chiffchaff/ElementType") (g_a1 : n0 ≤ a1) (O0 : Old Z n0 h0) (S_N : Sta Z Z.heap "com/example/chiffchaff/chiffchaff/ElementType" "NO_ATTRIBUTES" "Lcom/example/chiffchaff/chiffchaff/DeclaredAttributes;" (.ref aN)) :
    MetFree l (⟨"com/example/chiffchaff/chiffchaff/ElementType", "<init>", "()V"⟩ : MethodName) (head1 (Jvm.Cond.code (⟨"com/example/chiffchaff/chiffchaff/ElementType", "<init>", "()V"⟩ : MethodName) prog_28_method_1_code 1 none :: ws) ({ frames := 1, cells := 0, slots := 0, locals := 12 } : Room)) (fun xs U => xs = #[(.ref a1)] ∧ Z.Warmed39 U.vm ∧ U.heap = h0) (fun _ _ _ _ _ => True) (fun _ U o U' => ∃ v L, o = .returned v ∧ Q10 Z a1 aN h0 n0 v U'.heap L ∧ FrameEnd U o U' L ({ frames := 1, cells := 0, slots := 0, locals := 12 } : Room).cells ({ frames := 1, cells := 0, slots := 0, locals := 12 } : Room).slots) := by
  refine MetFree.of_bodySF (plainFor_of_name pn_com_example_chiffchaff_chiffchaff_ElementType) hisR ?_
  intro p e s m args below meth c s₁ Bd hml0 hP hK
  obtain ⟨rfl, hZ, hh⟩ := hP
  have hx := Bd.exec
  have hby := Bd.bytes
  have hml : c.maxLocals = 1 := hml0
  have hown : s.vm.findClass "com/example/chiffchaff/chiffchaff/ElementType" = some m.cls := findClass_of_methodNamed Bd.named
  have hnm := (name_of_methodNamed Bd.named Bd.method).1
  have X0 : Stand p l e ({ frames := 1, cells := 0, slots := 0, locals := 12 } : Room) s m #[(.ref a1)] below meth c s₁ [] 0 0 := Stand.of_body Bd
  have e0 : s₁.heap = h0 := by rw [← hh, Bd.state]; rfl
  have N0 := Fr.nil n0
  change own_Fin p.tables e below (fun s₂ o => ∃ v L, o = .returned v ∧ Q10 Z a1 aN h0 n0 v s₂.heap L ∧ FrameEnd s o s₂ L ({ frames := 1, cells := 0, slots := 0, locals := 12 } : Room).cells ({ frames := 1, cells := 0, slots := 0, locals := 12 } : Room).slots) (s₁.setTop (entryFrame m #[(.ref a1)] 1))
  refine own_st (fun t k => castTop (show entryFrame m #[(.ref a1)] 1 = mkF m 0 #[.val (.ref a1)] [] by first | (simp [entryFrame, mkF, argsToLocals, Value.category, maxLocals]; done) | rfl) k) ?_
  show own_Fin p.tables e below _ (s₁.setTop (mkF m 0 #[.val (.ref a1)] []))
  have K0 : Keep h0 h0 [a1] := Keep.refl h0 [a1]
  refine own_st (fun t k => XS.aloadN X0.here hx rfl (hb hby d10_0) rfl rfl k) ?_
  show own_Fin p.tables e below _ (s₁.setTop (mkF m 1 #[.val (.ref a1)] [(.ref a1)]))
  obtain ⟨T1, X1, e1, st1⟩ := initO X0 hx hZ hown (hw _ (List.mem_of_getElem? (i := 78) rfl)) (hw _ (List.mem_of_getElem? (i := 7) rfl)) (hw _ (List.mem_of_getElem? (i := 8) rfl)) e0 (g := (mkF m 1 #[.val (.ref a1)] [(.ref a1)])) rfl (by rw [hml]; rfl) rfl (hb hby d10_1) (by decide) (W := 0) (by show 2 * 0 + _ ≤ _; exact Nat.le_of_eq rfl) (by decide)
  refine own_st st1 ?_
  show own_Fin p.tables e below _ (T1.setTop (mkF m 4 #[.val (.ref a1)] []))
  refine own_st (fun t k => XS.aloadN X1.here hx rfl (hb hby d10_4) rfl rfl k) ?_
  show own_Fin p.tables e below _ (T1.setTop (mkF m 5 #[.val (.ref a1)] [(.ref a1)]))
  obtain ⟨T2, X2, e2, st2⟩ := getS (host := "") X1 hx hZ hown (hw _ (List.mem_of_getElem? (i := 79) rfl)) Via.refl e1 (Sta.ext O0.2 S_N) (g := (mkF m 5 #[.val (.ref a1)] [(.ref a1)])) rfl (hb hby d10_5)
  refine own_st st2 ?_
  show own_Fin p.tables e below _ (T2.setTop (mkF m 8 #[.val (.ref a1)] [(.ref aN), (.ref a1)]))
  obtain ⟨T3, h3, X3, e3, W3, st3⟩ := putF X2 hx hZ hown (host := "") (Or.inl (hw _ (List.mem_of_getElem? (i := 81) rfl))) Via.refl e2 F_at E_1 (Or.inl (hw _ (List.mem_of_getElem? (i := 82) rfl))) (hw _ (List.mem_of_getElem? (i := 74) rfl)) (ty := (.object "com/example/chiffchaff/chiffchaff/DeclaredAttributes")) (by decide) rfl rfl (g := (mkF m 8 #[.val (.ref a1)] [(.ref aN), (.ref a1)])) rfl rfl (hb hby d10_8)
  refine own_st st3 ?_
  have F_at'3 := F_at.same W3
  have E_1'3 := E_1.wr W3
  have O0'3 := O0.wr W3 g_a1
  have K0'3 := K0.wr W3 (Or.inl (List.mem_of_getElem? (i := 0) rfl))
  have N3 := Fr.snoc X3 N0 g_a1
  have Z3 : n0 ≤ h3.size := by rw [W3.size]; exact Z0
  show own_Fin p.tables e below _ (T3.setTop (mkF m 11 #[.val (.ref a1)] []))
  obtain ⟨fs, hr, hrun, hended, hW, hsame⟩ := X3.leave (v := none) (fun _ => rfl)
  refine ⟨_, _, X3.returnOut hx Bd.returns (hb hby d10_11) hr, hrun, hended, _, _, rfl, ?_, ⟨_, rfl⟩, hW, hsame.mono (by decide) (by decide)⟩
  show Q10 Z a1 aN h0 n0 _ T3.heap _
  rw [e3]
  exact ⟨rfl, N3, K0'3⟩
def Q14 (Z : State) (b : Addr) (nm : Addr) (ur : Addr) (lv : Addr) (bd : Addr) (h0 : Heap) (n0 : Nat) (v : Option Value) (h : Heap) (L : List Loc) : Prop := ∃ ty, v = some (.ref ty) ∧ Fr n0 L ∧ Keep h0 h [b] ∧ Fld Z h b "com/example/chiffchaff/chiffchaff/OpenElements$Block" "types" "[Lcom/example/chiffchaff/chiffchaff/ElementType;" (.ref ty) ∧ Fld Z h b "com/example/chiffchaff/chiffchaff/OpenElements$Block" "names" "[Lcom/example/chiffchaff/chiffchaff/XmlName;" (.ref nm) ∧ Fld Z h b "com/example/chiffchaff/chiffchaff/OpenElements$Block" "uris" "[Ljava/lang/String;" (.ref ur) ∧ Fld Z h b "com/example/chiffchaff/chiffchaff/OpenElements$Block" "levels" "[I" (.ref lv) ∧ Fld Z h b "com/example/chiffchaff/chiffchaff/OpenElements$Block" "bindings" "[J" (.ref bd) ∧ Fld Z h b "com/example/chiffchaff/chiffchaff/OpenElements$Block" "states" "[Ljava/lang/Object;" .null ∧ own_O Z h ty "com/example/chiffchaff/chiffchaff/ElementType" 16 ∧ n0 ≤ ty
set_option maxRecDepth 65536 in
set_option maxHeartbeats 40000000 in
theorem rm14 (l : Launch) (Z : State) (a0 : Array Value) (hw : ∀ d ∈ tables_1, d.before a0 Z = true) (ws : List Jvm.Cond) (b : Addr) (nm : Addr) (ur : Addr) (lv : Addr) (bd : Addr) (h0 : Heap) (n0 : Nat) (Z0 : n0 ≤ h0.size) (F_ty : Fld Z h0 b "com/example/chiffchaff/chiffchaff/OpenElements$Block" "types" "[Lcom/example/chiffchaff/chiffchaff/ElementType;" .null) (F_nm : Fld Z h0 b "com/example/chiffchaff/chiffchaff/OpenElements$Block" "names" "[Lcom/example/chiffchaff/chiffchaff/XmlName;" (.ref nm)) (F_ur : Fld Z h0 b "com/example/chiffchaff/chiffchaff/OpenElements$Block" "uris" "[Ljava/lang/String;" (.ref ur)) (F_lv : Fld Z h0 b "com/example/chiffchaff/chiffchaff/OpenElements$Block" "levels" "[I" (.ref lv)) (F_bd : Fld Z h0 b "com/example/chiffchaff/chiffchaff/OpenElements$Block" "bindings" "[J" (.ref bd)) (F_st : Fld Z h0 b "com/example/chiffchaff/chiffchaff/OpenElements$Block" "states" "[Ljava/lang/Object;" .null) (O_nm : own_O Z h0 nm "com/example/chiffchaff/chiffchaff/XmlName" 16) (E_b : Exa Z h0 b "com/example/chiffchaff/chiffchaff/OpenElements$Block") (g_b : n0 ≤ b) :
    MetFree l (⟨"com/example/chiffchaff/chiffchaff/OpenElements$Block", "typed", "()[Lcom/example/chiffchaff/chiffchaff/ElementType;"⟩ : MethodName) (head1 (Jvm.Cond.code (⟨"com/example/chiffchaff/chiffchaff/OpenElements$Block", "typed", "()[Lcom/example/chiffchaff/chiffchaff/ElementType;"⟩ : MethodName) prog_53_method_3_code 1 (some (.array (.object "com/example/chiffchaff/chiffchaff/ElementType"))) :: ws) ({ frames := 1, cells := 1, slots := 16, locals := 12 } : Room)) (fun xs U => xs = #[(.ref b)] ∧ Z.Warmed39 U.vm ∧ U.heap = h0) (fun _ _ _ _ _ => True) (fun _ U o U' => ∃ v L, o = .returned v ∧ Q14 Z b nm ur lv bd h0 n0 v U'.heap L ∧ FrameEnd U o U' L ({ frames := 1, cells := 1, slots := 16, locals := 12 } : Room).cells ({ frames := 1, cells := 1, slots := 16, locals := 12 } : Room).slots) := by
  refine MetFree.of_bodySF (plainFor_of_name pn_com_example_chiffchaff_chiffchaff_OpenElements_Block) hisR ?_
  intro p e s m args below meth c s₁ Bd hml0 hP hK
  obtain ⟨rfl, hZ, hh⟩ := hP
  have hx := Bd.exec
  have hby := Bd.bytes
  have hml : c.maxLocals = 1 := hml0
  have hown : s.vm.findClass "com/example/chiffchaff/chiffchaff/OpenElements$Block" = some m.cls := findClass_of_methodNamed Bd.named
  have hnm := (name_of_methodNamed Bd.named Bd.method).1
  have X0 : Stand p l e ({ frames := 1, cells := 1, slots := 16, locals := 12 } : Room) s m #[(.ref b)] below meth c s₁ [] 0 0 := Stand.of_body Bd
  have e0 : s₁.heap = h0 := by rw [← hh, Bd.state]; rfl
  have N0 := Fr.nil n0
  change own_Fin p.tables e below (fun s₂ o => ∃ v L, o = .returned v ∧ Q14 Z b nm ur lv bd h0 n0 v s₂.heap L ∧ FrameEnd s o s₂ L ({ frames := 1, cells := 1, slots := 16, locals := 12 } : Room).cells ({ frames := 1, cells := 1, slots := 16, locals := 12 } : Room).slots) (s₁.setTop (entryFrame m #[(.ref b)] 1))
  refine own_st (fun t k => castTop (show entryFrame m #[(.ref b)] 1 = mkF m 0 #[.val (.ref b)] [] by first | (simp [entryFrame, mkF, argsToLocals, Value.category, maxLocals]; done) | rfl) k) ?_
  show own_Fin p.tables e below _ (s₁.setTop (mkF m 0 #[.val (.ref b)] []))
  have K0 : Keep h0 h0 [b] := Keep.refl h0 [b]
  refine own_st (fun t k => XS.aloadN X0.here hx rfl (hb hby d14_0) rfl rfl k) ?_
  show own_Fin p.tables e below _ (s₁.setTop (mkF m 1 #[.val (.ref b)] [(.ref b)]))
  obtain ⟨T1, X1, e1, st1⟩ := getF X0 hx hZ hown (host := "") (Or.inl (hw _ (List.mem_of_getElem? (i := 69) rfl))) Via.refl e0 F_ty (g := (mkF m 1 #[.val (.ref b)] [(.ref b)])) rfl rfl (hb hby d14_1)
  refine own_st st1 ?_
  show own_Fin p.tables e below _ (T1.setTop (mkF m 4 #[.val (.ref b)] [.null]))
  refine own_st (fun t k => XS.ifnonnullNo X1.here hx rfl (hb hby d14_4) rfl k) ?_
  show own_Fin p.tables e below _ (T1.setTop (mkF m 7 #[.val (.ref b)] []))
  refine own_st (fun t k => XS.aloadN X1.here hx rfl (hb hby d14_7) rfl rfl k) ?_
  show own_Fin p.tables e below _ (T1.setTop (mkF m 8 #[.val (.ref b)] [(.ref b)]))
  refine own_st (fun t k => XS.aloadN X1.here hx rfl (hb hby d14_8) rfl rfl k) ?_
  show own_Fin p.tables e below _ (T1.setTop (mkF m 9 #[.val (.ref b)] [(.ref b), (.ref b)]))
  obtain ⟨T2, X2, e2, st2⟩ := getF X1 hx hZ hown (host := "") (Or.inl (hw _ (List.mem_of_getElem? (i := 19) rfl))) Via.refl e1 F_nm (g := (mkF m 9 #[.val (.ref b)] [(.ref b), (.ref b)])) rfl rfl (hb hby d14_9)
  refine own_st st2 ?_
  show own_Fin p.tables e below _ (T2.setTop (mkF m 12 #[.val (.ref b)] [(.ref nm), (.ref b)]))
  refine own_st (fun t k => own_len1 X2 hx hZ e2 (own_O.A O_nm) (g := (mkF m 12 #[.val (.ref b)] [(.ref nm), (.ref b)])) rfl rfl (hb hby d14_12) t k) ?_
  show own_Fin p.tables e below _ (T2.setTop (mkF m 13 #[.val (.ref b)] [(.int (16 : Int32)), (.ref b)]))
  obtain ⟨T3, h3, kc3, X3, e3, E3, A3, O3, st3⟩ := newR X2 hx hZ hown (hw _ (List.mem_of_getElem? (i := 99) rfl)) (hw _ (List.mem_of_getElem? (i := 100) rfl)) e2 (g := (mkF m 13 #[.val (.ref b)] [(.int (16 : Int32)), (.ref b)])) rfl (hb hby d14_13) rfl (by decide) (cap := 16) (by decide) (by decide) (by decide) (by decide)
  obtain ⟨b3, g3⟩ : ∃ z, z = h0.size := ⟨_, rfl⟩
  have ne_b_b3 : b ≠ b3 := Nat.ne_of_lt (Nat.lt_of_lt_of_le F_ty.lt (Nat.le_of_eq g3.symm))
  have ne_nm_b3 : nm ≠ b3 := Nat.ne_of_lt (Nat.lt_of_lt_of_le O_nm.lt (Nat.le_of_eq g3.symm))
  have g_b3 : n0 ≤ b3 := Nat.le_trans Z0 (Nat.le_of_eq g3.symm)
  have sz_b3 : h0.size ≤ b3 := Nat.le_trans K0.1 (Nat.le_of_eq g3.symm)
  rw [← g3] at A3 st3
  refine own_st st3 ?_
  have F_ty'3 := F_ty.ext E3
  have F_st'3 := F_st.ext E3
  have O_nm'3 := O_nm.ext E3
  have E_b'3 := E_b.ext E3
  have K0'3 := K0.ext E3
  have F_nm'3 := F_nm.ext E3
  have F_ur'3 := F_ur.ext E3
  have F_lv'3 := F_lv.ext E3
  have F_bd'3 := F_bd.ext E3
  have Z3 : n0 ≤ h3.size := Nat.le_trans Z0 E3.1
  have OA3 : own_O Z h3 b3 "com/example/chiffchaff/chiffchaff/ElementType" (16 : Int32) := ⟨_, A3, sz_new _ _ _, (by decide), O3⟩
  show own_Fin p.tables e below _ (T3.setTop (mkF m 16 #[.val (.ref b)] [(.ref b3), (.ref b)]))
  obtain ⟨T4, h4, X4, e4, W4, st4⟩ := putF X3 hx hZ hown (host := "") (Or.inl (hw _ (List.mem_of_getElem? (i := 69) rfl))) Via.refl e3 F_ty'3 E_b'3 (Or.inl (hw _ (List.mem_of_getElem? (i := 70) rfl))) (hw _ (List.mem_of_getElem? (i := 11) rfl)) (ty := (.array (.object "com/example/chiffchaff/chiffchaff/ElementType"))) (by decide) rfl rfl (g := (mkF m 16 #[.val (.ref b)] [(.ref b3), (.ref b)])) rfl rfl (hb hby d14_16)
  refine own_st st4 ?_
  have F_ty'4 := F_ty'3.same W4
  have F_st'4 := F_st'3.other W4 (Or.inr (slot_ne (Or.inl (hw _ (List.mem_of_getElem? (i := 72) rfl))) (Or.inl (hw _ (List.mem_of_getElem? (i := 70) rfl))) (by decide) (t := (.array (.object "java/lang/Object"))) (t' := (.array (.object "com/example/chiffchaff/chiffchaff/ElementType"))) (by decide) (by decide)))
  have O_nm'4 := O_nm'3.wr W4
  have E_b'4 := E_b'3.wr W4
  have K0'4 := K0'3.wr W4 (Or.inl (List.mem_of_getElem? (i := 0) rfl))
  have F_nm'4 := F_nm'3.other W4 (Or.inr (slot_ne (Or.inr (hw _ (List.mem_of_getElem? (i := 20) rfl))) (Or.inl (hw _ (List.mem_of_getElem? (i := 70) rfl))) (by decide) (t := (.array (.object "com/example/chiffchaff/chiffchaff/XmlName"))) (t' := (.array (.object "com/example/chiffchaff/chiffchaff/ElementType"))) (by decide) (by decide)))
  have F_ur'4 := F_ur'3.other W4 (Or.inr (slot_ne (Or.inr (hw _ (List.mem_of_getElem? (i := 24) rfl))) (Or.inl (hw _ (List.mem_of_getElem? (i := 70) rfl))) (by decide) (t := (.array (.object "java/lang/String"))) (t' := (.array (.object "com/example/chiffchaff/chiffchaff/ElementType"))) (by decide) (by decide)))
  have F_lv'4 := F_lv'3.other W4 (Or.inr (slot_ne (Or.inr (hw _ (List.mem_of_getElem? (i := 27) rfl))) (Or.inl (hw _ (List.mem_of_getElem? (i := 70) rfl))) (by decide) (t := (.array .int)) (t' := (.array (.object "com/example/chiffchaff/chiffchaff/ElementType"))) (by decide) (by decide)))
  have F_bd'4 := F_bd'3.other W4 (Or.inr (slot_ne (Or.inr (hw _ (List.mem_of_getElem? (i := 30) rfl))) (Or.inl (hw _ (List.mem_of_getElem? (i := 70) rfl))) (by decide) (t := (.array .long)) (t' := (.array (.object "com/example/chiffchaff/chiffchaff/ElementType"))) (by decide) (by decide)))
  have OA3'4 := OA3.wr W4
  have N4 := Fr.snoc X4 N0 g_b
  have Z4 : n0 ≤ h4.size := by rw [W4.size]; exact Z3
  show own_Fin p.tables e below _ (T4.setTop (mkF m 19 #[.val (.ref b)] []))
  refine own_st (fun t k => XS.aloadN X4.here hx rfl (hb hby d14_19) rfl rfl k) ?_
  show own_Fin p.tables e below _ (T4.setTop (mkF m 20 #[.val (.ref b)] [(.ref b)]))
  obtain ⟨T5, X5, e5, st5⟩ := getF X4 hx hZ hown (host := "") (Or.inl (hw _ (List.mem_of_getElem? (i := 69) rfl))) Via.refl e4 F_ty'4 (g := (mkF m 20 #[.val (.ref b)] [(.ref b)])) rfl rfl (hb hby d14_20)
  refine own_st st5 ?_
  show own_Fin p.tables e below _ (T5.setTop (mkF m 23 #[.val (.ref b)] [(.ref b3)]))
  obtain ⟨fs, hr, hrun, hended, hW, hsame⟩ := X5.leave (v := (some (.ref b3))) (fun h => by rw [Bd.returns] at h; cases h)
  refine ⟨_, _, retOut X5 hx (t := (.array (.object "com/example/chiffchaff/chiffchaff/ElementType"))) Bd.returns rfl (Or.inr (Or.inr (Or.inr (Or.inr ⟨rfl, rfl, rfl⟩)))) (hb hby d14_23) hr, hrun, hended, _, _, rfl, ?_, ⟨_, rfl⟩, hW, hsame.mono (by decide) (by decide)⟩
  show Q14 Z b nm ur lv bd h0 n0 _ T5.heap _
  rw [e5]
  exact ⟨b3, rfl, N4, K0'4, F_ty'4, F_nm'4, F_ur'4, F_lv'4, F_bd'4, F_st'4, OA3'4, g_b3⟩
def QT1 (Z : State) (b : Addr) (ty : Addr) (h0 : Heap) (n0 : Nat) (v : Option Value) (h : Heap) (L : List Loc) : Prop := v = some (.ref ty) ∧ Fr n0 L ∧ h = h0
set_option maxRecDepth 65536 in
set_option maxHeartbeats 40000000 in
theorem rmT1 (l : Launch) (Z : State) (a0 : Array Value) (hw : ∀ d ∈ tables_1, d.before a0 Z = true) (ws : List Jvm.Cond) (b : Addr) (ty : Addr) (h0 : Heap) (n0 : Nat) (Z0 : n0 ≤ h0.size) (F_ty : Fld Z h0 b "com/example/chiffchaff/chiffchaff/OpenElements$Block" "types" "[Lcom/example/chiffchaff/chiffchaff/ElementType;" (.ref ty)) :
    MetFree l (⟨"com/example/chiffchaff/chiffchaff/OpenElements$Block", "typed", "()[Lcom/example/chiffchaff/chiffchaff/ElementType;"⟩ : MethodName) (head1 (Jvm.Cond.code (⟨"com/example/chiffchaff/chiffchaff/OpenElements$Block", "typed", "()[Lcom/example/chiffchaff/chiffchaff/ElementType;"⟩ : MethodName) prog_53_method_3_code 1 (some (.array (.object "com/example/chiffchaff/chiffchaff/ElementType"))) :: ws) ({ frames := 1, cells := 1, slots := 16, locals := 12 } : Room)) (fun xs U => xs = #[(.ref b)] ∧ Z.Warmed39 U.vm ∧ U.heap = h0) (fun _ _ _ _ _ => True) (fun _ U o U' => ∃ v L, o = .returned v ∧ QT1 Z b ty h0 n0 v U'.heap L ∧ FrameEnd U o U' L ({ frames := 1, cells := 1, slots := 16, locals := 12 } : Room).cells ({ frames := 1, cells := 1, slots := 16, locals := 12 } : Room).slots) := by
  refine MetFree.of_bodySF (plainFor_of_name pn_com_example_chiffchaff_chiffchaff_OpenElements_Block) hisR ?_
  intro p e s m args below meth c s₁ Bd hml0 hP hK
  obtain ⟨rfl, hZ, hh⟩ := hP
  have hx := Bd.exec
  have hby := Bd.bytes
  have hml : c.maxLocals = 1 := hml0
  have hown : s.vm.findClass "com/example/chiffchaff/chiffchaff/OpenElements$Block" = some m.cls := findClass_of_methodNamed Bd.named
  have hnm := (name_of_methodNamed Bd.named Bd.method).1
  have X0 : Stand p l e ({ frames := 1, cells := 1, slots := 16, locals := 12 } : Room) s m #[(.ref b)] below meth c s₁ [] 0 0 := Stand.of_body Bd
  have e0 : s₁.heap = h0 := by rw [← hh, Bd.state]; rfl
  have N0 := Fr.nil n0
  change own_Fin p.tables e below (fun s₂ o => ∃ v L, o = .returned v ∧ QT1 Z b ty h0 n0 v s₂.heap L ∧ FrameEnd s o s₂ L ({ frames := 1, cells := 1, slots := 16, locals := 12 } : Room).cells ({ frames := 1, cells := 1, slots := 16, locals := 12 } : Room).slots) (s₁.setTop (entryFrame m #[(.ref b)] 1))
  refine own_st (fun t k => castTop (show entryFrame m #[(.ref b)] 1 = mkF m 0 #[.val (.ref b)] [] by first | (simp [entryFrame, mkF, argsToLocals, Value.category, maxLocals]; done) | rfl) k) ?_
  show own_Fin p.tables e below _ (s₁.setTop (mkF m 0 #[.val (.ref b)] []))
  refine own_st (fun t k => XS.aloadN X0.here hx rfl (hb hby d14_0) rfl rfl k) ?_
  show own_Fin p.tables e below _ (s₁.setTop (mkF m 1 #[.val (.ref b)] [(.ref b)]))
  obtain ⟨T1, X1, e1, st1⟩ := getF X0 hx hZ hown (host := "") (Or.inl (hw _ (List.mem_of_getElem? (i := 69) rfl))) Via.refl e0 F_ty (g := (mkF m 1 #[.val (.ref b)] [(.ref b)])) rfl rfl (hb hby d14_1)
  refine own_st st1 ?_
  show own_Fin p.tables e below _ (T1.setTop (mkF m 4 #[.val (.ref b)] [(.ref ty)]))
  refine own_st (fun t k => XS.ifnonnullYes X1.here hx rfl (pc0 := 4) (pc' := 19) rfl (hb hby d14_4) rfl (by decide) (by decide) k) ?_
  show own_Fin p.tables e below _ (T1.setTop (mkF m 19 #[.val (.ref b)] []))
  refine own_st (fun t k => XS.aloadN X1.here hx rfl (hb hby d14_19) rfl rfl k) ?_
  show own_Fin p.tables e below _ (T1.setTop (mkF m 20 #[.val (.ref b)] [(.ref b)]))
  obtain ⟨T2, X2, e2, st2⟩ := getF X1 hx hZ hown (host := "") (Or.inl (hw _ (List.mem_of_getElem? (i := 69) rfl))) Via.refl e1 F_ty (g := (mkF m 20 #[.val (.ref b)] [(.ref b)])) rfl rfl (hb hby d14_20)
  refine own_st st2 ?_
  show own_Fin p.tables e below _ (T2.setTop (mkF m 23 #[.val (.ref b)] [(.ref ty)]))
  obtain ⟨fs, hr, hrun, hended, hW, hsame⟩ := X2.leave (v := (some (.ref ty))) (fun h => by rw [Bd.returns] at h; cases h)
  refine ⟨_, _, retOut X2 hx (t := (.array (.object "com/example/chiffchaff/chiffchaff/ElementType"))) Bd.returns rfl (Or.inr (Or.inr (Or.inr (Or.inr ⟨rfl, rfl, rfl⟩)))) (hb hby d14_23) hr, hrun, hended, _, _, rfl, ?_, ⟨_, rfl⟩, hW, hsame.mono (by decide) (by decide)⟩
  show QT1 Z b ty h0 n0 _ T2.heap _
  rw [e2]
  exact ⟨rfl, N0, rfl⟩
def Q7 (Z : State) (b : Addr) (nm : Addr) (ur : Addr) (d : Int32) (h0 : Heap) (n0 : Nat) (v : Option Value) (h : Heap) (L : List Loc) : Prop := v = none ∧ Fr n0 L ∧ Keep h0 h [nm, ur]
set_option maxRecDepth 65536 in
set_option maxHeartbeats 40000000 in
theorem rm7 (l : Launch) (Z : State) (a0 : Array Value) (hw : ∀ d ∈ tables_1, d.before a0 Z = true) (ws : List Jvm.Cond) (b : Addr) (nm : Addr) (ur : Addr) (d : Int32) (h0 : Heap) (n0 : Nat) (Z0 : n0 ≤ h0.size) (F_ty : Fld Z h0 b "com/example/chiffchaff/chiffchaff/OpenElements$Block" "types" "[Lcom/example/chiffchaff/chiffchaff/ElementType;" .null) (F_nm : Fld Z h0 b "com/example/chiffchaff/chiffchaff/OpenElements$Block" "names" "[Lcom/example/chiffchaff/chiffchaff/XmlName;" (.ref nm)) (F_ur : Fld Z h0 b "com/example/chiffchaff/chiffchaff/OpenElements$Block" "uris" "[Ljava/lang/String;" (.ref ur)) (F_st : Fld Z h0 b "com/example/chiffchaff/chiffchaff/OpenElements$Block" "states" "[Ljava/lang/Object;" .null) (O_nm : own_O Z h0 nm "com/example/chiffchaff/chiffchaff/XmlName" 16) (O_ur : own_O Z h0 ur "java/lang/String" 16) (E_b : Exa Z h0 b "com/example/chiffchaff/chiffchaff/OpenElements$Block") (g_nm : n0 ≤ nm) (g_ur : n0 ≤ ur) (hd : (d = 0 ∨ d = 1 ∨ d = 2 ∨ d = 3)) :
    MetFree l (⟨"com/example/chiffchaff/chiffchaff/OpenElements$Block", "free", "(I)V"⟩ : MethodName) (head1 (Jvm.Cond.code (⟨"com/example/chiffchaff/chiffchaff/OpenElements$Block", "free", "(I)V"⟩ : MethodName) prog_53_method_4_code 2 none :: ws) ({ frames := 3, cells := 0, slots := 0, locals := 50 } : Room)) (fun xs U => xs = #[(.ref b), (.int d)] ∧ Z.Warmed39 U.vm ∧ U.heap = h0) (fun _ _ _ _ _ => True) (fun _ U o U' => ∃ v L, o = .returned v ∧ Q7 Z b nm ur d h0 n0 v U'.heap L ∧ FrameEnd U o U' L ({ frames := 3, cells := 0, slots := 0, locals := 50 } : Room).cells ({ frames := 3, cells := 0, slots := 0, locals := 50 } : Room).slots) := by
  refine MetFree.of_bodySF (plainFor_of_name pn_com_example_chiffchaff_chiffchaff_OpenElements_Block) hisR ?_
  intro p e s m args below meth c s₁ Bd hml0 hP hK
  obtain ⟨rfl, hZ, hh⟩ := hP
  have hx := Bd.exec
  have hby := Bd.bytes
  have hml : c.maxLocals = 2 := hml0
  have hown : s.vm.findClass "com/example/chiffchaff/chiffchaff/OpenElements$Block" = some m.cls := findClass_of_methodNamed Bd.named
  have hnm := (name_of_methodNamed Bd.named Bd.method).1
  have X0 : Stand p l e ({ frames := 3, cells := 0, slots := 0, locals := 50 } : Room) s m #[(.ref b), (.int d)] below meth c s₁ [] 0 0 := Stand.of_body Bd
  have e0 : s₁.heap = h0 := by rw [← hh, Bd.state]; rfl
  have N0 := Fr.nil n0
  change own_Fin p.tables e below (fun s₂ o => ∃ v L, o = .returned v ∧ Q7 Z b nm ur d h0 n0 v s₂.heap L ∧ FrameEnd s o s₂ L ({ frames := 3, cells := 0, slots := 0, locals := 50 } : Room).cells ({ frames := 3, cells := 0, slots := 0, locals := 50 } : Room).slots) (s₁.setTop (entryFrame m #[(.ref b), (.int d)] 2))
  refine own_st (fun t k => castTop (show entryFrame m #[(.ref b), (.int d)] 2 = mkF m 0 #[.val (.ref b), .val (.int d)] [] by first | (simp [entryFrame, mkF, argsToLocals, Value.category, maxLocals]; done) | rfl) k) ?_
  show own_Fin p.tables e below _ (s₁.setTop (mkF m 0 #[.val (.ref b), .val (.int d)] []))
  have K0 : Keep h0 h0 [nm, ur] := Keep.refl h0 [nm, ur]
  refine own_st (fun t k => XS.aloadN X0.here hx rfl (hb hby d7_0) rfl rfl k) ?_
  show own_Fin p.tables e below _ (s₁.setTop (mkF m 1 #[.val (.ref b), .val (.int d)] [(.ref b)]))
  obtain ⟨T1, X1, e1, st1⟩ := getF X0 hx hZ hown (host := "") (Or.inl (hw _ (List.mem_of_getElem? (i := 19) rfl))) Via.refl e0 F_nm (g := (mkF m 1 #[.val (.ref b), .val (.int d)] [(.ref b)])) rfl rfl (hb hby d7_1)
  refine own_st st1 ?_
  show own_Fin p.tables e below _ (T1.setTop (mkF m 4 #[.val (.ref b), .val (.int d)] [(.ref nm)]))
  refine own_st (fun t k => XS.iconst X1.here hx rfl (hb hby d7_4) k) ?_
  show own_Fin p.tables e below _ (T1.setTop (mkF m 5 #[.val (.ref b), .val (.int d)] [(.int (0 : Int32)), (.ref nm)]))
  refine own_st (fun t k => XS.iloadN X1.here hx rfl (hb hby d7_5) rfl k) ?_
  show own_Fin p.tables e below _ (T1.setTop (mkF m 6 #[.val (.ref b), .val (.int d)] [(.int d), (.int (0 : Int32)), (.ref nm)]))
  refine own_st (fun t k => XS.aconstNull X1.here hx rfl (hb hby d7_6) k) ?_
  show own_Fin p.tables e below _ (T1.setTop (mkF m 7 #[.val (.ref b), .val (.int d)] [.null, (.int d), (.int (0 : Int32)), (.ref nm)]))
  obtain ⟨_, _, ⟨T2, L2, k2, n2⟩, -, X2, ⟨Lc2, hQ2, l2, y2, z2⟩, st2⟩ := Jvm.LawKit.callS X1 hx (y := (⟨"java/util/Arrays", "fill", "([Ljava/lang/Object;IILjava/lang/Object;)V"⟩ : MethodName)) hown (mvT hZ (hw _ (List.mem_of_getElem? (i := 62) rfl))) (mvT hZ (hw _ (List.mem_of_getElem? (i := 63) rfl))) (mvT hZ (hw _ (List.mem_of_getElem? (i := 64) rfl))) (mvT hZ (hw _ (List.mem_of_getElem? (i := 65) rfl))) (by decide) (backOf (W := 0) (rm8 l Z a0 hw [] nm "com/example/chiffchaff/chiffchaff/XmlName" d h0 n0 Z0 O_nm g_nm hd) hZ (hw _ (List.mem_of_getElem? (i := 65) rfl)) (hw _ (List.mem_of_getElem? (i := 64) rfl)) (by decide) (by decide)) (g := (mkF m 7 #[.val (.ref b), .val (.int d)] [.null, (.int d), (.int (0 : Int32)), (.ref nm)])) rfl (by rw [hml]; rfl) (argsL := [(.ref nm), (.int (0 : Int32)), (.int d), .null]) (rest := []) (lenOf pd___Ljava_lang_Object_IILjava_lang_Object__V rfl) rfl (by show 2 * 0 + _ ≤ _; exact Nat.le_of_eq rfl) (hb hby d7_7) (fun _ _ => ⟨rfl, e1, (by decide : 0 + 0 ≤ _), (by decide : 0 + 0 ≤ _)⟩)
  dsimp only [Pt.U, Pt.locs, Pt.cells, Pt.slots] at X2 l2 y2 z2 st2 hQ2
  subst l2 y2 z2
  obtain ⟨rfl, N2, K2⟩ := hQ2
  refine own_st (st2) ?_
  have F_ty'2 := F_ty.keep K2 (ninS (own_neEA E_b (hw _ (List.mem_of_getElem? (i := 11) rfl)) (own_O.A O_nm)) nin0)
  have F_nm'2 := F_nm.keep K2 (ninS (own_neEA E_b (hw _ (List.mem_of_getElem? (i := 11) rfl)) (own_O.A O_nm)) nin0)
  have F_ur'2 := F_ur.keep K2 (ninS (own_neEA E_b (hw _ (List.mem_of_getElem? (i := 11) rfl)) (own_O.A O_nm)) nin0)
  have F_st'2 := F_st.keep K2 (ninS (own_neEA E_b (hw _ (List.mem_of_getElem? (i := 11) rfl)) (own_O.A O_nm)) nin0)
  have O_nm'2 := O_nm.keep K2
  have O_ur'2 := O_ur.keep K2
  have E_b'2 := E_b.keep K2
  have K0'2 := K0.trans K2 (allS (P := fun x => x ∈ ([nm, ur] : List Addr) ∨ h0.size ≤ x) (Or.inl (List.mem_of_getElem? (i := 0) rfl)) all0)
  have Z2 : n0 ≤ T2.heap.size := Nat.le_trans Z0 K2.1
  have N2a := Fr.app N0 N2
  show own_Fin p.tables e below _ (T2.setTop (mkF m 10 #[.val (.ref b), .val (.int d)] []))
  refine own_st (fun t k => XS.aloadN X2.here hx rfl (hb hby d7_10) rfl rfl k) ?_
  show own_Fin p.tables e below _ (T2.setTop (mkF m 11 #[.val (.ref b), .val (.int d)] [(.ref b)]))
  obtain ⟨T3, X3, e3, st3⟩ := getF X2 hx hZ hown (host := "") (Or.inl (hw _ (List.mem_of_getElem? (i := 69) rfl))) Via.refl rfl F_ty'2 (g := (mkF m 11 #[.val (.ref b), .val (.int d)] [(.ref b)])) rfl rfl (hb hby d7_11)
  refine own_st st3 ?_
  show own_Fin p.tables e below _ (T3.setTop (mkF m 14 #[.val (.ref b), .val (.int d)] [.null]))
  refine own_st (fun t k => XS.ifnullYes X3.here hx rfl (pc0 := 14) (pc' := 27) rfl (hb hby d7_14) rfl (by decide) (by decide) k) ?_
  show own_Fin p.tables e below _ (T3.setTop (mkF m 27 #[.val (.ref b), .val (.int d)] []))
  refine own_st (fun t k => XS.aloadN X3.here hx rfl (hb hby d7_27) rfl rfl k) ?_
  show own_Fin p.tables e below _ (T3.setTop (mkF m 28 #[.val (.ref b), .val (.int d)] [(.ref b)]))
  obtain ⟨T4, X4, e4, st4⟩ := getF X3 hx hZ hown (host := "") (Or.inl (hw _ (List.mem_of_getElem? (i := 71) rfl))) Via.refl e3 F_st'2 (g := (mkF m 28 #[.val (.ref b), .val (.int d)] [(.ref b)])) rfl rfl (hb hby d7_28)
  refine own_st st4 ?_
  show own_Fin p.tables e below _ (T4.setTop (mkF m 31 #[.val (.ref b), .val (.int d)] [.null]))
  refine own_st (fun t k => XS.ifnullYes X4.here hx rfl (pc0 := 31) (pc' := 44) rfl (hb hby d7_31) rfl (by decide) (by decide) k) ?_
  show own_Fin p.tables e below _ (T4.setTop (mkF m 44 #[.val (.ref b), .val (.int d)] []))
  refine own_st (fun t k => XS.aloadN X4.here hx rfl (hb hby d7_44) rfl rfl k) ?_
  show own_Fin p.tables e below _ (T4.setTop (mkF m 45 #[.val (.ref b), .val (.int d)] [(.ref b)]))
  obtain ⟨T5, X5, e5, st5⟩ := getF X4 hx hZ hown (host := "") (Or.inl (hw _ (List.mem_of_getElem? (i := 23) rfl))) Via.refl e4 F_ur'2 (g := (mkF m 45 #[.val (.ref b), .val (.int d)] [(.ref b)])) rfl rfl (hb hby d7_45)
  refine own_st st5 ?_
  show own_Fin p.tables e below _ (T5.setTop (mkF m 48 #[.val (.ref b), .val (.int d)] [(.ref ur)]))
  refine own_st (fun t k => XS.iconst X5.here hx rfl (hb hby d7_48) k) ?_
  show own_Fin p.tables e below _ (T5.setTop (mkF m 49 #[.val (.ref b), .val (.int d)] [(.int (0 : Int32)), (.ref ur)]))
  refine own_st (fun t k => XS.iloadN X5.here hx rfl (hb hby d7_49) rfl k) ?_
  show own_Fin p.tables e below _ (T5.setTop (mkF m 50 #[.val (.ref b), .val (.int d)] [(.int d), (.int (0 : Int32)), (.ref ur)]))
  refine own_st (fun t k => XS.aconstNull X5.here hx rfl (hb hby d7_50) k) ?_
  show own_Fin p.tables e below _ (T5.setTop (mkF m 51 #[.val (.ref b), .val (.int d)] [.null, (.int d), (.int (0 : Int32)), (.ref ur)]))
  obtain ⟨_, _, ⟨T6, L6, k6, n6⟩, -, X6, ⟨Lc6, hQ6, l6, y6, z6⟩, st6⟩ := Jvm.LawKit.callS X5 hx (y := (⟨"java/util/Arrays", "fill", "([Ljava/lang/Object;IILjava/lang/Object;)V"⟩ : MethodName)) hown (mvT hZ (hw _ (List.mem_of_getElem? (i := 62) rfl))) (mvT hZ (hw _ (List.mem_of_getElem? (i := 63) rfl))) (mvT hZ (hw _ (List.mem_of_getElem? (i := 64) rfl))) (mvT hZ (hw _ (List.mem_of_getElem? (i := 65) rfl))) (by decide) (backOf (W := 0) (rm8 l Z a0 hw [] ur "java/lang/String" d T2.heap n0 Z2 O_ur'2 g_ur hd) hZ (hw _ (List.mem_of_getElem? (i := 65) rfl)) (hw _ (List.mem_of_getElem? (i := 64) rfl)) (by decide) (by decide)) (g := (mkF m 51 #[.val (.ref b), .val (.int d)] [.null, (.int d), (.int (0 : Int32)), (.ref ur)])) rfl (by rw [hml]; rfl) (argsL := [(.ref ur), (.int (0 : Int32)), (.int d), .null]) (rest := []) (lenOf pd___Ljava_lang_Object_IILjava_lang_Object__V rfl) rfl (by show 2 * 0 + _ ≤ _; exact Nat.le_of_eq rfl) (hb hby d7_51) (fun _ _ => ⟨rfl, e5, (by decide : 0 + 0 ≤ _), (by decide : 0 + 0 ≤ _)⟩)
  dsimp only [Pt.U, Pt.locs, Pt.cells, Pt.slots] at X6 l6 y6 z6 st6 hQ6
  subst l6 y6 z6
  obtain ⟨rfl, N6, K6⟩ := hQ6
  refine own_st (st6) ?_
  have F_ty'6 := F_ty'2.keep K6 (ninS (own_neEA E_b'2 (hw _ (List.mem_of_getElem? (i := 11) rfl)) (own_O.A O_ur'2)) nin0)
  have F_nm'6 := F_nm'2.keep K6 (ninS (own_neEA E_b'2 (hw _ (List.mem_of_getElem? (i := 11) rfl)) (own_O.A O_ur'2)) nin0)
  have F_ur'6 := F_ur'2.keep K6 (ninS (own_neEA E_b'2 (hw _ (List.mem_of_getElem? (i := 11) rfl)) (own_O.A O_ur'2)) nin0)
  have F_st'6 := F_st'2.keep K6 (ninS (own_neEA E_b'2 (hw _ (List.mem_of_getElem? (i := 11) rfl)) (own_O.A O_ur'2)) nin0)
  have O_nm'6 := O_nm'2.keep K6
  have O_ur'6 := O_ur'2.keep K6
  have E_b'6 := E_b'2.keep K6
  have K0'6 := K0'2.trans K6 (allS (P := fun x => x ∈ ([nm, ur] : List Addr) ∨ h0.size ≤ x) (Or.inl (List.mem_of_getElem? (i := 1) rfl)) all0)
  have Z6 : n0 ≤ T6.heap.size := Nat.le_trans Z2 K6.1
  have N6a := Fr.app N2a N6
  show own_Fin p.tables e below _ (T6.setTop (mkF m 54 #[.val (.ref b), .val (.int d)] []))
  obtain ⟨fs, hr, hrun, hended, hW, hsame⟩ := X6.leave (v := none) (fun _ => rfl)
  refine ⟨_, _, X6.returnOut hx Bd.returns (hb hby d7_54) hr, hrun, hended, _, _, rfl, ?_, ⟨_, rfl⟩, hW, hsame.mono (by decide) (by decide)⟩
  show Q7 Z b nm ur d h0 n0 _ T6.heap _
  exact ⟨rfl, N6a, K0'6⟩
def QF1 (Z : State) (b : Addr) (nm : Addr) (ur : Addr) (ty : Addr) (d : Int32) (h0 : Heap) (n0 : Nat) (v : Option Value) (h : Heap) (L : List Loc) : Prop := v = none ∧ Fr n0 L ∧ Keep h0 h [nm, ty, ur]
set_option maxRecDepth 65536 in
set_option maxHeartbeats 40000000 in
theorem rmF1 (l : Launch) (Z : State) (a0 : Array Value) (hw : ∀ d ∈ tables_1, d.before a0 Z = true) (ws : List Jvm.Cond) (b : Addr) (nm : Addr) (ur : Addr) (ty : Addr) (d : Int32) (h0 : Heap) (n0 : Nat) (Z0 : n0 ≤ h0.size) (F_ty : Fld Z h0 b "com/example/chiffchaff/chiffchaff/OpenElements$Block" "types" "[Lcom/example/chiffchaff/chiffchaff/ElementType;" (.ref ty)) (O_ty : own_O Z h0 ty "com/example/chiffchaff/chiffchaff/ElementType" 16) (g_ty : n0 ≤ ty) (F_nm : Fld Z h0 b "com/example/chiffchaff/chiffchaff/OpenElements$Block" "names" "[Lcom/example/chiffchaff/chiffchaff/XmlName;" (.ref nm)) (F_ur : Fld Z h0 b "com/example/chiffchaff/chiffchaff/OpenElements$Block" "uris" "[Ljava/lang/String;" (.ref ur)) (F_st : Fld Z h0 b "com/example/chiffchaff/chiffchaff/OpenElements$Block" "states" "[Ljava/lang/Object;" .null) (O_nm : own_O Z h0 nm "com/example/chiffchaff/chiffchaff/XmlName" 16) (O_ur : own_O Z h0 ur "java/lang/String" 16) (E_b : Exa Z h0 b "com/example/chiffchaff/chiffchaff/OpenElements$Block") (g_nm : n0 ≤ nm) (g_ur : n0 ≤ ur) (hd : (d = 0 ∨ d = 1 ∨ d = 2 ∨ d = 3)) :
    MetFree l (⟨"com/example/chiffchaff/chiffchaff/OpenElements$Block", "free", "(I)V"⟩ : MethodName) (head1 (Jvm.Cond.code (⟨"com/example/chiffchaff/chiffchaff/OpenElements$Block", "free", "(I)V"⟩ : MethodName) prog_53_method_4_code 2 none :: ws) ({ frames := 3, cells := 0, slots := 0, locals := 50 } : Room)) (fun xs U => xs = #[(.ref b), (.int d)] ∧ Z.Warmed39 U.vm ∧ U.heap = h0) (fun _ _ _ _ _ => True) (fun _ U o U' => ∃ v L, o = .returned v ∧ QF1 Z b nm ur ty d h0 n0 v U'.heap L ∧ FrameEnd U o U' L ({ frames := 3, cells := 0, slots := 0, locals := 50 } : Room).cells ({ frames := 3, cells := 0, slots := 0, locals := 50 } : Room).slots) := by
  refine MetFree.of_bodySF (plainFor_of_name pn_com_example_chiffchaff_chiffchaff_OpenElements_Block) hisR ?_
  intro p e s m args below meth c s₁ Bd hml0 hP hK
  obtain ⟨rfl, hZ, hh⟩ := hP
  have hx := Bd.exec
  have hby := Bd.bytes
  have hml : c.maxLocals = 2 := hml0
  have hown : s.vm.findClass "com/example/chiffchaff/chiffchaff/OpenElements$Block" = some m.cls := findClass_of_methodNamed Bd.named
  have hnm := (name_of_methodNamed Bd.named Bd.method).1
  have X0 : Stand p l e ({ frames := 3, cells := 0, slots := 0, locals := 50 } : Room) s m #[(.ref b), (.int d)] below meth c s₁ [] 0 0 := Stand.of_body Bd
  have e0 : s₁.heap = h0 := by rw [← hh, Bd.state]; rfl
  have N0 := Fr.nil n0
  change own_Fin p.tables e below (fun s₂ o => ∃ v L, o = .returned v ∧ QF1 Z b nm ur ty d h0 n0 v s₂.heap L ∧ FrameEnd s o s₂ L ({ frames := 3, cells := 0, slots := 0, locals := 50 } : Room).cells ({ frames := 3, cells := 0, slots := 0, locals := 50 } : Room).slots) (s₁.setTop (entryFrame m #[(.ref b), (.int d)] 2))
  refine own_st (fun t k => castTop (show entryFrame m #[(.ref b), (.int d)] 2 = mkF m 0 #[.val (.ref b), .val (.int d)] [] by first | (simp [entryFrame, mkF, argsToLocals, Value.category, maxLocals]; done) | rfl) k) ?_
  show own_Fin p.tables e below _ (s₁.setTop (mkF m 0 #[.val (.ref b), .val (.int d)] []))
  have K0 : Keep h0 h0 [nm, ty, ur] := Keep.refl h0 [nm, ty, ur]
  refine own_st (fun t k => XS.aloadN X0.here hx rfl (hb hby d7_0) rfl rfl k) ?_
  show own_Fin p.tables e below _ (s₁.setTop (mkF m 1 #[.val (.ref b), .val (.int d)] [(.ref b)]))
  obtain ⟨T1, X1, e1, st1⟩ := getF X0 hx hZ hown (host := "") (Or.inl (hw _ (List.mem_of_getElem? (i := 19) rfl))) Via.refl e0 F_nm (g := (mkF m 1 #[.val (.ref b), .val (.int d)] [(.ref b)])) rfl rfl (hb hby d7_1)
  refine own_st st1 ?_
  show own_Fin p.tables e below _ (T1.setTop (mkF m 4 #[.val (.ref b), .val (.int d)] [(.ref nm)]))
  refine own_st (fun t k => XS.iconst X1.here hx rfl (hb hby d7_4) k) ?_
  show own_Fin p.tables e below _ (T1.setTop (mkF m 5 #[.val (.ref b), .val (.int d)] [(.int (0 : Int32)), (.ref nm)]))
  refine own_st (fun t k => XS.iloadN X1.here hx rfl (hb hby d7_5) rfl k) ?_
  show own_Fin p.tables e below _ (T1.setTop (mkF m 6 #[.val (.ref b), .val (.int d)] [(.int d), (.int (0 : Int32)), (.ref nm)]))
  refine own_st (fun t k => XS.aconstNull X1.here hx rfl (hb hby d7_6) k) ?_
  show own_Fin p.tables e below _ (T1.setTop (mkF m 7 #[.val (.ref b), .val (.int d)] [.null, (.int d), (.int (0 : Int32)), (.ref nm)]))
  obtain ⟨_, _, ⟨T2, L2, k2, n2⟩, -, X2, ⟨Lc2, hQ2, l2, y2, z2⟩, st2⟩ := Jvm.LawKit.callS X1 hx (y := (⟨"java/util/Arrays", "fill", "([Ljava/lang/Object;IILjava/lang/Object;)V"⟩ : MethodName)) hown (mvT hZ (hw _ (List.mem_of_getElem? (i := 62) rfl))) (mvT hZ (hw _ (List.mem_of_getElem? (i := 63) rfl))) (mvT hZ (hw _ (List.mem_of_getElem? (i := 64) rfl))) (mvT hZ (hw _ (List.mem_of_getElem? (i := 65) rfl))) (by decide) (backOf (W := 0) (rm8 l Z a0 hw [] nm "com/example/chiffchaff/chiffchaff/XmlName" d h0 n0 Z0 O_nm g_nm hd) hZ (hw _ (List.mem_of_getElem? (i := 65) rfl)) (hw _ (List.mem_of_getElem? (i := 64) rfl)) (by decide) (by decide)) (g := (mkF m 7 #[.val (.ref b), .val (.int d)] [.null, (.int d), (.int (0 : Int32)), (.ref nm)])) rfl (by rw [hml]; rfl) (argsL := [(.ref nm), (.int (0 : Int32)), (.int d), .null]) (rest := []) (lenOf pd___Ljava_lang_Object_IILjava_lang_Object__V rfl) rfl (by show 2 * 0 + _ ≤ _; exact Nat.le_of_eq rfl) (hb hby d7_7) (fun _ _ => ⟨rfl, e1, (by decide : 0 + 0 ≤ _), (by decide : 0 + 0 ≤ _)⟩)
  dsimp only [Pt.U, Pt.locs, Pt.cells, Pt.slots] at X2 l2 y2 z2 st2 hQ2
  subst l2 y2 z2
  obtain ⟨rfl, N2, K2⟩ := hQ2
  refine own_st (st2) ?_
  have F_ty'2 := F_ty.keep K2 (ninS (own_neEA E_b (hw _ (List.mem_of_getElem? (i := 11) rfl)) (own_O.A O_nm)) nin0)
  have O_ty'2 := O_ty.keep K2
  have F_nm'2 := F_nm.keep K2 (ninS (own_neEA E_b (hw _ (List.mem_of_getElem? (i := 11) rfl)) (own_O.A O_nm)) nin0)
  have F_ur'2 := F_ur.keep K2 (ninS (own_neEA E_b (hw _ (List.mem_of_getElem? (i := 11) rfl)) (own_O.A O_nm)) nin0)
  have F_st'2 := F_st.keep K2 (ninS (own_neEA E_b (hw _ (List.mem_of_getElem? (i := 11) rfl)) (own_O.A O_nm)) nin0)
  have O_nm'2 := O_nm.keep K2
  have O_ur'2 := O_ur.keep K2
  have E_b'2 := E_b.keep K2
  have K0'2 := K0.trans K2 (allS (P := fun x => x ∈ ([nm, ty, ur] : List Addr) ∨ h0.size ≤ x) (Or.inl (List.mem_of_getElem? (i := 0) rfl)) all0)
  have Z2 : n0 ≤ T2.heap.size := Nat.le_trans Z0 K2.1
  have N2a := Fr.app N0 N2
  show own_Fin p.tables e below _ (T2.setTop (mkF m 10 #[.val (.ref b), .val (.int d)] []))
  refine own_st (fun t k => XS.aloadN X2.here hx rfl (hb hby d7_10) rfl rfl k) ?_
  show own_Fin p.tables e below _ (T2.setTop (mkF m 11 #[.val (.ref b), .val (.int d)] [(.ref b)]))
  obtain ⟨T3, X3, e3, st3⟩ := getF X2 hx hZ hown (host := "") (Or.inl (hw _ (List.mem_of_getElem? (i := 69) rfl))) Via.refl rfl F_ty'2 (g := (mkF m 11 #[.val (.ref b), .val (.int d)] [(.ref b)])) rfl rfl (hb hby d7_11)
  refine own_st st3 ?_
  show own_Fin p.tables e below _ (T3.setTop (mkF m 14 #[.val (.ref b), .val (.int d)] [(.ref ty)]))
  refine own_st (fun t k => XS.ifnullNo X3.here hx rfl (hb hby d7_14) rfl k) ?_
  show own_Fin p.tables e below _ (T3.setTop (mkF m 17 #[.val (.ref b), .val (.int d)] []))
  refine own_st (fun t k => XS.aloadN X3.here hx rfl (hb hby d7_17) rfl rfl k) ?_
  show own_Fin p.tables e below _ (T3.setTop (mkF m 18 #[.val (.ref b), .val (.int d)] [(.ref b)]))
  obtain ⟨T4, X4, e4, st4⟩ := getF X3 hx hZ hown (host := "") (Or.inl (hw _ (List.mem_of_getElem? (i := 69) rfl))) Via.refl e3 F_ty'2 (g := (mkF m 18 #[.val (.ref b), .val (.int d)] [(.ref b)])) rfl rfl (hb hby d7_18)
  refine own_st st4 ?_
  show own_Fin p.tables e below _ (T4.setTop (mkF m 21 #[.val (.ref b), .val (.int d)] [(.ref ty)]))
  refine own_st (fun t k => XS.iconst X4.here hx rfl (hb hby d7_21) k) ?_
  show own_Fin p.tables e below _ (T4.setTop (mkF m 22 #[.val (.ref b), .val (.int d)] [(.int (0 : Int32)), (.ref ty)]))
  refine own_st (fun t k => XS.iloadN X4.here hx rfl (hb hby d7_22) rfl k) ?_
  show own_Fin p.tables e below _ (T4.setTop (mkF m 23 #[.val (.ref b), .val (.int d)] [(.int d), (.int (0 : Int32)), (.ref ty)]))
  refine own_st (fun t k => XS.aconstNull X4.here hx rfl (hb hby d7_23) k) ?_
  show own_Fin p.tables e below _ (T4.setTop (mkF m 24 #[.val (.ref b), .val (.int d)] [.null, (.int d), (.int (0 : Int32)), (.ref ty)]))
  obtain ⟨_, _, ⟨T5, L5, k5, n5⟩, -, X5, ⟨Lc5, hQ5, l5, y5, z5⟩, st5⟩ := Jvm.LawKit.callS X4 hx (y := (⟨"java/util/Arrays", "fill", "([Ljava/lang/Object;IILjava/lang/Object;)V"⟩ : MethodName)) hown (mvT hZ (hw _ (List.mem_of_getElem? (i := 62) rfl))) (mvT hZ (hw _ (List.mem_of_getElem? (i := 63) rfl))) (mvT hZ (hw _ (List.mem_of_getElem? (i := 64) rfl))) (mvT hZ (hw _ (List.mem_of_getElem? (i := 65) rfl))) (by decide) (backOf (W := 0) (rm8 l Z a0 hw [] ty "com/example/chiffchaff/chiffchaff/ElementType" d T2.heap n0 Z2 O_ty'2 g_ty hd) hZ (hw _ (List.mem_of_getElem? (i := 65) rfl)) (hw _ (List.mem_of_getElem? (i := 64) rfl)) (by decide) (by decide)) (g := (mkF m 24 #[.val (.ref b), .val (.int d)] [.null, (.int d), (.int (0 : Int32)), (.ref ty)])) rfl (by rw [hml]; rfl) (argsL := [(.ref ty), (.int (0 : Int32)), (.int d), .null]) (rest := []) (lenOf pd___Ljava_lang_Object_IILjava_lang_Object__V rfl) rfl (by show 2 * 0 + _ ≤ _; exact Nat.le_of_eq rfl) (hb hby d7_24) (fun _ _ => ⟨rfl, e4, (by decide : 0 + 0 ≤ _), (by decide : 0 + 0 ≤ _)⟩)
  dsimp only [Pt.U, Pt.locs, Pt.cells, Pt.slots] at X5 l5 y5 z5 st5 hQ5
  subst l5 y5 z5
  obtain ⟨rfl, N5, K5⟩ := hQ5
  refine own_st (st5) ?_
  have F_ty'5 := F_ty'2.keep K5 (ninS (own_neEA E_b'2 (hw _ (List.mem_of_getElem? (i := 11) rfl)) (own_O.A O_ty'2)) nin0)
  have O_ty'5 := O_ty'2.keep K5
  have F_nm'5 := F_nm'2.keep K5 (ninS (own_neEA E_b'2 (hw _ (List.mem_of_getElem? (i := 11) rfl)) (own_O.A O_ty'2)) nin0)
  have F_ur'5 := F_ur'2.keep K5 (ninS (own_neEA E_b'2 (hw _ (List.mem_of_getElem? (i := 11) rfl)) (own_O.A O_ty'2)) nin0)
  have F_st'5 := F_st'2.keep K5 (ninS (own_neEA E_b'2 (hw _ (List.mem_of_getElem? (i := 11) rfl)) (own_O.A O_ty'2)) nin0)
  have O_nm'5 := O_nm'2.keep K5
  have O_ur'5 := O_ur'2.keep K5
  have E_b'5 := E_b'2.keep K5
  have K0'5 := K0'2.trans K5 (allS (P := fun x => x ∈ ([nm, ty, ur] : List Addr) ∨ h0.size ≤ x) (Or.inl (List.mem_of_getElem? (i := 1) rfl)) all0)
  have Z5 : n0 ≤ T5.heap.size := Nat.le_trans Z2 K5.1
  have N5a := Fr.app N2a N5
  show own_Fin p.tables e below _ (T5.setTop (mkF m 27 #[.val (.ref b), .val (.int d)] []))
  refine own_st (fun t k => XS.aloadN X5.here hx rfl (hb hby d7_27) rfl rfl k) ?_
  show own_Fin p.tables e below _ (T5.setTop (mkF m 28 #[.val (.ref b), .val (.int d)] [(.ref b)]))
  obtain ⟨T6, X6, e6, st6⟩ := getF X5 hx hZ hown (host := "") (Or.inl (hw _ (List.mem_of_getElem? (i := 71) rfl))) Via.refl rfl F_st'5 (g := (mkF m 28 #[.val (.ref b), .val (.int d)] [(.ref b)])) rfl rfl (hb hby d7_28)
  refine own_st st6 ?_
  show own_Fin p.tables e below _ (T6.setTop (mkF m 31 #[.val (.ref b), .val (.int d)] [.null]))
  refine own_st (fun t k => XS.ifnullYes X6.here hx rfl (pc0 := 31) (pc' := 44) rfl (hb hby d7_31) rfl (by decide) (by decide) k) ?_
  show own_Fin p.tables e below _ (T6.setTop (mkF m 44 #[.val (.ref b), .val (.int d)] []))
  refine own_st (fun t k => XS.aloadN X6.here hx rfl (hb hby d7_44) rfl rfl k) ?_
  show own_Fin p.tables e below _ (T6.setTop (mkF m 45 #[.val (.ref b), .val (.int d)] [(.ref b)]))
  obtain ⟨T7, X7, e7, st7⟩ := getF X6 hx hZ hown (host := "") (Or.inl (hw _ (List.mem_of_getElem? (i := 23) rfl))) Via.refl e6 F_ur'5 (g := (mkF m 45 #[.val (.ref b), .val (.int d)] [(.ref b)])) rfl rfl (hb hby d7_45)
  refine own_st st7 ?_
  show own_Fin p.tables e below _ (T7.setTop (mkF m 48 #[.val (.ref b), .val (.int d)] [(.ref ur)]))
  refine own_st (fun t k => XS.iconst X7.here hx rfl (hb hby d7_48) k) ?_
  show own_Fin p.tables e below _ (T7.setTop (mkF m 49 #[.val (.ref b), .val (.int d)] [(.int (0 : Int32)), (.ref ur)]))
  refine own_st (fun t k => XS.iloadN X7.here hx rfl (hb hby d7_49) rfl k) ?_
  show own_Fin p.tables e below _ (T7.setTop (mkF m 50 #[.val (.ref b), .val (.int d)] [(.int d), (.int (0 : Int32)), (.ref ur)]))
  refine own_st (fun t k => XS.aconstNull X7.here hx rfl (hb hby d7_50) k) ?_
  show own_Fin p.tables e below _ (T7.setTop (mkF m 51 #[.val (.ref b), .val (.int d)] [.null, (.int d), (.int (0 : Int32)), (.ref ur)]))
  obtain ⟨_, _, ⟨T8, L8, k8, n8⟩, -, X8, ⟨Lc8, hQ8, l8, y8, z8⟩, st8⟩ := Jvm.LawKit.callS X7 hx (y := (⟨"java/util/Arrays", "fill", "([Ljava/lang/Object;IILjava/lang/Object;)V"⟩ : MethodName)) hown (mvT hZ (hw _ (List.mem_of_getElem? (i := 62) rfl))) (mvT hZ (hw _ (List.mem_of_getElem? (i := 63) rfl))) (mvT hZ (hw _ (List.mem_of_getElem? (i := 64) rfl))) (mvT hZ (hw _ (List.mem_of_getElem? (i := 65) rfl))) (by decide) (backOf (W := 0) (rm8 l Z a0 hw [] ur "java/lang/String" d T5.heap n0 Z5 O_ur'5 g_ur hd) hZ (hw _ (List.mem_of_getElem? (i := 65) rfl)) (hw _ (List.mem_of_getElem? (i := 64) rfl)) (by decide) (by decide)) (g := (mkF m 51 #[.val (.ref b), .val (.int d)] [.null, (.int d), (.int (0 : Int32)), (.ref ur)])) rfl (by rw [hml]; rfl) (argsL := [(.ref ur), (.int (0 : Int32)), (.int d), .null]) (rest := []) (lenOf pd___Ljava_lang_Object_IILjava_lang_Object__V rfl) rfl (by show 2 * 0 + _ ≤ _; exact Nat.le_of_eq rfl) (hb hby d7_51) (fun _ _ => ⟨rfl, e7, (by decide : 0 + 0 ≤ _), (by decide : 0 + 0 ≤ _)⟩)
  dsimp only [Pt.U, Pt.locs, Pt.cells, Pt.slots] at X8 l8 y8 z8 st8 hQ8
  subst l8 y8 z8
  obtain ⟨rfl, N8, K8⟩ := hQ8
  refine own_st (st8) ?_
  have F_ty'8 := F_ty'5.keep K8 (ninS (own_neEA E_b'5 (hw _ (List.mem_of_getElem? (i := 11) rfl)) (own_O.A O_ur'5)) nin0)
  have O_ty'8 := O_ty'5.keep K8
  have F_nm'8 := F_nm'5.keep K8 (ninS (own_neEA E_b'5 (hw _ (List.mem_of_getElem? (i := 11) rfl)) (own_O.A O_ur'5)) nin0)
  have F_ur'8 := F_ur'5.keep K8 (ninS (own_neEA E_b'5 (hw _ (List.mem_of_getElem? (i := 11) rfl)) (own_O.A O_ur'5)) nin0)
  have F_st'8 := F_st'5.keep K8 (ninS (own_neEA E_b'5 (hw _ (List.mem_of_getElem? (i := 11) rfl)) (own_O.A O_ur'5)) nin0)
  have O_nm'8 := O_nm'5.keep K8
  have O_ur'8 := O_ur'5.keep K8
  have E_b'8 := E_b'5.keep K8
  have K0'8 := K0'5.trans K8 (allS (P := fun x => x ∈ ([nm, ty, ur] : List Addr) ∨ h0.size ≤ x) (Or.inl (List.mem_of_getElem? (i := 2) rfl)) all0)
  have Z8 : n0 ≤ T8.heap.size := Nat.le_trans Z5 K8.1
  have N8a := Fr.app N5a N8
  show own_Fin p.tables e below _ (T8.setTop (mkF m 54 #[.val (.ref b), .val (.int d)] []))
  obtain ⟨fs, hr, hrun, hended, hW, hsame⟩ := X8.leave (v := none) (fun _ => rfl)
  refine ⟨_, _, X8.returnOut hx Bd.returns (hb hby d7_54) hr, hrun, hended, _, _, rfl, ?_, ⟨_, rfl⟩, hW, hsame.mono (by decide) (by decide)⟩
  show QF1 Z b nm ur ty d h0 n0 _ T8.heap _
  exact ⟨rfl, N8a, K0'8⟩
def Q6 (Z : State) (a : Addr) (b : Addr) (bl : Addr) (nm : Addr) (ur : Addr) (lv : Addr) (bd : Addr) (kB : ClassId) (tv : Value) (d : Int32) (h0 : Heap) (n0 : Nat) (v : Option Value) (h : Heap) (L : List Loc) : Prop := v = none ∧ Fr n0 L ∧ Old Z n0 h ∧ ∃ tv', own_OE Z h n0 a b bl nm ur lv bd kB tv' 0
set_option maxRecDepth 65536 in
set_option maxHeartbeats 40000000 in
theorem rm6 (l : Launch) (Z : State) (a0 : Array Value) (hw : ∀ d ∈ tables_1, d.before a0 Z = true) (ws : List Jvm.Cond) (a : Addr) (b : Addr) (bl : Addr) (nm : Addr) (ur : Addr) (lv : Addr) (bd : Addr) (kB : ClassId) (tv : Value) (d : Int32) (h0 : Heap) (n0 : Nat) (Z0 : n0 ≤ h0.size) (OE0 : own_OE Z h0 n0 a b bl nm ur lv bd kB tv d) (O0 : Old Z n0 h0) (hd : (d = 0 ∨ d = 1 ∨ d = 2 ∨ d = 3)) :
    MetFree l (⟨"com/example/chiffchaff/chiffchaff/OpenElements", "clear", "()V"⟩ : MethodName) (head1 (Jvm.Cond.code (⟨"com/example/chiffchaff/chiffchaff/OpenElements", "clear", "()V"⟩ : MethodName) prog_52_method_5_code 1 none :: ws) ({ frames := 4, cells := 0, slots := 0, locals := 70 } : Room)) (fun xs U => xs = #[(.ref a)] ∧ Z.Warmed39 U.vm ∧ U.heap = h0) (fun _ _ _ _ _ => True) (fun _ U o U' => ∃ v L, o = .returned v ∧ Q6 Z a b bl nm ur lv bd kB tv d h0 n0 v U'.heap L ∧ FrameEnd U o U' L ({ frames := 4, cells := 0, slots := 0, locals := 70 } : Room).cells ({ frames := 4, cells := 0, slots := 0, locals := 70 } : Room).slots) := by
  refine MetFree.of_bodySF (plainFor_of_name pn_com_example_chiffchaff_chiffchaff_OpenElements) hisR ?_
  intro p e s m args below meth c s₁ Bd hml0 hP hK
  obtain ⟨rfl, hZ, hh⟩ := hP
  have hx := Bd.exec
  have hby := Bd.bytes
  have hml : c.maxLocals = 1 := hml0
  have hown : s.vm.findClass "com/example/chiffchaff/chiffchaff/OpenElements" = some m.cls := findClass_of_methodNamed Bd.named
  have hnm := (name_of_methodNamed Bd.named Bd.method).1
  have X0 : Stand p l e ({ frames := 4, cells := 0, slots := 0, locals := 70 } : Room) s m #[(.ref a)] below meth c s₁ [] 0 0 := Stand.of_body Bd
  have e0 : s₁.heap = h0 := by rw [← hh, Bd.state]; rfl
  have N0 := Fr.nil n0
  change own_Fin p.tables e below (fun s₂ o => ∃ v L, o = .returned v ∧ Q6 Z a b bl nm ur lv bd kB tv d h0 n0 v s₂.heap L ∧ FrameEnd s o s₂ L ({ frames := 4, cells := 0, slots := 0, locals := 70 } : Room).cells ({ frames := 4, cells := 0, slots := 0, locals := 70 } : Room).slots) (s₁.setTop (entryFrame m #[(.ref a)] 1))
  refine own_st (fun t k => castTop (show entryFrame m #[(.ref a)] 1 = mkF m 0 #[.val (.ref a)] [] by first | (simp [entryFrame, mkF, argsToLocals, Value.category, maxLocals]; done) | rfl) k) ?_
  show own_Fin p.tables e below _ (s₁.setTop (mkF m 0 #[.val (.ref a)] []))
  obtain ⟨⟨E_a, E_b, F_bl, F_top, F_at, F_d, V_bl⟩, ⟨F_nm, F_ur, F_lv, F_bd, F_ty, F_st⟩, ⟨O_nm, O_ur, A_lv, A_bd, hty⟩, ⟨g_a, g_b, g_nm, g_ur, g_lv, g_bd⟩⟩ := OE0
  rcases hty with rfl | ⟨ty, rfl, O_ty, g_ty⟩
  · have _ := g_a
    refine own_st (fun t k => XS.aloadN X0.here hx rfl (hb hby d6_0) rfl rfl k) ?_
    show own_Fin p.tables e below _ (s₁.setTop (mkF m 1 #[.val (.ref a)] [(.ref a)]))
    obtain ⟨T1, X1, e1, st1⟩ := getF X0 hx hZ hown (host := "") (Or.inl (hw _ (List.mem_of_getElem? (i := 32) rfl))) Via.refl e0 F_bl (g := (mkF m 1 #[.val (.ref a)] [(.ref a)])) rfl rfl (hb hby d6_1)
    refine own_st st1 ?_
    show own_Fin p.tables e below _ (T1.setTop (mkF m 4 #[.val (.ref a)] [(.ref bl)]))
    refine own_st (fun t k => XS.iconst X1.here hx rfl (hb hby d6_4) k) ?_
    show own_Fin p.tables e below _ (T1.setTop (mkF m 5 #[.val (.ref a)] [(.int (0 : Int32)), (.ref bl)]))
    refine own_st (fun t k => own_aald X1 hx hZ e1 V_bl rfl (j := (0 : Int32)) ⟨by decide, by decide⟩ (v := (.ref b)) rfl (g := (mkF m 5 #[.val (.ref a)] [(.int (0 : Int32)), (.ref bl)])) rfl rfl (hb hby d6_5) t k) ?_
    show own_Fin p.tables e below _ (T1.setTop (mkF m 6 #[.val (.ref a)] [(.ref b)]))
    refine own_st (fun t k => XS.aloadN X1.here hx rfl (hb hby d6_6) rfl rfl k) ?_
    show own_Fin p.tables e below _ (T1.setTop (mkF m 7 #[.val (.ref a)] [(.ref a), (.ref b)]))
    obtain ⟨T2, X2, e2, st2⟩ := getF X1 hx hZ hown (host := "") (Or.inl (hw _ (List.mem_of_getElem? (i := 56) rfl))) Via.refl e1 F_d (g := (mkF m 7 #[.val (.ref a)] [(.ref a), (.ref b)])) rfl rfl (hb hby d6_7)
    refine own_st st2 ?_
    show own_Fin p.tables e below _ (T2.setTop (mkF m 10 #[.val (.ref a)] [(.int d), (.ref b)]))
    obtain ⟨_, ⟨T3, L3, k3, n3⟩, X3, ⟨Lc3, hQ3, l3, y3, z3⟩, st3⟩ := own_virtR X2 hx hZ (y := (⟨"com/example/chiffchaff/chiffchaff/OpenElements$Block", "free", "(I)V"⟩ : MethodName)) hown (hw _ (List.mem_of_getElem? (i := 58) rfl)) (hw _ (List.mem_of_getElem? (i := 59) rfl)) (hw _ (List.mem_of_getElem? (i := 60) rfl)) (hw _ (List.mem_of_getElem? (i := 61) rfl)) (hw _ (List.mem_of_getElem? (i := 11) rfl)) (by decide) (backOf (W := 0) (rm7 l Z a0 hw [] b nm ur d h0 n0 Z0 F_ty F_nm F_ur F_st O_nm O_ur E_b g_nm g_ur hd) hZ (hw _ (List.mem_of_getElem? (i := 61) rfl)) (hw _ (List.mem_of_getElem? (i := 12) rfl)) (by decide) (by decide)) e2 E_b (g := (mkF m 10 #[.val (.ref a)] [(.int d), (.ref b)])) rfl (by rw [hml]; rfl) (a := b) (argsL := [(.int d)]) (rest := []) (lenOf pd__I_V rfl) rfl (by show 2 * 0 + _ ≤ _; exact Nat.le_of_eq rfl) (hb hby d6_10) (⟨rfl, e2, (by decide : 0 + 0 ≤ _), (by decide : 0 + 0 ≤ _)⟩)
    dsimp only [Pt.U, Pt.locs, Pt.cells, Pt.slots] at X3 l3 y3 z3 st3 hQ3
    subst l3 y3 z3
    obtain ⟨rfl, N3, K3⟩ := hQ3
    refine own_st (fun t k => st3.trans k) ?_
    have O0'3 := O0.keep K3 (allS g_nm (allS g_ur all0))
    have E_a'3 := E_a.keep K3
    have E_b'3 := E_b.keep K3
    have F_bl'3 := F_bl.keep K3 (ninS (own_neEA E_a (hw _ (List.mem_of_getElem? (i := 1) rfl)) (own_O.A O_nm)) (ninS (own_neEA E_a (hw _ (List.mem_of_getElem? (i := 1) rfl)) (own_O.A O_ur)) nin0))
    have F_top'3 := F_top.keep K3 (ninS (own_neEA E_a (hw _ (List.mem_of_getElem? (i := 1) rfl)) (own_O.A O_nm)) (ninS (own_neEA E_a (hw _ (List.mem_of_getElem? (i := 1) rfl)) (own_O.A O_ur)) nin0))
    have F_at'3 := F_at.keep K3 (ninS (own_neEA E_a (hw _ (List.mem_of_getElem? (i := 1) rfl)) (own_O.A O_nm)) (ninS (own_neEA E_a (hw _ (List.mem_of_getElem? (i := 1) rfl)) (own_O.A O_ur)) nin0))
    have F_d'3 := F_d.keep K3 (ninS (own_neEA E_a (hw _ (List.mem_of_getElem? (i := 1) rfl)) (own_O.A O_nm)) (ninS (own_neEA E_a (hw _ (List.mem_of_getElem? (i := 1) rfl)) (own_O.A O_ur)) nin0))
    have V_bl'3 := V_bl.keep K3 (ninS (own_neAA (own_Arv V_bl) (own_O.A O_nm) (by decide)) (ninS (own_neAA (own_Arv V_bl) (own_O.A O_ur) (by decide)) nin0))
    have F_nm'3 := F_nm.keep K3 (ninS (own_neEA E_b (hw _ (List.mem_of_getElem? (i := 11) rfl)) (own_O.A O_nm)) (ninS (own_neEA E_b (hw _ (List.mem_of_getElem? (i := 11) rfl)) (own_O.A O_ur)) nin0))
    have F_ur'3 := F_ur.keep K3 (ninS (own_neEA E_b (hw _ (List.mem_of_getElem? (i := 11) rfl)) (own_O.A O_nm)) (ninS (own_neEA E_b (hw _ (List.mem_of_getElem? (i := 11) rfl)) (own_O.A O_ur)) nin0))
    have F_lv'3 := F_lv.keep K3 (ninS (own_neEA E_b (hw _ (List.mem_of_getElem? (i := 11) rfl)) (own_O.A O_nm)) (ninS (own_neEA E_b (hw _ (List.mem_of_getElem? (i := 11) rfl)) (own_O.A O_ur)) nin0))
    have F_bd'3 := F_bd.keep K3 (ninS (own_neEA E_b (hw _ (List.mem_of_getElem? (i := 11) rfl)) (own_O.A O_nm)) (ninS (own_neEA E_b (hw _ (List.mem_of_getElem? (i := 11) rfl)) (own_O.A O_ur)) nin0))
    have F_ty'3 := F_ty.keep K3 (ninS (own_neEA E_b (hw _ (List.mem_of_getElem? (i := 11) rfl)) (own_O.A O_nm)) (ninS (own_neEA E_b (hw _ (List.mem_of_getElem? (i := 11) rfl)) (own_O.A O_ur)) nin0))
    have F_st'3 := F_st.keep K3 (ninS (own_neEA E_b (hw _ (List.mem_of_getElem? (i := 11) rfl)) (own_O.A O_nm)) (ninS (own_neEA E_b (hw _ (List.mem_of_getElem? (i := 11) rfl)) (own_O.A O_ur)) nin0))
    have O_nm'3 := O_nm.keep K3
    have O_ur'3 := O_ur.keep K3
    have A_lv'3 := A_lv.keep K3
    have A_bd'3 := A_bd.keep K3
    have Z3 : n0 ≤ T3.heap.size := Nat.le_trans Z0 K3.1
    have N3a := Fr.app N0 N3
    show own_Fin p.tables e below _ (T3.setTop (mkF m 13 #[.val (.ref a)] []))
    refine own_st (fun t k => XS.aloadN X3.here hx rfl (hb hby d6_13) rfl rfl k) ?_
    show own_Fin p.tables e below _ (T3.setTop (mkF m 14 #[.val (.ref a)] [(.ref a)]))
    refine own_st (fun t k => XS.aloadN X3.here hx rfl (hb hby d6_14) rfl rfl k) ?_
    show own_Fin p.tables e below _ (T3.setTop (mkF m 15 #[.val (.ref a)] [(.ref a), (.ref a)]))
    obtain ⟨T4, X4, e4, st4⟩ := getF X3 hx hZ hown (host := "") (Or.inl (hw _ (List.mem_of_getElem? (i := 32) rfl))) Via.refl rfl F_bl'3 (g := (mkF m 15 #[.val (.ref a)] [(.ref a), (.ref a)])) rfl rfl (hb hby d6_15)
    refine own_st st4 ?_
    show own_Fin p.tables e below _ (T4.setTop (mkF m 18 #[.val (.ref a)] [(.ref bl), (.ref a)]))
    refine own_st (fun t k => XS.iconst X4.here hx rfl (hb hby d6_18) k) ?_
    show own_Fin p.tables e below _ (T4.setTop (mkF m 19 #[.val (.ref a)] [(.int (0 : Int32)), (.ref bl), (.ref a)]))
    refine own_st (fun t k => own_aald X4 hx hZ e4 V_bl'3 rfl (j := (0 : Int32)) ⟨by decide, by decide⟩ (v := (.ref b)) rfl (g := (mkF m 19 #[.val (.ref a)] [(.int (0 : Int32)), (.ref bl), (.ref a)])) rfl rfl (hb hby d6_19) t k) ?_
    show own_Fin p.tables e below _ (T4.setTop (mkF m 20 #[.val (.ref a)] [(.ref b), (.ref a)]))
    obtain ⟨T5, h5, X5, e5, W5, st5⟩ := putF X4 hx hZ hown (host := "") (Or.inl (hw _ (List.mem_of_getElem? (i := 34) rfl))) Via.refl e4 F_top'3 E_a'3 (Or.inl (hw _ (List.mem_of_getElem? (i := 35) rfl))) (hw _ (List.mem_of_getElem? (i := 1) rfl)) (ty := (.object "com/example/chiffchaff/chiffchaff/OpenElements$Block")) (by decide) rfl rfl (g := (mkF m 20 #[.val (.ref a)] [(.ref b), (.ref a)])) rfl rfl (hb hby d6_20)
    refine own_st st5 ?_
    have O0'5 := O0'3.wr W5 g_a
    have E_a'5 := E_a'3.wr W5
    have E_b'5 := E_b'3.wr W5
    have F_bl'5 := F_bl'3.other W5 (Or.inr (slot_ne (Or.inl (hw _ (List.mem_of_getElem? (i := 33) rfl))) (Or.inl (hw _ (List.mem_of_getElem? (i := 35) rfl))) (by decide) (t := (.array (.object "com/example/chiffchaff/chiffchaff/OpenElements$Block"))) (t' := (.object "com/example/chiffchaff/chiffchaff/OpenElements$Block")) (by decide) (by decide)))
    have F_top'5 := F_top'3.same W5
    have F_at'5 := F_at'3.other W5 (Or.inr (slot_ne (Or.inl (hw _ (List.mem_of_getElem? (i := 37) rfl))) (Or.inl (hw _ (List.mem_of_getElem? (i := 35) rfl))) (by decide) (t := .int) (t' := (.object "com/example/chiffchaff/chiffchaff/OpenElements$Block")) (by decide) (by decide)))
    have F_d'5 := F_d'3.other W5 (Or.inr (slot_ne (Or.inl (hw _ (List.mem_of_getElem? (i := 57) rfl))) (Or.inl (hw _ (List.mem_of_getElem? (i := 35) rfl))) (by decide) (t := .int) (t' := (.object "com/example/chiffchaff/chiffchaff/OpenElements$Block")) (by decide) (by decide)))
    have V_bl'5 := V_bl'3.other W5 (Ne.symm (own_neEA E_a'3 (hw _ (List.mem_of_getElem? (i := 1) rfl)) (own_Arv V_bl'3)))
    have F_nm'5 := F_nm'3.other W5 (Or.inl (ne_exa E_b'3 E_a'3 (by decide)))
    have F_ur'5 := F_ur'3.other W5 (Or.inl (ne_exa E_b'3 E_a'3 (by decide)))
    have F_lv'5 := F_lv'3.other W5 (Or.inl (ne_exa E_b'3 E_a'3 (by decide)))
    have F_bd'5 := F_bd'3.other W5 (Or.inl (ne_exa E_b'3 E_a'3 (by decide)))
    have F_ty'5 := F_ty'3.other W5 (Or.inl (ne_exa E_b'3 E_a'3 (by decide)))
    have F_st'5 := F_st'3.other W5 (Or.inl (ne_exa E_b'3 E_a'3 (by decide)))
    have O_nm'5 := O_nm'3.wr W5
    have O_ur'5 := O_ur'3.wr W5
    have A_lv'5 := A_lv'3.wr W5
    have A_bd'5 := A_bd'3.wr W5
    have N5 := Fr.snoc X5 N3a g_a
    have Z5 : n0 ≤ h5.size := by rw [W5.size]; exact Z3
    show own_Fin p.tables e below _ (T5.setTop (mkF m 23 #[.val (.ref a)] []))
    refine own_st (fun t k => XS.aloadN X5.here hx rfl (hb hby d6_23) rfl rfl k) ?_
    show own_Fin p.tables e below _ (T5.setTop (mkF m 24 #[.val (.ref a)] [(.ref a)]))
    refine own_st (fun t k => XS.iconst X5.here hx rfl (hb hby d6_24) k) ?_
    show own_Fin p.tables e below _ (T5.setTop (mkF m 25 #[.val (.ref a)] [(.int (-1 : Int32)), (.ref a)]))
    obtain ⟨T6, h6, X6, e6, W6, st6⟩ := putF X5 hx hZ hown (host := "") (Or.inl (hw _ (List.mem_of_getElem? (i := 36) rfl))) Via.refl e5 F_at'5 E_a'5 (Or.inl (hw _ (List.mem_of_getElem? (i := 37) rfl))) (hw _ (List.mem_of_getElem? (i := 1) rfl)) (ty := .int) (by decide) rfl rfl (g := (mkF m 25 #[.val (.ref a)] [(.int (-1 : Int32)), (.ref a)])) rfl rfl (hb hby d6_25)
    refine own_st st6 ?_
    have O0'6 := O0'5.wr W6 g_a
    have E_a'6 := E_a'5.wr W6
    have E_b'6 := E_b'5.wr W6
    have F_bl'6 := F_bl'5.other W6 (Or.inr (slot_ne (Or.inl (hw _ (List.mem_of_getElem? (i := 33) rfl))) (Or.inl (hw _ (List.mem_of_getElem? (i := 37) rfl))) (by decide) (t := (.array (.object "com/example/chiffchaff/chiffchaff/OpenElements$Block"))) (t' := .int) (by decide) (by decide)))
    have F_top'6 := F_top'5.other W6 (Or.inr (slot_ne (Or.inl (hw _ (List.mem_of_getElem? (i := 35) rfl))) (Or.inl (hw _ (List.mem_of_getElem? (i := 37) rfl))) (by decide) (t := (.object "com/example/chiffchaff/chiffchaff/OpenElements$Block")) (t' := .int) (by decide) (by decide)))
    have F_at'6 := F_at'5.same W6
    have F_d'6 := F_d'5.other W6 (Or.inr (slot_ne (Or.inl (hw _ (List.mem_of_getElem? (i := 57) rfl))) (Or.inl (hw _ (List.mem_of_getElem? (i := 37) rfl))) (by decide) (t := .int) (t' := .int) (by decide) (by decide)))
    have V_bl'6 := V_bl'5.other W6 (Ne.symm (own_neEA E_a'5 (hw _ (List.mem_of_getElem? (i := 1) rfl)) (own_Arv V_bl'5)))
    have F_nm'6 := F_nm'5.other W6 (Or.inl (ne_exa E_b'5 E_a'5 (by decide)))
    have F_ur'6 := F_ur'5.other W6 (Or.inl (ne_exa E_b'5 E_a'5 (by decide)))
    have F_lv'6 := F_lv'5.other W6 (Or.inl (ne_exa E_b'5 E_a'5 (by decide)))
    have F_bd'6 := F_bd'5.other W6 (Or.inl (ne_exa E_b'5 E_a'5 (by decide)))
    have F_ty'6 := F_ty'5.other W6 (Or.inl (ne_exa E_b'5 E_a'5 (by decide)))
    have F_st'6 := F_st'5.other W6 (Or.inl (ne_exa E_b'5 E_a'5 (by decide)))
    have O_nm'6 := O_nm'5.wr W6
    have O_ur'6 := O_ur'5.wr W6
    have A_lv'6 := A_lv'5.wr W6
    have A_bd'6 := A_bd'5.wr W6
    have N6 := Fr.snoc X6 N5 g_a
    have Z6 : n0 ≤ h6.size := by rw [W6.size]; exact Z5
    show own_Fin p.tables e below _ (T6.setTop (mkF m 28 #[.val (.ref a)] []))
    refine own_st (fun t k => XS.aloadN X6.here hx rfl (hb hby d6_28) rfl rfl k) ?_
    show own_Fin p.tables e below _ (T6.setTop (mkF m 29 #[.val (.ref a)] [(.ref a)]))
    refine own_st (fun t k => XS.iconst X6.here hx rfl (hb hby d6_29) k) ?_
    show own_Fin p.tables e below _ (T6.setTop (mkF m 30 #[.val (.ref a)] [(.int (0 : Int32)), (.ref a)]))
    obtain ⟨T7, h7, X7, e7, W7, st7⟩ := putF X6 hx hZ hown (host := "") (Or.inl (hw _ (List.mem_of_getElem? (i := 56) rfl))) Via.refl e6 F_d'6 E_a'6 (Or.inl (hw _ (List.mem_of_getElem? (i := 57) rfl))) (hw _ (List.mem_of_getElem? (i := 1) rfl)) (ty := .int) (by decide) rfl rfl (g := (mkF m 30 #[.val (.ref a)] [(.int (0 : Int32)), (.ref a)])) rfl rfl (hb hby d6_30)
    refine own_st st7 ?_
    have O0'7 := O0'6.wr W7 g_a
    have E_a'7 := E_a'6.wr W7
    have E_b'7 := E_b'6.wr W7
    have F_bl'7 := F_bl'6.other W7 (Or.inr (slot_ne (Or.inl (hw _ (List.mem_of_getElem? (i := 33) rfl))) (Or.inl (hw _ (List.mem_of_getElem? (i := 57) rfl))) (by decide) (t := (.array (.object "com/example/chiffchaff/chiffchaff/OpenElements$Block"))) (t' := .int) (by decide) (by decide)))
    have F_top'7 := F_top'6.other W7 (Or.inr (slot_ne (Or.inl (hw _ (List.mem_of_getElem? (i := 35) rfl))) (Or.inl (hw _ (List.mem_of_getElem? (i := 57) rfl))) (by decide) (t := (.object "com/example/chiffchaff/chiffchaff/OpenElements$Block")) (t' := .int) (by decide) (by decide)))
    have F_at'7 := F_at'6.other W7 (Or.inr (slot_ne (Or.inl (hw _ (List.mem_of_getElem? (i := 37) rfl))) (Or.inl (hw _ (List.mem_of_getElem? (i := 57) rfl))) (by decide) (t := .int) (t' := .int) (by decide) (by decide)))
    have F_d'7 := F_d'6.same W7
    have V_bl'7 := V_bl'6.other W7 (Ne.symm (own_neEA E_a'6 (hw _ (List.mem_of_getElem? (i := 1) rfl)) (own_Arv V_bl'6)))
    have F_nm'7 := F_nm'6.other W7 (Or.inl (ne_exa E_b'6 E_a'6 (by decide)))
    have F_ur'7 := F_ur'6.other W7 (Or.inl (ne_exa E_b'6 E_a'6 (by decide)))
    have F_lv'7 := F_lv'6.other W7 (Or.inl (ne_exa E_b'6 E_a'6 (by decide)))
    have F_bd'7 := F_bd'6.other W7 (Or.inl (ne_exa E_b'6 E_a'6 (by decide)))
    have F_ty'7 := F_ty'6.other W7 (Or.inl (ne_exa E_b'6 E_a'6 (by decide)))
    have F_st'7 := F_st'6.other W7 (Or.inl (ne_exa E_b'6 E_a'6 (by decide)))
    have O_nm'7 := O_nm'6.wr W7
    have O_ur'7 := O_ur'6.wr W7
    have A_lv'7 := A_lv'6.wr W7
    have A_bd'7 := A_bd'6.wr W7
    have N7 := Fr.snoc X7 N6 g_a
    have Z7 : n0 ≤ h7.size := by rw [W7.size]; exact Z6
    show own_Fin p.tables e below _ (T7.setTop (mkF m 33 #[.val (.ref a)] []))
    obtain ⟨fs, hr, hrun, hended, hW, hsame⟩ := X7.leave (v := none) (fun _ => rfl)
    refine ⟨_, _, X7.returnOut hx Bd.returns (hb hby d6_33) hr, hrun, hended, _, _, rfl, ?_, ⟨_, rfl⟩, hW, hsame.mono (by decide) (by decide)⟩
    show Q6 Z a b bl nm ur lv bd kB .null d h0 n0 _ T7.heap _
    rw [e7]
    exact ⟨rfl, N7, O0'7, _, ⟨⟨E_a'7, E_b'7, F_bl'7, F_top'7, F_at'7, F_d'7, V_bl'7⟩, ⟨F_nm'7, F_ur'7, F_lv'7, F_bd'7, F_ty'7, F_st'7⟩, ⟨O_nm'7, O_ur'7, A_lv'7, A_bd'7, Or.inl rfl⟩, ⟨g_a, g_b, g_nm, g_ur, g_lv, g_bd⟩⟩⟩
  · have _ := g_a
    refine own_st (fun t k => XS.aloadN X0.here hx rfl (hb hby d6_0) rfl rfl k) ?_
    show own_Fin p.tables e below _ (s₁.setTop (mkF m 1 #[.val (.ref a)] [(.ref a)]))
    obtain ⟨T8, X8, e8, st8⟩ := getF X0 hx hZ hown (host := "") (Or.inl (hw _ (List.mem_of_getElem? (i := 32) rfl))) Via.refl e0 F_bl (g := (mkF m 1 #[.val (.ref a)] [(.ref a)])) rfl rfl (hb hby d6_1)
    refine own_st st8 ?_
    show own_Fin p.tables e below _ (T8.setTop (mkF m 4 #[.val (.ref a)] [(.ref bl)]))
    refine own_st (fun t k => XS.iconst X8.here hx rfl (hb hby d6_4) k) ?_
    show own_Fin p.tables e below _ (T8.setTop (mkF m 5 #[.val (.ref a)] [(.int (0 : Int32)), (.ref bl)]))
    refine own_st (fun t k => own_aald X8 hx hZ e8 V_bl rfl (j := (0 : Int32)) ⟨by decide, by decide⟩ (v := (.ref b)) rfl (g := (mkF m 5 #[.val (.ref a)] [(.int (0 : Int32)), (.ref bl)])) rfl rfl (hb hby d6_5) t k) ?_
    show own_Fin p.tables e below _ (T8.setTop (mkF m 6 #[.val (.ref a)] [(.ref b)]))
    refine own_st (fun t k => XS.aloadN X8.here hx rfl (hb hby d6_6) rfl rfl k) ?_
    show own_Fin p.tables e below _ (T8.setTop (mkF m 7 #[.val (.ref a)] [(.ref a), (.ref b)]))
    obtain ⟨T9, X9, e9, st9⟩ := getF X8 hx hZ hown (host := "") (Or.inl (hw _ (List.mem_of_getElem? (i := 56) rfl))) Via.refl e8 F_d (g := (mkF m 7 #[.val (.ref a)] [(.ref a), (.ref b)])) rfl rfl (hb hby d6_7)
    refine own_st st9 ?_
    show own_Fin p.tables e below _ (T9.setTop (mkF m 10 #[.val (.ref a)] [(.int d), (.ref b)]))
    obtain ⟨_, ⟨T10, L10, k10, n10⟩, X10, ⟨Lc10, hQ10, l10, y10, z10⟩, st10⟩ := own_virtR X9 hx hZ (y := (⟨"com/example/chiffchaff/chiffchaff/OpenElements$Block", "free", "(I)V"⟩ : MethodName)) hown (hw _ (List.mem_of_getElem? (i := 58) rfl)) (hw _ (List.mem_of_getElem? (i := 59) rfl)) (hw _ (List.mem_of_getElem? (i := 60) rfl)) (hw _ (List.mem_of_getElem? (i := 61) rfl)) (hw _ (List.mem_of_getElem? (i := 11) rfl)) (by decide) (backOf (W := 0) (rmF1 l Z a0 hw [] b nm ur ty d h0 n0 Z0 F_ty O_ty g_ty F_nm F_ur F_st O_nm O_ur E_b g_nm g_ur hd) hZ (hw _ (List.mem_of_getElem? (i := 61) rfl)) (hw _ (List.mem_of_getElem? (i := 12) rfl)) (by decide) (by decide)) e9 E_b (g := (mkF m 10 #[.val (.ref a)] [(.int d), (.ref b)])) rfl (by rw [hml]; rfl) (a := b) (argsL := [(.int d)]) (rest := []) (lenOf pd__I_V rfl) rfl (by show 2 * 0 + _ ≤ _; exact Nat.le_of_eq rfl) (hb hby d6_10) (⟨rfl, e9, (by decide : 0 + 0 ≤ _), (by decide : 0 + 0 ≤ _)⟩)
    dsimp only [Pt.U, Pt.locs, Pt.cells, Pt.slots] at X10 l10 y10 z10 st10 hQ10
    subst l10 y10 z10
    obtain ⟨rfl, N10, K10⟩ := hQ10
    refine own_st (fun t k => st10.trans k) ?_
    have O0'10 := O0.keep K10 (allS g_nm (allS g_ty (allS g_ur all0)))
    have E_a'10 := E_a.keep K10
    have E_b'10 := E_b.keep K10
    have F_bl'10 := F_bl.keep K10 (ninS (own_neEA E_a (hw _ (List.mem_of_getElem? (i := 1) rfl)) (own_O.A O_nm)) (ninS (own_neEA E_a (hw _ (List.mem_of_getElem? (i := 1) rfl)) (own_O.A O_ty)) (ninS (own_neEA E_a (hw _ (List.mem_of_getElem? (i := 1) rfl)) (own_O.A O_ur)) nin0)))
    have F_top'10 := F_top.keep K10 (ninS (own_neEA E_a (hw _ (List.mem_of_getElem? (i := 1) rfl)) (own_O.A O_nm)) (ninS (own_neEA E_a (hw _ (List.mem_of_getElem? (i := 1) rfl)) (own_O.A O_ty)) (ninS (own_neEA E_a (hw _ (List.mem_of_getElem? (i := 1) rfl)) (own_O.A O_ur)) nin0)))
    have F_at'10 := F_at.keep K10 (ninS (own_neEA E_a (hw _ (List.mem_of_getElem? (i := 1) rfl)) (own_O.A O_nm)) (ninS (own_neEA E_a (hw _ (List.mem_of_getElem? (i := 1) rfl)) (own_O.A O_ty)) (ninS (own_neEA E_a (hw _ (List.mem_of_getElem? (i := 1) rfl)) (own_O.A O_ur)) nin0)))
    have F_d'10 := F_d.keep K10 (ninS (own_neEA E_a (hw _ (List.mem_of_getElem? (i := 1) rfl)) (own_O.A O_nm)) (ninS (own_neEA E_a (hw _ (List.mem_of_getElem? (i := 1) rfl)) (own_O.A O_ty)) (ninS (own_neEA E_a (hw _ (List.mem_of_getElem? (i := 1) rfl)) (own_O.A O_ur)) nin0)))
    have V_bl'10 := V_bl.keep K10 (ninS (own_neAA (own_Arv V_bl) (own_O.A O_nm) (by decide)) (ninS (own_neAA (own_Arv V_bl) (own_O.A O_ty) (by decide)) (ninS (own_neAA (own_Arv V_bl) (own_O.A O_ur) (by decide)) nin0)))
    have F_nm'10 := F_nm.keep K10 (ninS (own_neEA E_b (hw _ (List.mem_of_getElem? (i := 11) rfl)) (own_O.A O_nm)) (ninS (own_neEA E_b (hw _ (List.mem_of_getElem? (i := 11) rfl)) (own_O.A O_ty)) (ninS (own_neEA E_b (hw _ (List.mem_of_getElem? (i := 11) rfl)) (own_O.A O_ur)) nin0)))
    have F_ur'10 := F_ur.keep K10 (ninS (own_neEA E_b (hw _ (List.mem_of_getElem? (i := 11) rfl)) (own_O.A O_nm)) (ninS (own_neEA E_b (hw _ (List.mem_of_getElem? (i := 11) rfl)) (own_O.A O_ty)) (ninS (own_neEA E_b (hw _ (List.mem_of_getElem? (i := 11) rfl)) (own_O.A O_ur)) nin0)))
    have F_lv'10 := F_lv.keep K10 (ninS (own_neEA E_b (hw _ (List.mem_of_getElem? (i := 11) rfl)) (own_O.A O_nm)) (ninS (own_neEA E_b (hw _ (List.mem_of_getElem? (i := 11) rfl)) (own_O.A O_ty)) (ninS (own_neEA E_b (hw _ (List.mem_of_getElem? (i := 11) rfl)) (own_O.A O_ur)) nin0)))
    have F_bd'10 := F_bd.keep K10 (ninS (own_neEA E_b (hw _ (List.mem_of_getElem? (i := 11) rfl)) (own_O.A O_nm)) (ninS (own_neEA E_b (hw _ (List.mem_of_getElem? (i := 11) rfl)) (own_O.A O_ty)) (ninS (own_neEA E_b (hw _ (List.mem_of_getElem? (i := 11) rfl)) (own_O.A O_ur)) nin0)))
    have F_ty'10 := F_ty.keep K10 (ninS (own_neEA E_b (hw _ (List.mem_of_getElem? (i := 11) rfl)) (own_O.A O_nm)) (ninS (own_neEA E_b (hw _ (List.mem_of_getElem? (i := 11) rfl)) (own_O.A O_ty)) (ninS (own_neEA E_b (hw _ (List.mem_of_getElem? (i := 11) rfl)) (own_O.A O_ur)) nin0)))
    have F_st'10 := F_st.keep K10 (ninS (own_neEA E_b (hw _ (List.mem_of_getElem? (i := 11) rfl)) (own_O.A O_nm)) (ninS (own_neEA E_b (hw _ (List.mem_of_getElem? (i := 11) rfl)) (own_O.A O_ty)) (ninS (own_neEA E_b (hw _ (List.mem_of_getElem? (i := 11) rfl)) (own_O.A O_ur)) nin0)))
    have O_nm'10 := O_nm.keep K10
    have O_ur'10 := O_ur.keep K10
    have A_lv'10 := A_lv.keep K10
    have A_bd'10 := A_bd.keep K10
    have O_ty'10 := O_ty.keep K10
    have Z10 : n0 ≤ T10.heap.size := Nat.le_trans Z0 K10.1
    have N10a := Fr.app N0 N10
    show own_Fin p.tables e below _ (T10.setTop (mkF m 13 #[.val (.ref a)] []))
    refine own_st (fun t k => XS.aloadN X10.here hx rfl (hb hby d6_13) rfl rfl k) ?_
    show own_Fin p.tables e below _ (T10.setTop (mkF m 14 #[.val (.ref a)] [(.ref a)]))
    refine own_st (fun t k => XS.aloadN X10.here hx rfl (hb hby d6_14) rfl rfl k) ?_
    show own_Fin p.tables e below _ (T10.setTop (mkF m 15 #[.val (.ref a)] [(.ref a), (.ref a)]))
    obtain ⟨T11, X11, e11, st11⟩ := getF X10 hx hZ hown (host := "") (Or.inl (hw _ (List.mem_of_getElem? (i := 32) rfl))) Via.refl rfl F_bl'10 (g := (mkF m 15 #[.val (.ref a)] [(.ref a), (.ref a)])) rfl rfl (hb hby d6_15)
    refine own_st st11 ?_
    show own_Fin p.tables e below _ (T11.setTop (mkF m 18 #[.val (.ref a)] [(.ref bl), (.ref a)]))
    refine own_st (fun t k => XS.iconst X11.here hx rfl (hb hby d6_18) k) ?_
    show own_Fin p.tables e below _ (T11.setTop (mkF m 19 #[.val (.ref a)] [(.int (0 : Int32)), (.ref bl), (.ref a)]))
    refine own_st (fun t k => own_aald X11 hx hZ e11 V_bl'10 rfl (j := (0 : Int32)) ⟨by decide, by decide⟩ (v := (.ref b)) rfl (g := (mkF m 19 #[.val (.ref a)] [(.int (0 : Int32)), (.ref bl), (.ref a)])) rfl rfl (hb hby d6_19) t k) ?_
    show own_Fin p.tables e below _ (T11.setTop (mkF m 20 #[.val (.ref a)] [(.ref b), (.ref a)]))
    obtain ⟨T12, h12, X12, e12, W12, st12⟩ := putF X11 hx hZ hown (host := "") (Or.inl (hw _ (List.mem_of_getElem? (i := 34) rfl))) Via.refl e11 F_top'10 E_a'10 (Or.inl (hw _ (List.mem_of_getElem? (i := 35) rfl))) (hw _ (List.mem_of_getElem? (i := 1) rfl)) (ty := (.object "com/example/chiffchaff/chiffchaff/OpenElements$Block")) (by decide) rfl rfl (g := (mkF m 20 #[.val (.ref a)] [(.ref b), (.ref a)])) rfl rfl (hb hby d6_20)
    refine own_st st12 ?_
    have O0'12 := O0'10.wr W12 g_a
    have E_a'12 := E_a'10.wr W12
    have E_b'12 := E_b'10.wr W12
    have F_bl'12 := F_bl'10.other W12 (Or.inr (slot_ne (Or.inl (hw _ (List.mem_of_getElem? (i := 33) rfl))) (Or.inl (hw _ (List.mem_of_getElem? (i := 35) rfl))) (by decide) (t := (.array (.object "com/example/chiffchaff/chiffchaff/OpenElements$Block"))) (t' := (.object "com/example/chiffchaff/chiffchaff/OpenElements$Block")) (by decide) (by decide)))
    have F_top'12 := F_top'10.same W12
    have F_at'12 := F_at'10.other W12 (Or.inr (slot_ne (Or.inl (hw _ (List.mem_of_getElem? (i := 37) rfl))) (Or.inl (hw _ (List.mem_of_getElem? (i := 35) rfl))) (by decide) (t := .int) (t' := (.object "com/example/chiffchaff/chiffchaff/OpenElements$Block")) (by decide) (by decide)))
    have F_d'12 := F_d'10.other W12 (Or.inr (slot_ne (Or.inl (hw _ (List.mem_of_getElem? (i := 57) rfl))) (Or.inl (hw _ (List.mem_of_getElem? (i := 35) rfl))) (by decide) (t := .int) (t' := (.object "com/example/chiffchaff/chiffchaff/OpenElements$Block")) (by decide) (by decide)))
    have V_bl'12 := V_bl'10.other W12 (Ne.symm (own_neEA E_a'10 (hw _ (List.mem_of_getElem? (i := 1) rfl)) (own_Arv V_bl'10)))
    have F_nm'12 := F_nm'10.other W12 (Or.inl (ne_exa E_b'10 E_a'10 (by decide)))
    have F_ur'12 := F_ur'10.other W12 (Or.inl (ne_exa E_b'10 E_a'10 (by decide)))
    have F_lv'12 := F_lv'10.other W12 (Or.inl (ne_exa E_b'10 E_a'10 (by decide)))
    have F_bd'12 := F_bd'10.other W12 (Or.inl (ne_exa E_b'10 E_a'10 (by decide)))
    have F_ty'12 := F_ty'10.other W12 (Or.inl (ne_exa E_b'10 E_a'10 (by decide)))
    have F_st'12 := F_st'10.other W12 (Or.inl (ne_exa E_b'10 E_a'10 (by decide)))
    have O_nm'12 := O_nm'10.wr W12
    have O_ur'12 := O_ur'10.wr W12
    have A_lv'12 := A_lv'10.wr W12
    have A_bd'12 := A_bd'10.wr W12
    have O_ty'12 := O_ty'10.wr W12
    have N12 := Fr.snoc X12 N10a g_a
    have Z12 : n0 ≤ h12.size := by rw [W12.size]; exact Z10
    show own_Fin p.tables e below _ (T12.setTop (mkF m 23 #[.val (.ref a)] []))
    refine own_st (fun t k => XS.aloadN X12.here hx rfl (hb hby d6_23) rfl rfl k) ?_
    show own_Fin p.tables e below _ (T12.setTop (mkF m 24 #[.val (.ref a)] [(.ref a)]))
    refine own_st (fun t k => XS.iconst X12.here hx rfl (hb hby d6_24) k) ?_
    show own_Fin p.tables e below _ (T12.setTop (mkF m 25 #[.val (.ref a)] [(.int (-1 : Int32)), (.ref a)]))
    obtain ⟨T13, h13, X13, e13, W13, st13⟩ := putF X12 hx hZ hown (host := "") (Or.inl (hw _ (List.mem_of_getElem? (i := 36) rfl))) Via.refl e12 F_at'12 E_a'12 (Or.inl (hw _ (List.mem_of_getElem? (i := 37) rfl))) (hw _ (List.mem_of_getElem? (i := 1) rfl)) (ty := .int) (by decide) rfl rfl (g := (mkF m 25 #[.val (.ref a)] [(.int (-1 : Int32)), (.ref a)])) rfl rfl (hb hby d6_25)
    refine own_st st13 ?_
    have O0'13 := O0'12.wr W13 g_a
    have E_a'13 := E_a'12.wr W13
    have E_b'13 := E_b'12.wr W13
    have F_bl'13 := F_bl'12.other W13 (Or.inr (slot_ne (Or.inl (hw _ (List.mem_of_getElem? (i := 33) rfl))) (Or.inl (hw _ (List.mem_of_getElem? (i := 37) rfl))) (by decide) (t := (.array (.object "com/example/chiffchaff/chiffchaff/OpenElements$Block"))) (t' := .int) (by decide) (by decide)))
    have F_top'13 := F_top'12.other W13 (Or.inr (slot_ne (Or.inl (hw _ (List.mem_of_getElem? (i := 35) rfl))) (Or.inl (hw _ (List.mem_of_getElem? (i := 37) rfl))) (by decide) (t := (.object "com/example/chiffchaff/chiffchaff/OpenElements$Block")) (t' := .int) (by decide) (by decide)))
    have F_at'13 := F_at'12.same W13
    have F_d'13 := F_d'12.other W13 (Or.inr (slot_ne (Or.inl (hw _ (List.mem_of_getElem? (i := 57) rfl))) (Or.inl (hw _ (List.mem_of_getElem? (i := 37) rfl))) (by decide) (t := .int) (t' := .int) (by decide) (by decide)))
    have V_bl'13 := V_bl'12.other W13 (Ne.symm (own_neEA E_a'12 (hw _ (List.mem_of_getElem? (i := 1) rfl)) (own_Arv V_bl'12)))
    have F_nm'13 := F_nm'12.other W13 (Or.inl (ne_exa E_b'12 E_a'12 (by decide)))
    have F_ur'13 := F_ur'12.other W13 (Or.inl (ne_exa E_b'12 E_a'12 (by decide)))
    have F_lv'13 := F_lv'12.other W13 (Or.inl (ne_exa E_b'12 E_a'12 (by decide)))
    have F_bd'13 := F_bd'12.other W13 (Or.inl (ne_exa E_b'12 E_a'12 (by decide)))
    have F_ty'13 := F_ty'12.other W13 (Or.inl (ne_exa E_b'12 E_a'12 (by decide)))
    have F_st'13 := F_st'12.other W13 (Or.inl (ne_exa E_b'12 E_a'12 (by decide)))
    have O_nm'13 := O_nm'12.wr W13
    have O_ur'13 := O_ur'12.wr W13
    have A_lv'13 := A_lv'12.wr W13
    have A_bd'13 := A_bd'12.wr W13
    have O_ty'13 := O_ty'12.wr W13
    have N13 := Fr.snoc X13 N12 g_a
    have Z13 : n0 ≤ h13.size := by rw [W13.size]; exact Z12
    show own_Fin p.tables e below _ (T13.setTop (mkF m 28 #[.val (.ref a)] []))
    refine own_st (fun t k => XS.aloadN X13.here hx rfl (hb hby d6_28) rfl rfl k) ?_
    show own_Fin p.tables e below _ (T13.setTop (mkF m 29 #[.val (.ref a)] [(.ref a)]))
    refine own_st (fun t k => XS.iconst X13.here hx rfl (hb hby d6_29) k) ?_
    show own_Fin p.tables e below _ (T13.setTop (mkF m 30 #[.val (.ref a)] [(.int (0 : Int32)), (.ref a)]))
    obtain ⟨T14, h14, X14, e14, W14, st14⟩ := putF X13 hx hZ hown (host := "") (Or.inl (hw _ (List.mem_of_getElem? (i := 56) rfl))) Via.refl e13 F_d'13 E_a'13 (Or.inl (hw _ (List.mem_of_getElem? (i := 57) rfl))) (hw _ (List.mem_of_getElem? (i := 1) rfl)) (ty := .int) (by decide) rfl rfl (g := (mkF m 30 #[.val (.ref a)] [(.int (0 : Int32)), (.ref a)])) rfl rfl (hb hby d6_30)
    refine own_st st14 ?_
    have O0'14 := O0'13.wr W14 g_a
    have E_a'14 := E_a'13.wr W14
    have E_b'14 := E_b'13.wr W14
    have F_bl'14 := F_bl'13.other W14 (Or.inr (slot_ne (Or.inl (hw _ (List.mem_of_getElem? (i := 33) rfl))) (Or.inl (hw _ (List.mem_of_getElem? (i := 57) rfl))) (by decide) (t := (.array (.object "com/example/chiffchaff/chiffchaff/OpenElements$Block"))) (t' := .int) (by decide) (by decide)))
    have F_top'14 := F_top'13.other W14 (Or.inr (slot_ne (Or.inl (hw _ (List.mem_of_getElem? (i := 35) rfl))) (Or.inl (hw _ (List.mem_of_getElem? (i := 57) rfl))) (by decide) (t := (.object "com/example/chiffchaff/chiffchaff/OpenElements$Block")) (t' := .int) (by decide) (by decide)))
    have F_at'14 := F_at'13.other W14 (Or.inr (slot_ne (Or.inl (hw _ (List.mem_of_getElem? (i := 37) rfl))) (Or.inl (hw _ (List.mem_of_getElem? (i := 57) rfl))) (by decide) (t := .int) (t' := .int) (by decide) (by decide)))
    have F_d'14 := F_d'13.same W14
    have V_bl'14 := V_bl'13.other W14 (Ne.symm (own_neEA E_a'13 (hw _ (List.mem_of_getElem? (i := 1) rfl)) (own_Arv V_bl'13)))
    have F_nm'14 := F_nm'13.other W14 (Or.inl (ne_exa E_b'13 E_a'13 (by decide)))
    have F_ur'14 := F_ur'13.other W14 (Or.inl (ne_exa E_b'13 E_a'13 (by decide)))
    have F_lv'14 := F_lv'13.other W14 (Or.inl (ne_exa E_b'13 E_a'13 (by decide)))
    have F_bd'14 := F_bd'13.other W14 (Or.inl (ne_exa E_b'13 E_a'13 (by decide)))
    have F_ty'14 := F_ty'13.other W14 (Or.inl (ne_exa E_b'13 E_a'13 (by decide)))
    have F_st'14 := F_st'13.other W14 (Or.inl (ne_exa E_b'13 E_a'13 (by decide)))
    have O_nm'14 := O_nm'13.wr W14
    have O_ur'14 := O_ur'13.wr W14
    have A_lv'14 := A_lv'13.wr W14
    have A_bd'14 := A_bd'13.wr W14
    have O_ty'14 := O_ty'13.wr W14
    have N14 := Fr.snoc X14 N13 g_a
    have Z14 : n0 ≤ h14.size := by rw [W14.size]; exact Z13
    show own_Fin p.tables e below _ (T14.setTop (mkF m 33 #[.val (.ref a)] []))
    obtain ⟨fs, hr, hrun, hended, hW, hsame⟩ := X14.leave (v := none) (fun _ => rfl)
    refine ⟨_, _, X14.returnOut hx Bd.returns (hb hby d6_33) hr, hrun, hended, _, _, rfl, ?_, ⟨_, rfl⟩, hW, hsame.mono (by decide) (by decide)⟩
    show Q6 Z a b bl nm ur lv bd kB (.ref ty) d h0 n0 _ T14.heap _
    rw [e14]
    exact ⟨rfl, N14, O0'14, _, ⟨⟨E_a'14, E_b'14, F_bl'14, F_top'14, F_at'14, F_d'14, V_bl'14⟩, ⟨F_nm'14, F_ur'14, F_lv'14, F_bd'14, F_ty'14, F_st'14⟩, ⟨O_nm'14, O_ur'14, A_lv'14, A_bd'14, Or.inr ⟨ty, rfl, O_ty'14, g_ty⟩⟩, ⟨g_a, g_b, g_nm, g_ur, g_lv, g_bd⟩⟩⟩
def Q16 (Z : State) (a : Addr) (b : Addr) (bl : Addr) (nm : Addr) (ur : Addr) (lv : Addr) (bd : Addr) (kB : ClassId) (tv : Value) (d : Int32) (bN : Addr) (h0 : Heap) (n0 : Nat) (v : Option Value) (h : Heap) (L : List Loc) : Prop := v = none ∧ Fr n0 L ∧ Old Z n0 h ∧ Exa Z h a "com/example/chiffchaff/chiffchaff/OpenElements" ∧ Fld Z h a "com/example/chiffchaff/chiffchaff/OpenElements" "blocks" "[Lcom/example/chiffchaff/chiffchaff/OpenElements$Block;" (.ref bN)
set_option maxRecDepth 65536 in
set_option maxHeartbeats 40000000 in
theorem rm16 (l : Launch) (Z : State) (a0 : Array Value) (hw : ∀ d ∈ tables_1, d.before a0 Z = true) (ws : List Jvm.Cond) (a : Addr) (b : Addr) (bl : Addr) (nm : Addr) (ur : Addr) (lv : Addr) (bd : Addr) (kB : ClassId) (tv : Value) (d : Int32) (bN : Addr) (h0 : Heap) (n0 : Nat) (Z0 : n0 ≤ h0.size) (OE0 : own_OE Z h0 n0 a b bl nm ur lv bd kB tv d) (O0 : Old Z n0 h0) (S_N : Sta Z Z.heap "com/example/chiffchaff/chiffchaff/OpenElements" "NO_BLOCKS" "[Lcom/example/chiffchaff/chiffchaff/OpenElements$Block;" (.ref bN)) :
    MetFree l (⟨"com/example/chiffchaff/chiffchaff/OpenElements", "release", "()V"⟩ : MethodName) (head1 (Jvm.Cond.code (⟨"com/example/chiffchaff/chiffchaff/OpenElements", "release", "()V"⟩ : MethodName) prog_52_method_4_code 1 none :: ws) ({ frames := 1, cells := 0, slots := 0, locals := 12 } : Room)) (fun xs U => xs = #[(.ref a)] ∧ Z.Warmed39 U.vm ∧ U.heap = h0) (fun _ _ _ _ _ => True) (fun _ U o U' => ∃ v L, o = .returned v ∧ Q16 Z a b bl nm ur lv bd kB tv d bN h0 n0 v U'.heap L ∧ FrameEnd U o U' L ({ frames := 1, cells := 0, slots := 0, locals := 12 } : Room).cells ({ frames := 1, cells := 0, slots := 0, locals := 12 } : Room).slots) := by
  refine MetFree.of_bodySF (plainFor_of_name pn_com_example_chiffchaff_chiffchaff_OpenElements) hisR ?_
  intro p e s m args below meth c s₁ Bd hml0 hP hK
  obtain ⟨rfl, hZ, hh⟩ := hP
  have hx := Bd.exec
  have hby := Bd.bytes
  have hml : c.maxLocals = 1 := hml0
  have hown : s.vm.findClass "com/example/chiffchaff/chiffchaff/OpenElements" = some m.cls := findClass_of_methodNamed Bd.named
  have hnm := (name_of_methodNamed Bd.named Bd.method).1
  have X0 : Stand p l e ({ frames := 1, cells := 0, slots := 0, locals := 12 } : Room) s m #[(.ref a)] below meth c s₁ [] 0 0 := Stand.of_body Bd
  have e0 : s₁.heap = h0 := by rw [← hh, Bd.state]; rfl
  have N0 := Fr.nil n0
  change own_Fin p.tables e below (fun s₂ o => ∃ v L, o = .returned v ∧ Q16 Z a b bl nm ur lv bd kB tv d bN h0 n0 v s₂.heap L ∧ FrameEnd s o s₂ L ({ frames := 1, cells := 0, slots := 0, locals := 12 } : Room).cells ({ frames := 1, cells := 0, slots := 0, locals := 12 } : Room).slots) (s₁.setTop (entryFrame m #[(.ref a)] 1))
  refine own_st (fun t k => castTop (show entryFrame m #[(.ref a)] 1 = mkF m 0 #[.val (.ref a)] [] by first | (simp [entryFrame, mkF, argsToLocals, Value.category, maxLocals]; done) | rfl) k) ?_
  show own_Fin p.tables e below _ (s₁.setTop (mkF m 0 #[.val (.ref a)] []))
  obtain ⟨⟨E_a, E_b, F_bl, F_top, F_at, F_d, V_bl⟩, ⟨F_nm, F_ur, F_lv, F_bd, F_ty, F_st⟩, ⟨O_nm, O_ur, A_lv, A_bd, hty⟩, ⟨g_a, g_b, g_nm, g_ur, g_lv, g_bd⟩⟩ := OE0
  refine own_st (fun t k => XS.aloadN X0.here hx rfl (hb hby d16_0) rfl rfl k) ?_
  show own_Fin p.tables e below _ (s₁.setTop (mkF m 1 #[.val (.ref a)] [(.ref a)]))
  obtain ⟨T1, X1, e1, st1⟩ := getS (host := "") X0 hx hZ hown (hw _ (List.mem_of_getElem? (i := 117) rfl)) Via.refl e0 (Sta.ext O0.2 S_N) (g := (mkF m 1 #[.val (.ref a)] [(.ref a)])) rfl (hb hby d16_1)
  refine own_st st1 ?_
  show own_Fin p.tables e below _ (T1.setTop (mkF m 4 #[.val (.ref a)] [(.ref bN), (.ref a)]))
  obtain ⟨T2, h2, X2, e2, W2, st2⟩ := putF X1 hx hZ hown (host := "") (Or.inl (hw _ (List.mem_of_getElem? (i := 32) rfl))) Via.refl e1 F_bl E_a (Or.inl (hw _ (List.mem_of_getElem? (i := 33) rfl))) (hw _ (List.mem_of_getElem? (i := 1) rfl)) (ty := (.array (.object "com/example/chiffchaff/chiffchaff/OpenElements$Block"))) (by decide) rfl rfl (g := (mkF m 4 #[.val (.ref a)] [(.ref bN), (.ref a)])) rfl rfl (hb hby d16_4)
  refine own_st st2 ?_
  have O0'2 := O0.wr W2 g_a
  have E_a'2 := E_a.wr W2
  have F_bl'2 := F_bl.same W2
  have F_top'2 := F_top.other W2 (Or.inr (slot_ne (Or.inl (hw _ (List.mem_of_getElem? (i := 35) rfl))) (Or.inl (hw _ (List.mem_of_getElem? (i := 33) rfl))) (by decide) (t := (.object "com/example/chiffchaff/chiffchaff/OpenElements$Block")) (t' := (.array (.object "com/example/chiffchaff/chiffchaff/OpenElements$Block"))) (by decide) (by decide)))
  have N2 := Fr.snoc X2 N0 g_a
  have Z2 : n0 ≤ h2.size := by rw [W2.size]; exact Z0
  show own_Fin p.tables e below _ (T2.setTop (mkF m 7 #[.val (.ref a)] []))
  refine own_st (fun t k => XS.aloadN X2.here hx rfl (hb hby d16_7) rfl rfl k) ?_
  show own_Fin p.tables e below _ (T2.setTop (mkF m 8 #[.val (.ref a)] [(.ref a)]))
  refine own_st (fun t k => XS.aconstNull X2.here hx rfl (hb hby d16_8) k) ?_
  show own_Fin p.tables e below _ (T2.setTop (mkF m 9 #[.val (.ref a)] [.null, (.ref a)]))
  obtain ⟨T3, h3, X3, e3, W3, st3⟩ := putF X2 hx hZ hown (host := "") (Or.inl (hw _ (List.mem_of_getElem? (i := 34) rfl))) Via.refl e2 F_top'2 E_a'2 (Or.inl (hw _ (List.mem_of_getElem? (i := 35) rfl))) (hw _ (List.mem_of_getElem? (i := 1) rfl)) (ty := (.object "com/example/chiffchaff/chiffchaff/OpenElements$Block")) (by decide) rfl rfl (g := (mkF m 9 #[.val (.ref a)] [.null, (.ref a)])) rfl rfl (hb hby d16_9)
  refine own_st st3 ?_
  have O0'3 := O0'2.wr W3 g_a
  have E_a'3 := E_a'2.wr W3
  have F_bl'3 := F_bl'2.other W3 (Or.inr (slot_ne (Or.inl (hw _ (List.mem_of_getElem? (i := 33) rfl))) (Or.inl (hw _ (List.mem_of_getElem? (i := 35) rfl))) (by decide) (t := (.array (.object "com/example/chiffchaff/chiffchaff/OpenElements$Block"))) (t' := (.object "com/example/chiffchaff/chiffchaff/OpenElements$Block")) (by decide) (by decide)))
  have F_top'3 := F_top'2.same W3
  have N3 := Fr.snoc X3 N2 g_a
  have Z3 : n0 ≤ h3.size := by rw [W3.size]; exact Z2
  show own_Fin p.tables e below _ (T3.setTop (mkF m 12 #[.val (.ref a)] []))
  obtain ⟨fs, hr, hrun, hended, hW, hsame⟩ := X3.leave (v := none) (fun _ => rfl)
  refine ⟨_, _, X3.returnOut hx Bd.returns (hb hby d16_12) hr, hrun, hended, _, _, rfl, ?_, ⟨_, rfl⟩, hW, hsame.mono (by decide) (by decide)⟩
  show Q16 Z a b bl nm ur lv bd kB tv d bN h0 n0 _ T3.heap _
  rw [e3]
  exact ⟨rfl, N3, O0'3, E_a'3, F_bl'3⟩
def Q15 (Z : State) (a : Addr) (b : Addr) (bl : Addr) (nm : Addr) (ur : Addr) (lv : Addr) (bd : Addr) (kB : ClassId) (tv : Value) (d : Int32) (h0 : Heap) (n0 : Nat) (v : Option Value) (h : Heap) (L : List Loc) : Prop := v = none ∧ Fr n0 L ∧ Old Z n0 h ∧ ∃ tv', own_OE Z h n0 a b bl nm ur lv bd kB tv' (d - 1)
set_option maxRecDepth 65536 in
set_option maxHeartbeats 40000000 in
theorem rm15 (l : Launch) (Z : State) (a0 : Array Value) (hw : ∀ d ∈ tables_1, d.before a0 Z = true) (ws : List Jvm.Cond) (a : Addr) (b : Addr) (bl : Addr) (nm : Addr) (ur : Addr) (lv : Addr) (bd : Addr) (kB : ClassId) (tv : Value) (d : Int32) (h0 : Heap) (n0 : Nat) (Z0 : n0 ≤ h0.size) (OE0 : own_OE Z h0 n0 a b bl nm ur lv bd kB tv d) (O0 : Old Z n0 h0) (hd : (d = 1 ∨ d = 2 ∨ d = 3)) :
    MetFree l (⟨"com/example/chiffchaff/chiffchaff/OpenElements", "pop", "()V"⟩ : MethodName) (head1 (Jvm.Cond.code (⟨"com/example/chiffchaff/chiffchaff/OpenElements", "pop", "()V"⟩ : MethodName) prog_52_method_7_code 1 none :: ws) ({ frames := 2, cells := 0, slots := 0, locals := 30 } : Room)) (fun xs U => xs = #[(.ref a)] ∧ Z.Warmed39 U.vm ∧ U.heap = h0) (fun _ _ _ _ _ => True) (fun _ U o U' => ∃ v L, o = .returned v ∧ Q15 Z a b bl nm ur lv bd kB tv d h0 n0 v U'.heap L ∧ FrameEnd U o U' L ({ frames := 2, cells := 0, slots := 0, locals := 30 } : Room).cells ({ frames := 2, cells := 0, slots := 0, locals := 30 } : Room).slots) := by
  refine MetFree.of_bodySF (plainFor_of_name pn_com_example_chiffchaff_chiffchaff_OpenElements) hisR ?_
  intro p e s m args below meth c s₁ Bd hml0 hP hK
  obtain ⟨rfl, hZ, hh⟩ := hP
  have hx := Bd.exec
  have hby := Bd.bytes
  have hml : c.maxLocals = 1 := hml0
  have hown : s.vm.findClass "com/example/chiffchaff/chiffchaff/OpenElements" = some m.cls := findClass_of_methodNamed Bd.named
  have hnm := (name_of_methodNamed Bd.named Bd.method).1
  have X0 : Stand p l e ({ frames := 2, cells := 0, slots := 0, locals := 30 } : Room) s m #[(.ref a)] below meth c s₁ [] 0 0 := Stand.of_body Bd
  have e0 : s₁.heap = h0 := by rw [← hh, Bd.state]; rfl
  have N0 := Fr.nil n0
  change own_Fin p.tables e below (fun s₂ o => ∃ v L, o = .returned v ∧ Q15 Z a b bl nm ur lv bd kB tv d h0 n0 v s₂.heap L ∧ FrameEnd s o s₂ L ({ frames := 2, cells := 0, slots := 0, locals := 30 } : Room).cells ({ frames := 2, cells := 0, slots := 0, locals := 30 } : Room).slots) (s₁.setTop (entryFrame m #[(.ref a)] 1))
  refine own_st (fun t k => castTop (show entryFrame m #[(.ref a)] 1 = mkF m 0 #[.val (.ref a)] [] by first | (simp [entryFrame, mkF, argsToLocals, Value.category, maxLocals]; done) | rfl) k) ?_
  show own_Fin p.tables e below _ (s₁.setTop (mkF m 0 #[.val (.ref a)] []))
  obtain ⟨⟨E_a, E_b, F_bl, F_top, F_at, F_d, V_bl⟩, ⟨F_nm, F_ur, F_lv, F_bd, F_ty, F_st⟩, ⟨O_nm, O_ur, A_lv, A_bd, hty⟩, ⟨g_a, g_b, g_nm, g_ur, g_lv, g_bd⟩⟩ := OE0
  rcases hty with rfl | ⟨ty, rfl, O_ty, g_ty⟩
  · have _ := g_a
    refine own_st (fun t k => XS.aloadN X0.here hx rfl (hb hby d15_0) rfl rfl k) ?_
    show own_Fin p.tables e below _ (s₁.setTop (mkF m 1 #[.val (.ref a)] [(.ref a)]))
    refine own_st (fun t k => XS.dup X0.here hx rfl (hb hby d15_1) rfl rfl k) ?_
    show own_Fin p.tables e below _ (s₁.setTop (mkF m 2 #[.val (.ref a)] [(.ref a), (.ref a)]))
    obtain ⟨T1, X1, e1, st1⟩ := getF X0 hx hZ hown (host := "") (Or.inl (hw _ (List.mem_of_getElem? (i := 56) rfl))) Via.refl e0 F_d (g := (mkF m 2 #[.val (.ref a)] [(.ref a), (.ref a)])) rfl rfl (hb hby d15_2)
    refine own_st st1 ?_
    show own_Fin p.tables e below _ (T1.setTop (mkF m 5 #[.val (.ref a)] [(.int d), (.ref a)]))
    refine own_st (fun t k => XS.iconst X1.here hx rfl (hb hby d15_5) k) ?_
    show own_Fin p.tables e below _ (T1.setTop (mkF m 6 #[.val (.ref a)] [(.int (1 : Int32)), (.int d), (.ref a)]))
    refine own_st (fun t k => XS.isub X1.here hx rfl (hb hby d15_6) rfl k) ?_
    show own_Fin p.tables e below _ (T1.setTop (mkF m 7 #[.val (.ref a)] [(.int (d - (1 : Int32))), (.ref a)]))
    obtain ⟨T2, h2, X2, e2, W2, st2⟩ := putF X1 hx hZ hown (host := "") (Or.inl (hw _ (List.mem_of_getElem? (i := 56) rfl))) Via.refl e1 F_d E_a (Or.inl (hw _ (List.mem_of_getElem? (i := 57) rfl))) (hw _ (List.mem_of_getElem? (i := 1) rfl)) (ty := .int) (by decide) rfl rfl (g := (mkF m 7 #[.val (.ref a)] [(.int (d - (1 : Int32))), (.ref a)])) rfl rfl (hb hby d15_7)
    refine own_st st2 ?_
    have O0'2 := O0.wr W2 g_a
    have E_a'2 := E_a.wr W2
    have E_b'2 := E_b.wr W2
    have F_bl'2 := F_bl.other W2 (Or.inr (slot_ne (Or.inl (hw _ (List.mem_of_getElem? (i := 33) rfl))) (Or.inl (hw _ (List.mem_of_getElem? (i := 57) rfl))) (by decide) (t := (.array (.object "com/example/chiffchaff/chiffchaff/OpenElements$Block"))) (t' := .int) (by decide) (by decide)))
    have F_top'2 := F_top.other W2 (Or.inr (slot_ne (Or.inl (hw _ (List.mem_of_getElem? (i := 35) rfl))) (Or.inl (hw _ (List.mem_of_getElem? (i := 57) rfl))) (by decide) (t := (.object "com/example/chiffchaff/chiffchaff/OpenElements$Block")) (t' := .int) (by decide) (by decide)))
    have F_at'2 := F_at.other W2 (Or.inr (slot_ne (Or.inl (hw _ (List.mem_of_getElem? (i := 37) rfl))) (Or.inl (hw _ (List.mem_of_getElem? (i := 57) rfl))) (by decide) (t := .int) (t' := .int) (by decide) (by decide)))
    have F_d'2 := F_d.same W2
    have V_bl'2 := V_bl.other W2 (Ne.symm (own_neEA E_a (hw _ (List.mem_of_getElem? (i := 1) rfl)) (own_Arv V_bl)))
    have F_nm'2 := F_nm.other W2 (Or.inl (ne_exa E_b E_a (by decide)))
    have F_ur'2 := F_ur.other W2 (Or.inl (ne_exa E_b E_a (by decide)))
    have F_lv'2 := F_lv.other W2 (Or.inl (ne_exa E_b E_a (by decide)))
    have F_bd'2 := F_bd.other W2 (Or.inl (ne_exa E_b E_a (by decide)))
    have F_ty'2 := F_ty.other W2 (Or.inl (ne_exa E_b E_a (by decide)))
    have F_st'2 := F_st.other W2 (Or.inl (ne_exa E_b E_a (by decide)))
    have O_nm'2 := O_nm.wr W2
    have O_ur'2 := O_ur.wr W2
    have A_lv'2 := A_lv.wr W2
    have A_bd'2 := A_bd.wr W2
    have N2 := Fr.snoc X2 N0 g_a
    have Z2 : n0 ≤ h2.size := by rw [W2.size]; exact Z0
    show own_Fin p.tables e below _ (T2.setTop (mkF m 10 #[.val (.ref a)] []))
    refine own_st (fun t k => XS.aloadN X2.here hx rfl (hb hby d15_10) rfl rfl k) ?_
    show own_Fin p.tables e below _ (T2.setTop (mkF m 11 #[.val (.ref a)] [(.ref a)]))
    obtain ⟨T3, X3, e3, st3⟩ := getF X2 hx hZ hown (host := "") (Or.inl (hw _ (List.mem_of_getElem? (i := 34) rfl))) Via.refl e2 F_top'2 (g := (mkF m 11 #[.val (.ref a)] [(.ref a)])) rfl rfl (hb hby d15_11)
    refine own_st st3 ?_
    show own_Fin p.tables e below _ (T3.setTop (mkF m 14 #[.val (.ref a)] [(.ref b)]))
    refine own_st (fun t k => own_getR X3 hx hZ hown (hw _ (List.mem_of_getElem? (i := 43) rfl)) e3 F_nm'2 (g := (mkF m 14 #[.val (.ref a)] [(.ref b)])) rfl rfl (hb hby d15_14) t k) ?_
    show own_Fin p.tables e below _ (T3.setTop (mkF m 17 #[.val (.ref a)] [(.ref nm)]))
    refine own_st (fun t k => XS.aloadN X3.here hx rfl (hb hby d15_17) rfl rfl k) ?_
    show own_Fin p.tables e below _ (T3.setTop (mkF m 18 #[.val (.ref a)] [(.ref a), (.ref nm)]))
    obtain ⟨T4, X4, e4, st4⟩ := getF X3 hx hZ hown (host := "") (Or.inl (hw _ (List.mem_of_getElem? (i := 36) rfl))) Via.refl e3 F_at'2 (g := (mkF m 18 #[.val (.ref a)] [(.ref a), (.ref nm)])) rfl rfl (hb hby d15_18)
    refine own_st st4 ?_
    show own_Fin p.tables e below _ (T4.setTop (mkF m 21 #[.val (.ref a)] [(.int (d - 1)), (.ref nm)]))
    refine own_st (fun t k => XS.aconstNull X4.here hx rfl (hb hby d15_21) k) ?_
    show own_Fin p.tables e below _ (T4.setTop (mkF m 22 #[.val (.ref a)] [.null, (.int (d - 1)), (.ref nm)]))
    obtain ⟨T5, h5, X5, e5, W5, st5⟩ := own_stR X4 hx hZ e4 O_nm'2 (j := (d - 1)) (own_inp hd) (Or.inl rfl) (g := (mkF m 22 #[.val (.ref a)] [.null, (.int (d - 1)), (.ref nm)])) rfl rfl (hb hby d15_22)
    refine own_st st5 ?_
    have O0'5 := O0'2.wr W5 g_nm
    have E_a'5 := E_a'2.wr W5
    have E_b'5 := E_b'2.wr W5
    have F_bl'5 := F_bl'2.other W5 (Or.inl (own_neEA E_a'2 (hw _ (List.mem_of_getElem? (i := 1) rfl)) (own_O.A O_nm'2)))
    have F_top'5 := F_top'2.other W5 (Or.inl (own_neEA E_a'2 (hw _ (List.mem_of_getElem? (i := 1) rfl)) (own_O.A O_nm'2)))
    have F_at'5 := F_at'2.other W5 (Or.inl (own_neEA E_a'2 (hw _ (List.mem_of_getElem? (i := 1) rfl)) (own_O.A O_nm'2)))
    have F_d'5 := F_d'2.other W5 (Or.inl (own_neEA E_a'2 (hw _ (List.mem_of_getElem? (i := 1) rfl)) (own_O.A O_nm'2)))
    have V_bl'5 := V_bl'2.other W5 (own_neAA (own_Arv V_bl'2) (own_O.A O_nm'2) (by decide))
    have F_nm'5 := F_nm'2.other W5 (Or.inl (own_neEA E_b'2 (hw _ (List.mem_of_getElem? (i := 11) rfl)) (own_O.A O_nm'2)))
    have F_ur'5 := F_ur'2.other W5 (Or.inl (own_neEA E_b'2 (hw _ (List.mem_of_getElem? (i := 11) rfl)) (own_O.A O_nm'2)))
    have F_lv'5 := F_lv'2.other W5 (Or.inl (own_neEA E_b'2 (hw _ (List.mem_of_getElem? (i := 11) rfl)) (own_O.A O_nm'2)))
    have F_bd'5 := F_bd'2.other W5 (Or.inl (own_neEA E_b'2 (hw _ (List.mem_of_getElem? (i := 11) rfl)) (own_O.A O_nm'2)))
    have F_ty'5 := F_ty'2.other W5 (Or.inl (own_neEA E_b'2 (hw _ (List.mem_of_getElem? (i := 11) rfl)) (own_O.A O_nm'2)))
    have F_st'5 := F_st'2.other W5 (Or.inl (own_neEA E_b'2 (hw _ (List.mem_of_getElem? (i := 11) rfl)) (own_O.A O_nm'2)))
    have O_nm'5 := O_nm'2.wr W5
    have O_ur'5 := O_ur'2.wr W5
    have A_lv'5 := A_lv'2.wr W5
    have A_bd'5 := A_bd'2.wr W5
    have N5 := Fr.snoc X5 N2 g_nm
    have Z5 : n0 ≤ h5.size := by rw [W5.size]; exact Z2
    show own_Fin p.tables e below _ (T5.setTop (mkF m 23 #[.val (.ref a)] []))
    refine own_st (fun t k => XS.aloadN X5.here hx rfl (hb hby d15_23) rfl rfl k) ?_
    show own_Fin p.tables e below _ (T5.setTop (mkF m 24 #[.val (.ref a)] [(.ref a)]))
    obtain ⟨T6, X6, e6, st6⟩ := getF X5 hx hZ hown (host := "") (Or.inl (hw _ (List.mem_of_getElem? (i := 34) rfl))) Via.refl e5 F_top'5 (g := (mkF m 24 #[.val (.ref a)] [(.ref a)])) rfl rfl (hb hby d15_24)
    refine own_st st6 ?_
    show own_Fin p.tables e below _ (T6.setTop (mkF m 27 #[.val (.ref a)] [(.ref b)]))
    refine own_st (fun t k => own_getR X6 hx hZ hown (hw _ (List.mem_of_getElem? (i := 102) rfl)) e6 F_ur'5 (g := (mkF m 27 #[.val (.ref a)] [(.ref b)])) rfl rfl (hb hby d15_27) t k) ?_
    show own_Fin p.tables e below _ (T6.setTop (mkF m 30 #[.val (.ref a)] [(.ref ur)]))
    refine own_st (fun t k => XS.aloadN X6.here hx rfl (hb hby d15_30) rfl rfl k) ?_
    show own_Fin p.tables e below _ (T6.setTop (mkF m 31 #[.val (.ref a)] [(.ref a), (.ref ur)]))
    obtain ⟨T7, X7, e7, st7⟩ := getF X6 hx hZ hown (host := "") (Or.inl (hw _ (List.mem_of_getElem? (i := 36) rfl))) Via.refl e6 F_at'5 (g := (mkF m 31 #[.val (.ref a)] [(.ref a), (.ref ur)])) rfl rfl (hb hby d15_31)
    refine own_st st7 ?_
    show own_Fin p.tables e below _ (T7.setTop (mkF m 34 #[.val (.ref a)] [(.int (d - 1)), (.ref ur)]))
    refine own_st (fun t k => XS.aconstNull X7.here hx rfl (hb hby d15_34) k) ?_
    show own_Fin p.tables e below _ (T7.setTop (mkF m 35 #[.val (.ref a)] [.null, (.int (d - 1)), (.ref ur)]))
    obtain ⟨T8, h8, X8, e8, W8, st8⟩ := own_stR X7 hx hZ e7 O_ur'5 (j := (d - 1)) (own_inp hd) (Or.inl rfl) (g := (mkF m 35 #[.val (.ref a)] [.null, (.int (d - 1)), (.ref ur)])) rfl rfl (hb hby d15_35)
    refine own_st st8 ?_
    have O0'8 := O0'5.wr W8 g_ur
    have E_a'8 := E_a'5.wr W8
    have E_b'8 := E_b'5.wr W8
    have F_bl'8 := F_bl'5.other W8 (Or.inl (own_neEA E_a'5 (hw _ (List.mem_of_getElem? (i := 1) rfl)) (own_O.A O_ur'5)))
    have F_top'8 := F_top'5.other W8 (Or.inl (own_neEA E_a'5 (hw _ (List.mem_of_getElem? (i := 1) rfl)) (own_O.A O_ur'5)))
    have F_at'8 := F_at'5.other W8 (Or.inl (own_neEA E_a'5 (hw _ (List.mem_of_getElem? (i := 1) rfl)) (own_O.A O_ur'5)))
    have F_d'8 := F_d'5.other W8 (Or.inl (own_neEA E_a'5 (hw _ (List.mem_of_getElem? (i := 1) rfl)) (own_O.A O_ur'5)))
    have V_bl'8 := V_bl'5.other W8 (own_neAA (own_Arv V_bl'5) (own_O.A O_ur'5) (by decide))
    have F_nm'8 := F_nm'5.other W8 (Or.inl (own_neEA E_b'5 (hw _ (List.mem_of_getElem? (i := 11) rfl)) (own_O.A O_ur'5)))
    have F_ur'8 := F_ur'5.other W8 (Or.inl (own_neEA E_b'5 (hw _ (List.mem_of_getElem? (i := 11) rfl)) (own_O.A O_ur'5)))
    have F_lv'8 := F_lv'5.other W8 (Or.inl (own_neEA E_b'5 (hw _ (List.mem_of_getElem? (i := 11) rfl)) (own_O.A O_ur'5)))
    have F_bd'8 := F_bd'5.other W8 (Or.inl (own_neEA E_b'5 (hw _ (List.mem_of_getElem? (i := 11) rfl)) (own_O.A O_ur'5)))
    have F_ty'8 := F_ty'5.other W8 (Or.inl (own_neEA E_b'5 (hw _ (List.mem_of_getElem? (i := 11) rfl)) (own_O.A O_ur'5)))
    have F_st'8 := F_st'5.other W8 (Or.inl (own_neEA E_b'5 (hw _ (List.mem_of_getElem? (i := 11) rfl)) (own_O.A O_ur'5)))
    have O_nm'8 := O_nm'5.wr W8
    have O_ur'8 := O_ur'5.wr W8
    have A_lv'8 := A_lv'5.wr W8
    have A_bd'8 := A_bd'5.wr W8
    have N8 := Fr.snoc X8 N5 g_ur
    have Z8 : n0 ≤ h8.size := by rw [W8.size]; exact Z5
    show own_Fin p.tables e below _ (T8.setTop (mkF m 36 #[.val (.ref a)] []))
    refine own_st (fun t k => XS.aloadN X8.here hx rfl (hb hby d15_36) rfl rfl k) ?_
    show own_Fin p.tables e below _ (T8.setTop (mkF m 37 #[.val (.ref a)] [(.ref a)]))
    obtain ⟨T9, X9, e9, st9⟩ := getF X8 hx hZ hown (host := "") (Or.inl (hw _ (List.mem_of_getElem? (i := 34) rfl))) Via.refl e8 F_top'8 (g := (mkF m 37 #[.val (.ref a)] [(.ref a)])) rfl rfl (hb hby d15_37)
    refine own_st st9 ?_
    show own_Fin p.tables e below _ (T9.setTop (mkF m 40 #[.val (.ref a)] [(.ref b)]))
    refine own_st (fun t k => own_getR X9 hx hZ hown (hw _ (List.mem_of_getElem? (i := 110) rfl)) e9 F_ty'8 (g := (mkF m 40 #[.val (.ref a)] [(.ref b)])) rfl rfl (hb hby d15_40) t k) ?_
    show own_Fin p.tables e below _ (T9.setTop (mkF m 43 #[.val (.ref a)] [.null]))
    refine own_st (fun t k => XS.ifnullYes X9.here hx rfl (pc0 := 43) (pc' := 59) rfl (hb hby d15_43) rfl (by decide) (by decide) k) ?_
    show own_Fin p.tables e below _ (T9.setTop (mkF m 59 #[.val (.ref a)] []))
    refine own_st (fun t k => XS.aloadN X9.here hx rfl (hb hby d15_59) rfl rfl k) ?_
    show own_Fin p.tables e below _ (T9.setTop (mkF m 60 #[.val (.ref a)] [(.ref a)]))
    obtain ⟨T10, X10, e10, st10⟩ := getF X9 hx hZ hown (host := "") (Or.inl (hw _ (List.mem_of_getElem? (i := 34) rfl))) Via.refl e9 F_top'8 (g := (mkF m 60 #[.val (.ref a)] [(.ref a)])) rfl rfl (hb hby d15_60)
    refine own_st st10 ?_
    show own_Fin p.tables e below _ (T10.setTop (mkF m 63 #[.val (.ref a)] [(.ref b)]))
    refine own_st (fun t k => own_getR X10 hx hZ hown (hw _ (List.mem_of_getElem? (i := 111) rfl)) e10 F_st'8 (g := (mkF m 63 #[.val (.ref a)] [(.ref b)])) rfl rfl (hb hby d15_63) t k) ?_
    show own_Fin p.tables e below _ (T10.setTop (mkF m 66 #[.val (.ref a)] [.null]))
    refine own_st (fun t k => XS.ifnullYes X10.here hx rfl (pc0 := 66) (pc' := 82) rfl (hb hby d15_66) rfl (by decide) (by decide) k) ?_
    show own_Fin p.tables e below _ (T10.setTop (mkF m 82 #[.val (.ref a)] []))
    refine own_st (fun t k => XS.aloadN X10.here hx rfl (hb hby d15_82) rfl rfl k) ?_
    show own_Fin p.tables e below _ (T10.setTop (mkF m 83 #[.val (.ref a)] [(.ref a)]))
    obtain ⟨T11, X11, e11, st11⟩ := getF X10 hx hZ hown (host := "") (Or.inl (hw _ (List.mem_of_getElem? (i := 36) rfl))) Via.refl e10 F_at'8 (g := (mkF m 83 #[.val (.ref a)] [(.ref a)])) rfl rfl (hb hby d15_83)
    refine own_st st11 ?_
    show own_Fin p.tables e below _ (T11.setTop (mkF m 86 #[.val (.ref a)] [(.int (d - 1))]))
    rcases Decidable.em (0 < (d - 1)) with ct | ct
    · have _ := ct
      refine own_st (fun t k => XS.ifNo X11.here hx rfl (hb hby d15_86) rfl (XT.i0_le_f ct) k) ?_
      show own_Fin p.tables e below _ (T11.setTop (mkF m 89 #[.val (.ref a)] []))
      refine own_st (fun t k => XS.aloadN X11.here hx rfl (hb hby d15_89) rfl rfl k) ?_
      show own_Fin p.tables e below _ (T11.setTop (mkF m 90 #[.val (.ref a)] [(.ref a)]))
      refine own_st (fun t k => XS.dup X11.here hx rfl (hb hby d15_90) rfl rfl k) ?_
      show own_Fin p.tables e below _ (T11.setTop (mkF m 91 #[.val (.ref a)] [(.ref a), (.ref a)]))
      obtain ⟨T12, X12, e12, st12⟩ := getF X11 hx hZ hown (host := "") (Or.inl (hw _ (List.mem_of_getElem? (i := 36) rfl))) Via.refl e11 F_at'8 (g := (mkF m 91 #[.val (.ref a)] [(.ref a), (.ref a)])) rfl rfl (hb hby d15_91)
      refine own_st st12 ?_
      show own_Fin p.tables e below _ (T12.setTop (mkF m 94 #[.val (.ref a)] [(.int (d - 1)), (.ref a)]))
      refine own_st (fun t k => XS.iconst X12.here hx rfl (hb hby d15_94) k) ?_
      show own_Fin p.tables e below _ (T12.setTop (mkF m 95 #[.val (.ref a)] [(.int (1 : Int32)), (.int (d - 1)), (.ref a)]))
      refine own_st (fun t k => XS.isub X12.here hx rfl (hb hby d15_95) rfl k) ?_
      show own_Fin p.tables e below _ (T12.setTop (mkF m 96 #[.val (.ref a)] [(.int ((d - 1) - (1 : Int32))), (.ref a)]))
      obtain ⟨T13, h13, X13, e13, W13, st13⟩ := putF X12 hx hZ hown (host := "") (Or.inl (hw _ (List.mem_of_getElem? (i := 36) rfl))) Via.refl e12 F_at'8 E_a'8 (Or.inl (hw _ (List.mem_of_getElem? (i := 37) rfl))) (hw _ (List.mem_of_getElem? (i := 1) rfl)) (ty := .int) (by decide) rfl rfl (g := (mkF m 96 #[.val (.ref a)] [(.int ((d - 1) - (1 : Int32))), (.ref a)])) rfl rfl (hb hby d15_96)
      refine own_st st13 ?_
      have O0'13 := O0'8.wr W13 g_a
      have E_a'13 := E_a'8.wr W13
      have E_b'13 := E_b'8.wr W13
      have F_bl'13 := F_bl'8.other W13 (Or.inr (slot_ne (Or.inl (hw _ (List.mem_of_getElem? (i := 33) rfl))) (Or.inl (hw _ (List.mem_of_getElem? (i := 37) rfl))) (by decide) (t := (.array (.object "com/example/chiffchaff/chiffchaff/OpenElements$Block"))) (t' := .int) (by decide) (by decide)))
      have F_top'13 := F_top'8.other W13 (Or.inr (slot_ne (Or.inl (hw _ (List.mem_of_getElem? (i := 35) rfl))) (Or.inl (hw _ (List.mem_of_getElem? (i := 37) rfl))) (by decide) (t := (.object "com/example/chiffchaff/chiffchaff/OpenElements$Block")) (t' := .int) (by decide) (by decide)))
      have F_at'13 := F_at'8.same W13
      have F_d'13 := F_d'8.other W13 (Or.inr (slot_ne (Or.inl (hw _ (List.mem_of_getElem? (i := 57) rfl))) (Or.inl (hw _ (List.mem_of_getElem? (i := 37) rfl))) (by decide) (t := .int) (t' := .int) (by decide) (by decide)))
      have V_bl'13 := V_bl'8.other W13 (Ne.symm (own_neEA E_a'8 (hw _ (List.mem_of_getElem? (i := 1) rfl)) (own_Arv V_bl'8)))
      have F_nm'13 := F_nm'8.other W13 (Or.inl (ne_exa E_b'8 E_a'8 (by decide)))
      have F_ur'13 := F_ur'8.other W13 (Or.inl (ne_exa E_b'8 E_a'8 (by decide)))
      have F_lv'13 := F_lv'8.other W13 (Or.inl (ne_exa E_b'8 E_a'8 (by decide)))
      have F_bd'13 := F_bd'8.other W13 (Or.inl (ne_exa E_b'8 E_a'8 (by decide)))
      have F_ty'13 := F_ty'8.other W13 (Or.inl (ne_exa E_b'8 E_a'8 (by decide)))
      have F_st'13 := F_st'8.other W13 (Or.inl (ne_exa E_b'8 E_a'8 (by decide)))
      have O_nm'13 := O_nm'8.wr W13
      have O_ur'13 := O_ur'8.wr W13
      have A_lv'13 := A_lv'8.wr W13
      have A_bd'13 := A_bd'8.wr W13
      have N13 := Fr.snoc X13 N8 g_a
      have Z13 : n0 ≤ h13.size := by rw [W13.size]; exact Z8
      show own_Fin p.tables e below _ (T13.setTop (mkF m 99 #[.val (.ref a)] []))
      refine own_st (fun t k => XS.goto X13.here hx rfl (pc0 := 99) (pc' := 148) rfl (hb hby d15_99) (by decide) (by decide) k) ?_
      show own_Fin p.tables e below _ (T13.setTop (mkF m 148 #[.val (.ref a)] []))
      obtain ⟨fs, hr, hrun, hended, hW, hsame⟩ := X13.leave (v := none) (fun _ => rfl)
      refine ⟨_, _, X13.returnOut hx Bd.returns (hb hby d15_148) hr, hrun, hended, _, _, rfl, ?_, ⟨_, rfl⟩, hW, hsame.mono (by decide) (by decide)⟩
      show Q15 Z a b bl nm ur lv bd kB .null d h0 n0 _ T13.heap _
      rw [e13]
      exact ⟨rfl, N13, O0'13, _, ⟨⟨E_a'13, E_b'13, F_bl'13, F_top'13, F_at'13, F_d'13, V_bl'13⟩, ⟨F_nm'13, F_ur'13, F_lv'13, F_bd'13, F_ty'13, F_st'13⟩, ⟨O_nm'13, O_ur'13, A_lv'13, A_bd'13, Or.inl rfl⟩, ⟨g_a, g_b, g_nm, g_ur, g_lv, g_bd⟩⟩⟩
    · have _ := ct
      refine own_st (fun t k => XS.ifYes X11.here hx rfl (pc0 := 86) (pc' := 102) rfl (hb hby d15_86) rfl (XT.i0_le_t ct) (by decide) (by decide) k) ?_
      show own_Fin p.tables e below _ (T11.setTop (mkF m 102 #[.val (.ref a)] []))
      refine own_st (fun t k => XS.aloadN X11.here hx rfl (hb hby d15_102) rfl rfl k) ?_
      show own_Fin p.tables e below _ (T11.setTop (mkF m 103 #[.val (.ref a)] [(.ref a)]))
      obtain ⟨T14, X14, e14, st14⟩ := getF X11 hx hZ hown (host := "") (Or.inl (hw _ (List.mem_of_getElem? (i := 56) rfl))) Via.refl e11 F_d'8 (g := (mkF m 103 #[.val (.ref a)] [(.ref a)])) rfl rfl (hb hby d15_103)
      refine own_st st14 ?_
      show own_Fin p.tables e below _ (T14.setTop (mkF m 106 #[.val (.ref a)] [(.int (d - (1 : Int32)))]))
      refine own_st (fun t k => XS.ifYes X14.here hx rfl (pc0 := 106) (pc' := 143) rfl (hb hby d15_106) rfl (XT.i0_le_t ct) (by decide) (by decide) k) ?_
      show own_Fin p.tables e below _ (T14.setTop (mkF m 143 #[.val (.ref a)] []))
      refine own_st (fun t k => XS.aloadN X14.here hx rfl (hb hby d15_143) rfl rfl k) ?_
      show own_Fin p.tables e below _ (T14.setTop (mkF m 144 #[.val (.ref a)] [(.ref a)]))
      refine own_st (fun t k => XS.iconst X14.here hx rfl (hb hby d15_144) k) ?_
      show own_Fin p.tables e below _ (T14.setTop (mkF m 145 #[.val (.ref a)] [(.int (-1 : Int32)), (.ref a)]))
      obtain ⟨T15, h15, X15, e15, W15, st15⟩ := putF X14 hx hZ hown (host := "") (Or.inl (hw _ (List.mem_of_getElem? (i := 36) rfl))) Via.refl e14 F_at'8 E_a'8 (Or.inl (hw _ (List.mem_of_getElem? (i := 37) rfl))) (hw _ (List.mem_of_getElem? (i := 1) rfl)) (ty := .int) (by decide) rfl rfl (g := (mkF m 145 #[.val (.ref a)] [(.int (-1 : Int32)), (.ref a)])) rfl rfl (hb hby d15_145)
      refine own_st st15 ?_
      have O0'15 := O0'8.wr W15 g_a
      have E_a'15 := E_a'8.wr W15
      have E_b'15 := E_b'8.wr W15
      have F_bl'15 := F_bl'8.other W15 (Or.inr (slot_ne (Or.inl (hw _ (List.mem_of_getElem? (i := 33) rfl))) (Or.inl (hw _ (List.mem_of_getElem? (i := 37) rfl))) (by decide) (t := (.array (.object "com/example/chiffchaff/chiffchaff/OpenElements$Block"))) (t' := .int) (by decide) (by decide)))
      have F_top'15 := F_top'8.other W15 (Or.inr (slot_ne (Or.inl (hw _ (List.mem_of_getElem? (i := 35) rfl))) (Or.inl (hw _ (List.mem_of_getElem? (i := 37) rfl))) (by decide) (t := (.object "com/example/chiffchaff/chiffchaff/OpenElements$Block")) (t' := .int) (by decide) (by decide)))
      have F_at'15 := F_at'8.same W15
      have F_d'15 := F_d'8.other W15 (Or.inr (slot_ne (Or.inl (hw _ (List.mem_of_getElem? (i := 57) rfl))) (Or.inl (hw _ (List.mem_of_getElem? (i := 37) rfl))) (by decide) (t := .int) (t' := .int) (by decide) (by decide)))
      have V_bl'15 := V_bl'8.other W15 (Ne.symm (own_neEA E_a'8 (hw _ (List.mem_of_getElem? (i := 1) rfl)) (own_Arv V_bl'8)))
      have F_nm'15 := F_nm'8.other W15 (Or.inl (ne_exa E_b'8 E_a'8 (by decide)))
      have F_ur'15 := F_ur'8.other W15 (Or.inl (ne_exa E_b'8 E_a'8 (by decide)))
      have F_lv'15 := F_lv'8.other W15 (Or.inl (ne_exa E_b'8 E_a'8 (by decide)))
      have F_bd'15 := F_bd'8.other W15 (Or.inl (ne_exa E_b'8 E_a'8 (by decide)))
      have F_ty'15 := F_ty'8.other W15 (Or.inl (ne_exa E_b'8 E_a'8 (by decide)))
      have F_st'15 := F_st'8.other W15 (Or.inl (ne_exa E_b'8 E_a'8 (by decide)))
      have O_nm'15 := O_nm'8.wr W15
      have O_ur'15 := O_ur'8.wr W15
      have A_lv'15 := A_lv'8.wr W15
      have A_bd'15 := A_bd'8.wr W15
      have N15 := Fr.snoc X15 N8 g_a
      have Z15 : n0 ≤ h15.size := by rw [W15.size]; exact Z8
      show own_Fin p.tables e below _ (T15.setTop (mkF m 148 #[.val (.ref a)] []))
      obtain ⟨fs, hr, hrun, hended, hW, hsame⟩ := X15.leave (v := none) (fun _ => rfl)
      refine ⟨_, _, X15.returnOut hx Bd.returns (hb hby d15_148) hr, hrun, hended, _, _, rfl, ?_, ⟨_, rfl⟩, hW, hsame.mono (by decide) (by decide)⟩
      show Q15 Z a b bl nm ur lv bd kB .null d h0 n0 _ T15.heap _
      rw [e15]
      exact ⟨rfl, N15, O0'15, _, ⟨⟨E_a'15, E_b'15, F_bl'15, F_top'15, (own_dn hd ct ▸ F_at'15), F_d'15, V_bl'15⟩, ⟨F_nm'15, F_ur'15, F_lv'15, F_bd'15, F_ty'15, F_st'15⟩, ⟨O_nm'15, O_ur'15, A_lv'15, A_bd'15, Or.inl rfl⟩, ⟨g_a, g_b, g_nm, g_ur, g_lv, g_bd⟩⟩⟩
  · have _ := g_a
    refine own_st (fun t k => XS.aloadN X0.here hx rfl (hb hby d15_0) rfl rfl k) ?_
    show own_Fin p.tables e below _ (s₁.setTop (mkF m 1 #[.val (.ref a)] [(.ref a)]))
    refine own_st (fun t k => XS.dup X0.here hx rfl (hb hby d15_1) rfl rfl k) ?_
    show own_Fin p.tables e below _ (s₁.setTop (mkF m 2 #[.val (.ref a)] [(.ref a), (.ref a)]))
    obtain ⟨T16, X16, e16, st16⟩ := getF X0 hx hZ hown (host := "") (Or.inl (hw _ (List.mem_of_getElem? (i := 56) rfl))) Via.refl e0 F_d (g := (mkF m 2 #[.val (.ref a)] [(.ref a), (.ref a)])) rfl rfl (hb hby d15_2)
    refine own_st st16 ?_
    show own_Fin p.tables e below _ (T16.setTop (mkF m 5 #[.val (.ref a)] [(.int d), (.ref a)]))
    refine own_st (fun t k => XS.iconst X16.here hx rfl (hb hby d15_5) k) ?_
    show own_Fin p.tables e below _ (T16.setTop (mkF m 6 #[.val (.ref a)] [(.int (1 : Int32)), (.int d), (.ref a)]))
    refine own_st (fun t k => XS.isub X16.here hx rfl (hb hby d15_6) rfl k) ?_
    show own_Fin p.tables e below _ (T16.setTop (mkF m 7 #[.val (.ref a)] [(.int (d - (1 : Int32))), (.ref a)]))
    obtain ⟨T17, h17, X17, e17, W17, st17⟩ := putF X16 hx hZ hown (host := "") (Or.inl (hw _ (List.mem_of_getElem? (i := 56) rfl))) Via.refl e16 F_d E_a (Or.inl (hw _ (List.mem_of_getElem? (i := 57) rfl))) (hw _ (List.mem_of_getElem? (i := 1) rfl)) (ty := .int) (by decide) rfl rfl (g := (mkF m 7 #[.val (.ref a)] [(.int (d - (1 : Int32))), (.ref a)])) rfl rfl (hb hby d15_7)
    refine own_st st17 ?_
    have O0'17 := O0.wr W17 g_a
    have E_a'17 := E_a.wr W17
    have E_b'17 := E_b.wr W17
    have F_bl'17 := F_bl.other W17 (Or.inr (slot_ne (Or.inl (hw _ (List.mem_of_getElem? (i := 33) rfl))) (Or.inl (hw _ (List.mem_of_getElem? (i := 57) rfl))) (by decide) (t := (.array (.object "com/example/chiffchaff/chiffchaff/OpenElements$Block"))) (t' := .int) (by decide) (by decide)))
    have F_top'17 := F_top.other W17 (Or.inr (slot_ne (Or.inl (hw _ (List.mem_of_getElem? (i := 35) rfl))) (Or.inl (hw _ (List.mem_of_getElem? (i := 57) rfl))) (by decide) (t := (.object "com/example/chiffchaff/chiffchaff/OpenElements$Block")) (t' := .int) (by decide) (by decide)))
    have F_at'17 := F_at.other W17 (Or.inr (slot_ne (Or.inl (hw _ (List.mem_of_getElem? (i := 37) rfl))) (Or.inl (hw _ (List.mem_of_getElem? (i := 57) rfl))) (by decide) (t := .int) (t' := .int) (by decide) (by decide)))
    have F_d'17 := F_d.same W17
    have V_bl'17 := V_bl.other W17 (Ne.symm (own_neEA E_a (hw _ (List.mem_of_getElem? (i := 1) rfl)) (own_Arv V_bl)))
    have F_nm'17 := F_nm.other W17 (Or.inl (ne_exa E_b E_a (by decide)))
    have F_ur'17 := F_ur.other W17 (Or.inl (ne_exa E_b E_a (by decide)))
    have F_lv'17 := F_lv.other W17 (Or.inl (ne_exa E_b E_a (by decide)))
    have F_bd'17 := F_bd.other W17 (Or.inl (ne_exa E_b E_a (by decide)))
    have F_ty'17 := F_ty.other W17 (Or.inl (ne_exa E_b E_a (by decide)))
    have F_st'17 := F_st.other W17 (Or.inl (ne_exa E_b E_a (by decide)))
    have O_nm'17 := O_nm.wr W17
    have O_ur'17 := O_ur.wr W17
    have A_lv'17 := A_lv.wr W17
    have A_bd'17 := A_bd.wr W17
    have O_ty'17 := O_ty.wr W17
    have N17 := Fr.snoc X17 N0 g_a
    have Z17 : n0 ≤ h17.size := by rw [W17.size]; exact Z0
    show own_Fin p.tables e below _ (T17.setTop (mkF m 10 #[.val (.ref a)] []))
    refine own_st (fun t k => XS.aloadN X17.here hx rfl (hb hby d15_10) rfl rfl k) ?_
    show own_Fin p.tables e below _ (T17.setTop (mkF m 11 #[.val (.ref a)] [(.ref a)]))
    obtain ⟨T18, X18, e18, st18⟩ := getF X17 hx hZ hown (host := "") (Or.inl (hw _ (List.mem_of_getElem? (i := 34) rfl))) Via.refl e17 F_top'17 (g := (mkF m 11 #[.val (.ref a)] [(.ref a)])) rfl rfl (hb hby d15_11)
    refine own_st st18 ?_
    show own_Fin p.tables e below _ (T18.setTop (mkF m 14 #[.val (.ref a)] [(.ref b)]))
    refine own_st (fun t k => own_getR X18 hx hZ hown (hw _ (List.mem_of_getElem? (i := 43) rfl)) e18 F_nm'17 (g := (mkF m 14 #[.val (.ref a)] [(.ref b)])) rfl rfl (hb hby d15_14) t k) ?_
    show own_Fin p.tables e below _ (T18.setTop (mkF m 17 #[.val (.ref a)] [(.ref nm)]))
    refine own_st (fun t k => XS.aloadN X18.here hx rfl (hb hby d15_17) rfl rfl k) ?_
    show own_Fin p.tables e below _ (T18.setTop (mkF m 18 #[.val (.ref a)] [(.ref a), (.ref nm)]))
    obtain ⟨T19, X19, e19, st19⟩ := getF X18 hx hZ hown (host := "") (Or.inl (hw _ (List.mem_of_getElem? (i := 36) rfl))) Via.refl e18 F_at'17 (g := (mkF m 18 #[.val (.ref a)] [(.ref a), (.ref nm)])) rfl rfl (hb hby d15_18)
    refine own_st st19 ?_
    show own_Fin p.tables e below _ (T19.setTop (mkF m 21 #[.val (.ref a)] [(.int (d - 1)), (.ref nm)]))
    refine own_st (fun t k => XS.aconstNull X19.here hx rfl (hb hby d15_21) k) ?_
    show own_Fin p.tables e below _ (T19.setTop (mkF m 22 #[.val (.ref a)] [.null, (.int (d - 1)), (.ref nm)]))
    obtain ⟨T20, h20, X20, e20, W20, st20⟩ := own_stR X19 hx hZ e19 O_nm'17 (j := (d - 1)) (own_inp hd) (Or.inl rfl) (g := (mkF m 22 #[.val (.ref a)] [.null, (.int (d - 1)), (.ref nm)])) rfl rfl (hb hby d15_22)
    refine own_st st20 ?_
    have O0'20 := O0'17.wr W20 g_nm
    have E_a'20 := E_a'17.wr W20
    have E_b'20 := E_b'17.wr W20
    have F_bl'20 := F_bl'17.other W20 (Or.inl (own_neEA E_a'17 (hw _ (List.mem_of_getElem? (i := 1) rfl)) (own_O.A O_nm'17)))
    have F_top'20 := F_top'17.other W20 (Or.inl (own_neEA E_a'17 (hw _ (List.mem_of_getElem? (i := 1) rfl)) (own_O.A O_nm'17)))
    have F_at'20 := F_at'17.other W20 (Or.inl (own_neEA E_a'17 (hw _ (List.mem_of_getElem? (i := 1) rfl)) (own_O.A O_nm'17)))
    have F_d'20 := F_d'17.other W20 (Or.inl (own_neEA E_a'17 (hw _ (List.mem_of_getElem? (i := 1) rfl)) (own_O.A O_nm'17)))
    have V_bl'20 := V_bl'17.other W20 (own_neAA (own_Arv V_bl'17) (own_O.A O_nm'17) (by decide))
    have F_nm'20 := F_nm'17.other W20 (Or.inl (own_neEA E_b'17 (hw _ (List.mem_of_getElem? (i := 11) rfl)) (own_O.A O_nm'17)))
    have F_ur'20 := F_ur'17.other W20 (Or.inl (own_neEA E_b'17 (hw _ (List.mem_of_getElem? (i := 11) rfl)) (own_O.A O_nm'17)))
    have F_lv'20 := F_lv'17.other W20 (Or.inl (own_neEA E_b'17 (hw _ (List.mem_of_getElem? (i := 11) rfl)) (own_O.A O_nm'17)))
    have F_bd'20 := F_bd'17.other W20 (Or.inl (own_neEA E_b'17 (hw _ (List.mem_of_getElem? (i := 11) rfl)) (own_O.A O_nm'17)))
    have F_ty'20 := F_ty'17.other W20 (Or.inl (own_neEA E_b'17 (hw _ (List.mem_of_getElem? (i := 11) rfl)) (own_O.A O_nm'17)))
    have F_st'20 := F_st'17.other W20 (Or.inl (own_neEA E_b'17 (hw _ (List.mem_of_getElem? (i := 11) rfl)) (own_O.A O_nm'17)))
    have O_nm'20 := O_nm'17.wr W20
    have O_ur'20 := O_ur'17.wr W20
    have A_lv'20 := A_lv'17.wr W20
    have A_bd'20 := A_bd'17.wr W20
    have O_ty'20 := O_ty'17.wr W20
    have N20 := Fr.snoc X20 N17 g_nm
    have Z20 : n0 ≤ h20.size := by rw [W20.size]; exact Z17
    show own_Fin p.tables e below _ (T20.setTop (mkF m 23 #[.val (.ref a)] []))
    refine own_st (fun t k => XS.aloadN X20.here hx rfl (hb hby d15_23) rfl rfl k) ?_
    show own_Fin p.tables e below _ (T20.setTop (mkF m 24 #[.val (.ref a)] [(.ref a)]))
    obtain ⟨T21, X21, e21, st21⟩ := getF X20 hx hZ hown (host := "") (Or.inl (hw _ (List.mem_of_getElem? (i := 34) rfl))) Via.refl e20 F_top'20 (g := (mkF m 24 #[.val (.ref a)] [(.ref a)])) rfl rfl (hb hby d15_24)
    refine own_st st21 ?_
    show own_Fin p.tables e below _ (T21.setTop (mkF m 27 #[.val (.ref a)] [(.ref b)]))
    refine own_st (fun t k => own_getR X21 hx hZ hown (hw _ (List.mem_of_getElem? (i := 102) rfl)) e21 F_ur'20 (g := (mkF m 27 #[.val (.ref a)] [(.ref b)])) rfl rfl (hb hby d15_27) t k) ?_
    show own_Fin p.tables e below _ (T21.setTop (mkF m 30 #[.val (.ref a)] [(.ref ur)]))
    refine own_st (fun t k => XS.aloadN X21.here hx rfl (hb hby d15_30) rfl rfl k) ?_
    show own_Fin p.tables e below _ (T21.setTop (mkF m 31 #[.val (.ref a)] [(.ref a), (.ref ur)]))
    obtain ⟨T22, X22, e22, st22⟩ := getF X21 hx hZ hown (host := "") (Or.inl (hw _ (List.mem_of_getElem? (i := 36) rfl))) Via.refl e21 F_at'20 (g := (mkF m 31 #[.val (.ref a)] [(.ref a), (.ref ur)])) rfl rfl (hb hby d15_31)
    refine own_st st22 ?_
    show own_Fin p.tables e below _ (T22.setTop (mkF m 34 #[.val (.ref a)] [(.int (d - 1)), (.ref ur)]))
    refine own_st (fun t k => XS.aconstNull X22.here hx rfl (hb hby d15_34) k) ?_
    show own_Fin p.tables e below _ (T22.setTop (mkF m 35 #[.val (.ref a)] [.null, (.int (d - 1)), (.ref ur)]))
    obtain ⟨T23, h23, X23, e23, W23, st23⟩ := own_stR X22 hx hZ e22 O_ur'20 (j := (d - 1)) (own_inp hd) (Or.inl rfl) (g := (mkF m 35 #[.val (.ref a)] [.null, (.int (d - 1)), (.ref ur)])) rfl rfl (hb hby d15_35)
    refine own_st st23 ?_
    have O0'23 := O0'20.wr W23 g_ur
    have E_a'23 := E_a'20.wr W23
    have E_b'23 := E_b'20.wr W23
    have F_bl'23 := F_bl'20.other W23 (Or.inl (own_neEA E_a'20 (hw _ (List.mem_of_getElem? (i := 1) rfl)) (own_O.A O_ur'20)))
    have F_top'23 := F_top'20.other W23 (Or.inl (own_neEA E_a'20 (hw _ (List.mem_of_getElem? (i := 1) rfl)) (own_O.A O_ur'20)))
    have F_at'23 := F_at'20.other W23 (Or.inl (own_neEA E_a'20 (hw _ (List.mem_of_getElem? (i := 1) rfl)) (own_O.A O_ur'20)))
    have F_d'23 := F_d'20.other W23 (Or.inl (own_neEA E_a'20 (hw _ (List.mem_of_getElem? (i := 1) rfl)) (own_O.A O_ur'20)))
    have V_bl'23 := V_bl'20.other W23 (own_neAA (own_Arv V_bl'20) (own_O.A O_ur'20) (by decide))
    have F_nm'23 := F_nm'20.other W23 (Or.inl (own_neEA E_b'20 (hw _ (List.mem_of_getElem? (i := 11) rfl)) (own_O.A O_ur'20)))
    have F_ur'23 := F_ur'20.other W23 (Or.inl (own_neEA E_b'20 (hw _ (List.mem_of_getElem? (i := 11) rfl)) (own_O.A O_ur'20)))
    have F_lv'23 := F_lv'20.other W23 (Or.inl (own_neEA E_b'20 (hw _ (List.mem_of_getElem? (i := 11) rfl)) (own_O.A O_ur'20)))
    have F_bd'23 := F_bd'20.other W23 (Or.inl (own_neEA E_b'20 (hw _ (List.mem_of_getElem? (i := 11) rfl)) (own_O.A O_ur'20)))
    have F_ty'23 := F_ty'20.other W23 (Or.inl (own_neEA E_b'20 (hw _ (List.mem_of_getElem? (i := 11) rfl)) (own_O.A O_ur'20)))
    have F_st'23 := F_st'20.other W23 (Or.inl (own_neEA E_b'20 (hw _ (List.mem_of_getElem? (i := 11) rfl)) (own_O.A O_ur'20)))
    have O_nm'23 := O_nm'20.wr W23
    have O_ur'23 := O_ur'20.wr W23
    have A_lv'23 := A_lv'20.wr W23
    have A_bd'23 := A_bd'20.wr W23
    have O_ty'23 := O_ty'20.wr W23
    have N23 := Fr.snoc X23 N20 g_ur
    have Z23 : n0 ≤ h23.size := by rw [W23.size]; exact Z20
    show own_Fin p.tables e below _ (T23.setTop (mkF m 36 #[.val (.ref a)] []))
    refine own_st (fun t k => XS.aloadN X23.here hx rfl (hb hby d15_36) rfl rfl k) ?_
    show own_Fin p.tables e below _ (T23.setTop (mkF m 37 #[.val (.ref a)] [(.ref a)]))
    obtain ⟨T24, X24, e24, st24⟩ := getF X23 hx hZ hown (host := "") (Or.inl (hw _ (List.mem_of_getElem? (i := 34) rfl))) Via.refl e23 F_top'23 (g := (mkF m 37 #[.val (.ref a)] [(.ref a)])) rfl rfl (hb hby d15_37)
    refine own_st st24 ?_
    show own_Fin p.tables e below _ (T24.setTop (mkF m 40 #[.val (.ref a)] [(.ref b)]))
    refine own_st (fun t k => own_getR X24 hx hZ hown (hw _ (List.mem_of_getElem? (i := 110) rfl)) e24 F_ty'23 (g := (mkF m 40 #[.val (.ref a)] [(.ref b)])) rfl rfl (hb hby d15_40) t k) ?_
    show own_Fin p.tables e below _ (T24.setTop (mkF m 43 #[.val (.ref a)] [(.ref ty)]))
    refine own_st (fun t k => XS.ifnullNo X24.here hx rfl (hb hby d15_43) rfl k) ?_
    show own_Fin p.tables e below _ (T24.setTop (mkF m 46 #[.val (.ref a)] []))
    refine own_st (fun t k => XS.aloadN X24.here hx rfl (hb hby d15_46) rfl rfl k) ?_
    show own_Fin p.tables e below _ (T24.setTop (mkF m 47 #[.val (.ref a)] [(.ref a)]))
    obtain ⟨T25, X25, e25, st25⟩ := getF X24 hx hZ hown (host := "") (Or.inl (hw _ (List.mem_of_getElem? (i := 34) rfl))) Via.refl e24 F_top'23 (g := (mkF m 47 #[.val (.ref a)] [(.ref a)])) rfl rfl (hb hby d15_47)
    refine own_st st25 ?_
    show own_Fin p.tables e below _ (T25.setTop (mkF m 50 #[.val (.ref a)] [(.ref b)]))
    refine own_st (fun t k => own_getR X25 hx hZ hown (hw _ (List.mem_of_getElem? (i := 110) rfl)) e25 F_ty'23 (g := (mkF m 50 #[.val (.ref a)] [(.ref b)])) rfl rfl (hb hby d15_50) t k) ?_
    show own_Fin p.tables e below _ (T25.setTop (mkF m 53 #[.val (.ref a)] [(.ref ty)]))
    refine own_st (fun t k => XS.aloadN X25.here hx rfl (hb hby d15_53) rfl rfl k) ?_
    show own_Fin p.tables e below _ (T25.setTop (mkF m 54 #[.val (.ref a)] [(.ref a), (.ref ty)]))
    obtain ⟨T26, X26, e26, st26⟩ := getF X25 hx hZ hown (host := "") (Or.inl (hw _ (List.mem_of_getElem? (i := 36) rfl))) Via.refl e25 F_at'23 (g := (mkF m 54 #[.val (.ref a)] [(.ref a), (.ref ty)])) rfl rfl (hb hby d15_54)
    refine own_st st26 ?_
    show own_Fin p.tables e below _ (T26.setTop (mkF m 57 #[.val (.ref a)] [(.int (d - 1)), (.ref ty)]))
    refine own_st (fun t k => XS.aconstNull X26.here hx rfl (hb hby d15_57) k) ?_
    show own_Fin p.tables e below _ (T26.setTop (mkF m 58 #[.val (.ref a)] [.null, (.int (d - 1)), (.ref ty)]))
    obtain ⟨T27, h27, X27, e27, W27, st27⟩ := own_stR X26 hx hZ e26 O_ty'23 (j := (d - 1)) (own_inp hd) (Or.inl rfl) (g := (mkF m 58 #[.val (.ref a)] [.null, (.int (d - 1)), (.ref ty)])) rfl rfl (hb hby d15_58)
    refine own_st st27 ?_
    have O0'27 := O0'23.wr W27 g_ty
    have E_a'27 := E_a'23.wr W27
    have E_b'27 := E_b'23.wr W27
    have F_bl'27 := F_bl'23.other W27 (Or.inl (own_neEA E_a'23 (hw _ (List.mem_of_getElem? (i := 1) rfl)) (own_O.A O_ty'23)))
    have F_top'27 := F_top'23.other W27 (Or.inl (own_neEA E_a'23 (hw _ (List.mem_of_getElem? (i := 1) rfl)) (own_O.A O_ty'23)))
    have F_at'27 := F_at'23.other W27 (Or.inl (own_neEA E_a'23 (hw _ (List.mem_of_getElem? (i := 1) rfl)) (own_O.A O_ty'23)))
    have F_d'27 := F_d'23.other W27 (Or.inl (own_neEA E_a'23 (hw _ (List.mem_of_getElem? (i := 1) rfl)) (own_O.A O_ty'23)))
    have V_bl'27 := V_bl'23.other W27 (own_neAA (own_Arv V_bl'23) (own_O.A O_ty'23) (by decide))
    have F_nm'27 := F_nm'23.other W27 (Or.inl (own_neEA E_b'23 (hw _ (List.mem_of_getElem? (i := 11) rfl)) (own_O.A O_ty'23)))
    have F_ur'27 := F_ur'23.other W27 (Or.inl (own_neEA E_b'23 (hw _ (List.mem_of_getElem? (i := 11) rfl)) (own_O.A O_ty'23)))
    have F_lv'27 := F_lv'23.other W27 (Or.inl (own_neEA E_b'23 (hw _ (List.mem_of_getElem? (i := 11) rfl)) (own_O.A O_ty'23)))
    have F_bd'27 := F_bd'23.other W27 (Or.inl (own_neEA E_b'23 (hw _ (List.mem_of_getElem? (i := 11) rfl)) (own_O.A O_ty'23)))
    have F_ty'27 := F_ty'23.other W27 (Or.inl (own_neEA E_b'23 (hw _ (List.mem_of_getElem? (i := 11) rfl)) (own_O.A O_ty'23)))
    have F_st'27 := F_st'23.other W27 (Or.inl (own_neEA E_b'23 (hw _ (List.mem_of_getElem? (i := 11) rfl)) (own_O.A O_ty'23)))
    have O_nm'27 := O_nm'23.wr W27
    have O_ur'27 := O_ur'23.wr W27
    have A_lv'27 := A_lv'23.wr W27
    have A_bd'27 := A_bd'23.wr W27
    have O_ty'27 := O_ty'23.wr W27
    have N27 := Fr.snoc X27 N23 g_ty
    have Z27 : n0 ≤ h27.size := by rw [W27.size]; exact Z23
    show own_Fin p.tables e below _ (T27.setTop (mkF m 59 #[.val (.ref a)] []))
    refine own_st (fun t k => XS.aloadN X27.here hx rfl (hb hby d15_59) rfl rfl k) ?_
    show own_Fin p.tables e below _ (T27.setTop (mkF m 60 #[.val (.ref a)] [(.ref a)]))
    obtain ⟨T28, X28, e28, st28⟩ := getF X27 hx hZ hown (host := "") (Or.inl (hw _ (List.mem_of_getElem? (i := 34) rfl))) Via.refl e27 F_top'27 (g := (mkF m 60 #[.val (.ref a)] [(.ref a)])) rfl rfl (hb hby d15_60)
    refine own_st st28 ?_
    show own_Fin p.tables e below _ (T28.setTop (mkF m 63 #[.val (.ref a)] [(.ref b)]))
    refine own_st (fun t k => own_getR X28 hx hZ hown (hw _ (List.mem_of_getElem? (i := 111) rfl)) e28 F_st'27 (g := (mkF m 63 #[.val (.ref a)] [(.ref b)])) rfl rfl (hb hby d15_63) t k) ?_
    show own_Fin p.tables e below _ (T28.setTop (mkF m 66 #[.val (.ref a)] [.null]))
    refine own_st (fun t k => XS.ifnullYes X28.here hx rfl (pc0 := 66) (pc' := 82) rfl (hb hby d15_66) rfl (by decide) (by decide) k) ?_
    show own_Fin p.tables e below _ (T28.setTop (mkF m 82 #[.val (.ref a)] []))
    refine own_st (fun t k => XS.aloadN X28.here hx rfl (hb hby d15_82) rfl rfl k) ?_
    show own_Fin p.tables e below _ (T28.setTop (mkF m 83 #[.val (.ref a)] [(.ref a)]))
    obtain ⟨T29, X29, e29, st29⟩ := getF X28 hx hZ hown (host := "") (Or.inl (hw _ (List.mem_of_getElem? (i := 36) rfl))) Via.refl e28 F_at'27 (g := (mkF m 83 #[.val (.ref a)] [(.ref a)])) rfl rfl (hb hby d15_83)
    refine own_st st29 ?_
    show own_Fin p.tables e below _ (T29.setTop (mkF m 86 #[.val (.ref a)] [(.int (d - 1))]))
    rcases Decidable.em (0 < (d - 1)) with ct | ct
    · have _ := ct
      refine own_st (fun t k => XS.ifNo X29.here hx rfl (hb hby d15_86) rfl (XT.i0_le_f ct) k) ?_
      show own_Fin p.tables e below _ (T29.setTop (mkF m 89 #[.val (.ref a)] []))
      refine own_st (fun t k => XS.aloadN X29.here hx rfl (hb hby d15_89) rfl rfl k) ?_
      show own_Fin p.tables e below _ (T29.setTop (mkF m 90 #[.val (.ref a)] [(.ref a)]))
      refine own_st (fun t k => XS.dup X29.here hx rfl (hb hby d15_90) rfl rfl k) ?_
      show own_Fin p.tables e below _ (T29.setTop (mkF m 91 #[.val (.ref a)] [(.ref a), (.ref a)]))
      obtain ⟨T30, X30, e30, st30⟩ := getF X29 hx hZ hown (host := "") (Or.inl (hw _ (List.mem_of_getElem? (i := 36) rfl))) Via.refl e29 F_at'27 (g := (mkF m 91 #[.val (.ref a)] [(.ref a), (.ref a)])) rfl rfl (hb hby d15_91)
      refine own_st st30 ?_
      show own_Fin p.tables e below _ (T30.setTop (mkF m 94 #[.val (.ref a)] [(.int (d - 1)), (.ref a)]))
      refine own_st (fun t k => XS.iconst X30.here hx rfl (hb hby d15_94) k) ?_
      show own_Fin p.tables e below _ (T30.setTop (mkF m 95 #[.val (.ref a)] [(.int (1 : Int32)), (.int (d - 1)), (.ref a)]))
      refine own_st (fun t k => XS.isub X30.here hx rfl (hb hby d15_95) rfl k) ?_
      show own_Fin p.tables e below _ (T30.setTop (mkF m 96 #[.val (.ref a)] [(.int ((d - 1) - (1 : Int32))), (.ref a)]))
      obtain ⟨T31, h31, X31, e31, W31, st31⟩ := putF X30 hx hZ hown (host := "") (Or.inl (hw _ (List.mem_of_getElem? (i := 36) rfl))) Via.refl e30 F_at'27 E_a'27 (Or.inl (hw _ (List.mem_of_getElem? (i := 37) rfl))) (hw _ (List.mem_of_getElem? (i := 1) rfl)) (ty := .int) (by decide) rfl rfl (g := (mkF m 96 #[.val (.ref a)] [(.int ((d - 1) - (1 : Int32))), (.ref a)])) rfl rfl (hb hby d15_96)
      refine own_st st31 ?_
      have O0'31 := O0'27.wr W31 g_a
      have E_a'31 := E_a'27.wr W31
      have E_b'31 := E_b'27.wr W31
      have F_bl'31 := F_bl'27.other W31 (Or.inr (slot_ne (Or.inl (hw _ (List.mem_of_getElem? (i := 33) rfl))) (Or.inl (hw _ (List.mem_of_getElem? (i := 37) rfl))) (by decide) (t := (.array (.object "com/example/chiffchaff/chiffchaff/OpenElements$Block"))) (t' := .int) (by decide) (by decide)))
      have F_top'31 := F_top'27.other W31 (Or.inr (slot_ne (Or.inl (hw _ (List.mem_of_getElem? (i := 35) rfl))) (Or.inl (hw _ (List.mem_of_getElem? (i := 37) rfl))) (by decide) (t := (.object "com/example/chiffchaff/chiffchaff/OpenElements$Block")) (t' := .int) (by decide) (by decide)))
      have F_at'31 := F_at'27.same W31
      have F_d'31 := F_d'27.other W31 (Or.inr (slot_ne (Or.inl (hw _ (List.mem_of_getElem? (i := 57) rfl))) (Or.inl (hw _ (List.mem_of_getElem? (i := 37) rfl))) (by decide) (t := .int) (t' := .int) (by decide) (by decide)))
      have V_bl'31 := V_bl'27.other W31 (Ne.symm (own_neEA E_a'27 (hw _ (List.mem_of_getElem? (i := 1) rfl)) (own_Arv V_bl'27)))
      have F_nm'31 := F_nm'27.other W31 (Or.inl (ne_exa E_b'27 E_a'27 (by decide)))
      have F_ur'31 := F_ur'27.other W31 (Or.inl (ne_exa E_b'27 E_a'27 (by decide)))
      have F_lv'31 := F_lv'27.other W31 (Or.inl (ne_exa E_b'27 E_a'27 (by decide)))
      have F_bd'31 := F_bd'27.other W31 (Or.inl (ne_exa E_b'27 E_a'27 (by decide)))
      have F_ty'31 := F_ty'27.other W31 (Or.inl (ne_exa E_b'27 E_a'27 (by decide)))
      have F_st'31 := F_st'27.other W31 (Or.inl (ne_exa E_b'27 E_a'27 (by decide)))
      have O_nm'31 := O_nm'27.wr W31
      have O_ur'31 := O_ur'27.wr W31
      have A_lv'31 := A_lv'27.wr W31
      have A_bd'31 := A_bd'27.wr W31
      have O_ty'31 := O_ty'27.wr W31
      have N31 := Fr.snoc X31 N27 g_a
      have Z31 : n0 ≤ h31.size := by rw [W31.size]; exact Z27
      show own_Fin p.tables e below _ (T31.setTop (mkF m 99 #[.val (.ref a)] []))
      refine own_st (fun t k => XS.goto X31.here hx rfl (pc0 := 99) (pc' := 148) rfl (hb hby d15_99) (by decide) (by decide) k) ?_
      show own_Fin p.tables e below _ (T31.setTop (mkF m 148 #[.val (.ref a)] []))
      obtain ⟨fs, hr, hrun, hended, hW, hsame⟩ := X31.leave (v := none) (fun _ => rfl)
      refine ⟨_, _, X31.returnOut hx Bd.returns (hb hby d15_148) hr, hrun, hended, _, _, rfl, ?_, ⟨_, rfl⟩, hW, hsame.mono (by decide) (by decide)⟩
      show Q15 Z a b bl nm ur lv bd kB (.ref ty) d h0 n0 _ T31.heap _
      rw [e31]
      exact ⟨rfl, N31, O0'31, _, ⟨⟨E_a'31, E_b'31, F_bl'31, F_top'31, F_at'31, F_d'31, V_bl'31⟩, ⟨F_nm'31, F_ur'31, F_lv'31, F_bd'31, F_ty'31, F_st'31⟩, ⟨O_nm'31, O_ur'31, A_lv'31, A_bd'31, Or.inr ⟨ty, rfl, O_ty'31, g_ty⟩⟩, ⟨g_a, g_b, g_nm, g_ur, g_lv, g_bd⟩⟩⟩
    · have _ := ct
      refine own_st (fun t k => XS.ifYes X29.here hx rfl (pc0 := 86) (pc' := 102) rfl (hb hby d15_86) rfl (XT.i0_le_t ct) (by decide) (by decide) k) ?_
      show own_Fin p.tables e below _ (T29.setTop (mkF m 102 #[.val (.ref a)] []))
      refine own_st (fun t k => XS.aloadN X29.here hx rfl (hb hby d15_102) rfl rfl k) ?_
      show own_Fin p.tables e below _ (T29.setTop (mkF m 103 #[.val (.ref a)] [(.ref a)]))
      obtain ⟨T32, X32, e32, st32⟩ := getF X29 hx hZ hown (host := "") (Or.inl (hw _ (List.mem_of_getElem? (i := 56) rfl))) Via.refl e29 F_d'27 (g := (mkF m 103 #[.val (.ref a)] [(.ref a)])) rfl rfl (hb hby d15_103)
      refine own_st st32 ?_
      show own_Fin p.tables e below _ (T32.setTop (mkF m 106 #[.val (.ref a)] [(.int (d - (1 : Int32)))]))
      refine own_st (fun t k => XS.ifYes X32.here hx rfl (pc0 := 106) (pc' := 143) rfl (hb hby d15_106) rfl (XT.i0_le_t ct) (by decide) (by decide) k) ?_
      show own_Fin p.tables e below _ (T32.setTop (mkF m 143 #[.val (.ref a)] []))
      refine own_st (fun t k => XS.aloadN X32.here hx rfl (hb hby d15_143) rfl rfl k) ?_
      show own_Fin p.tables e below _ (T32.setTop (mkF m 144 #[.val (.ref a)] [(.ref a)]))
      refine own_st (fun t k => XS.iconst X32.here hx rfl (hb hby d15_144) k) ?_
      show own_Fin p.tables e below _ (T32.setTop (mkF m 145 #[.val (.ref a)] [(.int (-1 : Int32)), (.ref a)]))
      obtain ⟨T33, h33, X33, e33, W33, st33⟩ := putF X32 hx hZ hown (host := "") (Or.inl (hw _ (List.mem_of_getElem? (i := 36) rfl))) Via.refl e32 F_at'27 E_a'27 (Or.inl (hw _ (List.mem_of_getElem? (i := 37) rfl))) (hw _ (List.mem_of_getElem? (i := 1) rfl)) (ty := .int) (by decide) rfl rfl (g := (mkF m 145 #[.val (.ref a)] [(.int (-1 : Int32)), (.ref a)])) rfl rfl (hb hby d15_145)
      refine own_st st33 ?_
      have O0'33 := O0'27.wr W33 g_a
      have E_a'33 := E_a'27.wr W33
      have E_b'33 := E_b'27.wr W33
      have F_bl'33 := F_bl'27.other W33 (Or.inr (slot_ne (Or.inl (hw _ (List.mem_of_getElem? (i := 33) rfl))) (Or.inl (hw _ (List.mem_of_getElem? (i := 37) rfl))) (by decide) (t := (.array (.object "com/example/chiffchaff/chiffchaff/OpenElements$Block"))) (t' := .int) (by decide) (by decide)))
      have F_top'33 := F_top'27.other W33 (Or.inr (slot_ne (Or.inl (hw _ (List.mem_of_getElem? (i := 35) rfl))) (Or.inl (hw _ (List.mem_of_getElem? (i := 37) rfl))) (by decide) (t := (.object "com/example/chiffchaff/chiffchaff/OpenElements$Block")) (t' := .int) (by decide) (by decide)))
      have F_at'33 := F_at'27.same W33
      have F_d'33 := F_d'27.other W33 (Or.inr (slot_ne (Or.inl (hw _ (List.mem_of_getElem? (i := 57) rfl))) (Or.inl (hw _ (List.mem_of_getElem? (i := 37) rfl))) (by decide) (t := .int) (t' := .int) (by decide) (by decide)))
      have V_bl'33 := V_bl'27.other W33 (Ne.symm (own_neEA E_a'27 (hw _ (List.mem_of_getElem? (i := 1) rfl)) (own_Arv V_bl'27)))
      have F_nm'33 := F_nm'27.other W33 (Or.inl (ne_exa E_b'27 E_a'27 (by decide)))
      have F_ur'33 := F_ur'27.other W33 (Or.inl (ne_exa E_b'27 E_a'27 (by decide)))
      have F_lv'33 := F_lv'27.other W33 (Or.inl (ne_exa E_b'27 E_a'27 (by decide)))
      have F_bd'33 := F_bd'27.other W33 (Or.inl (ne_exa E_b'27 E_a'27 (by decide)))
      have F_ty'33 := F_ty'27.other W33 (Or.inl (ne_exa E_b'27 E_a'27 (by decide)))
      have F_st'33 := F_st'27.other W33 (Or.inl (ne_exa E_b'27 E_a'27 (by decide)))
      have O_nm'33 := O_nm'27.wr W33
      have O_ur'33 := O_ur'27.wr W33
      have A_lv'33 := A_lv'27.wr W33
      have A_bd'33 := A_bd'27.wr W33
      have O_ty'33 := O_ty'27.wr W33
      have N33 := Fr.snoc X33 N27 g_a
      have Z33 : n0 ≤ h33.size := by rw [W33.size]; exact Z27
      show own_Fin p.tables e below _ (T33.setTop (mkF m 148 #[.val (.ref a)] []))
      obtain ⟨fs, hr, hrun, hended, hW, hsame⟩ := X33.leave (v := none) (fun _ => rfl)
      refine ⟨_, _, X33.returnOut hx Bd.returns (hb hby d15_148) hr, hrun, hended, _, _, rfl, ?_, ⟨_, rfl⟩, hW, hsame.mono (by decide) (by decide)⟩
      show Q15 Z a b bl nm ur lv bd kB (.ref ty) d h0 n0 _ T33.heap _
      rw [e33]
      exact ⟨rfl, N33, O0'33, _, ⟨⟨E_a'33, E_b'33, F_bl'33, F_top'33, (own_dn hd ct ▸ F_at'33), F_d'33, V_bl'33⟩, ⟨F_nm'33, F_ur'33, F_lv'33, F_bd'33, F_ty'33, F_st'33⟩, ⟨O_nm'33, O_ur'33, A_lv'33, A_bd'33, Or.inr ⟨ty, rfl, O_ty'33, g_ty⟩⟩, ⟨g_a, g_b, g_nm, g_ur, g_lv, g_bd⟩⟩⟩
def Q11 (Z : State) (a : Addr) (b : Addr) (bl : Addr) (nm : Addr) (ur : Addr) (lv : Addr) (bd : Addr) (kB : ClassId) (tv : Value) (d : Int32) (aT : Addr) (aU : Addr) (lev : Int32) (bou : Int64) (h0 : Heap) (n0 : Nat) (v : Option Value) (h : Heap) (L : List Loc) : Prop := v = none ∧ Fr n0 L ∧ Old Z n0 h ∧ Exa Z h aT "com/example/chiffchaff/chiffchaff/ElementType" ∧ ∃ tv', own_OE Z h n0 a b bl nm ur lv bd kB tv' (d + 1)
set_option maxRecDepth 65536 in
set_option maxHeartbeats 40000000 in
theorem rm11 (l : Launch) (Z : State) (a0 : Array Value) (hw : ∀ d ∈ tables_1, d.before a0 Z = true) (ws : List Jvm.Cond) (a : Addr) (b : Addr) (bl : Addr) (nm : Addr) (ur : Addr) (lv : Addr) (bd : Addr) (kB : ClassId) (tv : Value) (d : Int32) (aT : Addr) (aU : Addr) (lev : Int32) (bou : Int64) (h0 : Heap) (n0 : Nat) (Z0 : n0 ≤ h0.size) (OE0 : own_OE Z h0 n0 a b bl nm ur lv bd kB tv d) (O0 : Old Z n0 h0) (E_T : Exa Z h0 aT "com/example/chiffchaff/chiffchaff/ElementType") (S_U : Sta Z Z.heap "com/example/chiffchaff/chiffchaff/ElementType" "UNDECLARED" "Lcom/example/chiffchaff/chiffchaff/ElementType;" (.ref aU)) (hd : (d = 0 ∨ d = 1 ∨ d = 2)) :
    MetFree l (⟨"com/example/chiffchaff/chiffchaff/OpenElements", "push", "(Lcom/example/chiffchaff/chiffchaff/XmlName;Lcom/example/chiffchaff/chiffchaff/ElementType;Ljava/lang/String;IJ)V"⟩ : MethodName) (head1 (Jvm.Cond.code (⟨"com/example/chiffchaff/chiffchaff/OpenElements", "push", "(Lcom/example/chiffchaff/chiffchaff/XmlName;Lcom/example/chiffchaff/chiffchaff/ElementType;Ljava/lang/String;IJ)V"⟩ : MethodName) prog_52_method_3_code 10 none :: ws) ({ frames := 3, cells := 1, slots := 16, locals := 50 } : Room)) (fun xs U => xs = #[(.ref a), .null, (.ref aT), .null, (.int lev), (.long bou)] ∧ Z.Warmed39 U.vm ∧ U.heap = h0) (fun _ _ _ _ _ => True) (fun _ U o U' => ∃ v L, o = .returned v ∧ Q11 Z a b bl nm ur lv bd kB tv d aT aU lev bou h0 n0 v U'.heap L ∧ FrameEnd U o U' L ({ frames := 3, cells := 1, slots := 16, locals := 50 } : Room).cells ({ frames := 3, cells := 1, slots := 16, locals := 50 } : Room).slots) := by
  refine MetFree.of_bodySF (plainFor_of_name pn_com_example_chiffchaff_chiffchaff_OpenElements) hisR ?_
  intro p e s m args below meth c s₁ Bd hml0 hP hK
  obtain ⟨rfl, hZ, hh⟩ := hP
  have hx := Bd.exec
  have hby := Bd.bytes
  have hml : c.maxLocals = 10 := hml0
  have hown : s.vm.findClass "com/example/chiffchaff/chiffchaff/OpenElements" = some m.cls := findClass_of_methodNamed Bd.named
  have hnm := (name_of_methodNamed Bd.named Bd.method).1
  have X0 : Stand p l e ({ frames := 3, cells := 1, slots := 16, locals := 50 } : Room) s m #[(.ref a), .null, (.ref aT), .null, (.int lev), (.long bou)] below meth c s₁ [] 0 0 := Stand.of_body Bd
  have e0 : s₁.heap = h0 := by rw [← hh, Bd.state]; rfl
  have N0 := Fr.nil n0
  change own_Fin p.tables e below (fun s₂ o => ∃ v L, o = .returned v ∧ Q11 Z a b bl nm ur lv bd kB tv d aT aU lev bou h0 n0 v s₂.heap L ∧ FrameEnd s o s₂ L ({ frames := 3, cells := 1, slots := 16, locals := 50 } : Room).cells ({ frames := 3, cells := 1, slots := 16, locals := 50 } : Room).slots) (s₁.setTop (entryFrame m #[(.ref a), .null, (.ref aT), .null, (.int lev), (.long bou)] 10))
  refine own_st (fun t k => castTop (show entryFrame m #[(.ref a), .null, (.ref aT), .null, (.int lev), (.long bou)] 10 = mkF m 0 #[.val (.ref a), .val .null, .val (.ref aT), .val .null, .val (.int lev), .val (.long bou), .second, .unset, .unset, .unset] [] by first | (simp [entryFrame, mkF, argsToLocals, Value.category, maxLocals]; done) | rfl) k) ?_
  show own_Fin p.tables e below _ (s₁.setTop (mkF m 0 #[.val (.ref a), .val .null, .val (.ref aT), .val .null, .val (.int lev), .val (.long bou), .second, .unset, .unset, .unset] []))
  obtain ⟨⟨E_a, E_b, F_bl, F_top, F_at, F_d, V_bl⟩, ⟨F_nm, F_ur, F_lv, F_bd, F_ty, F_st⟩, ⟨O_nm, O_ur, A_lv, A_bd, hty⟩, ⟨g_a, g_b, g_nm, g_ur, g_lv, g_bd⟩⟩ := OE0
  rcases hty with rfl | ⟨ty, rfl, O_ty, g_ty⟩
  · have _ := g_a
    refine own_st (fun t k => XS.aloadN X0.here hx rfl (hb hby d11_0) rfl rfl k) ?_
    show own_Fin p.tables e below _ (s₁.setTop (mkF m 1 #[.val (.ref a), .val .null, .val (.ref aT), .val .null, .val (.int lev), .val (.long bou), .second, .unset, .unset, .unset] [(.ref a)]))
    obtain ⟨T1, X1, e1, st1⟩ := getF X0 hx hZ hown (host := "") (Or.inl (hw _ (List.mem_of_getElem? (i := 56) rfl))) Via.refl e0 F_d (g := (mkF m 1 #[.val (.ref a), .val .null, .val (.ref aT), .val .null, .val (.int lev), .val (.long bou), .second, .unset, .unset, .unset] [(.ref a)])) rfl rfl (hb hby d11_1)
    refine own_st st1 ?_
    show own_Fin p.tables e below _ (T1.setTop (mkF m 4 #[.val (.ref a), .val .null, .val (.ref aT), .val .null, .val (.int lev), .val (.long bou), .second, .unset, .unset, .unset] [(.int d)]))
    obtain ⟨_, _, ⟨T2, L2, k2, n2⟩, -, X2, ⟨Lc2, hQ2, l2, y2, z2⟩, st2⟩ := Jvm.LawKit.callS X1 hx (y := (⟨"com/example/chiffchaff/chiffchaff/OpenElements", "block", "(I)I"⟩ : MethodName)) hown (mvT hZ (hw _ (List.mem_of_getElem? (i := 88) rfl))) (mvT hZ (hw _ (List.mem_of_getElem? (i := 89) rfl))) (mvT hZ (hw _ (List.mem_of_getElem? (i := 2) rfl))) (mvT hZ (hw _ (List.mem_of_getElem? (i := 90) rfl))) (by decide) (backOf (W := 0) (rm12 l Z a0 hw [] d h0 n0 Z0 hd) hZ (hw _ (List.mem_of_getElem? (i := 90) rfl)) (hw _ (List.mem_of_getElem? (i := 2) rfl)) (by decide) (by decide)) (g := (mkF m 4 #[.val (.ref a), .val .null, .val (.ref aT), .val .null, .val (.int lev), .val (.long bou), .second, .unset, .unset, .unset] [(.int d)])) rfl (by rw [hml]; rfl) (argsL := [(.int d)]) (rest := []) (lenOf pd__I_I rfl) rfl (by show 2 * 0 + _ ≤ _; exact Nat.le_of_eq rfl) (hb hby d11_4) (fun _ _ => ⟨rfl, e1, (by decide : 0 + 0 ≤ _), (by decide : 0 + 0 ≤ _)⟩)
    dsimp only [Pt.U, Pt.locs, Pt.cells, Pt.slots] at X2 l2 y2 z2 st2 hQ2
    subst l2 y2 z2
    obtain ⟨rfl, N2, q2⟩ := hQ2
    refine own_st (st2) ?_
    have N2a := Fr.app N0 N2
    show own_Fin p.tables e below _ (T2.setTop (mkF m 7 #[.val (.ref a), .val .null, .val (.ref aT), .val .null, .val (.int lev), .val (.long bou), .second, .unset, .unset, .unset] [(.int (0 : Int32))]))
    refine own_st (fun t k => XS.istore X2.here hx rfl (hb hby d11_7) rfl (l' := #[.val (.ref a), .val .null, .val (.ref aT), .val .null, .val (.int lev), .val (.long bou), .second, .val (.int (0 : Int32)), .unset, .unset]) rfl k) ?_
    show own_Fin p.tables e below _ (T2.setTop (mkF m 9 #[.val (.ref a), .val .null, .val (.ref aT), .val .null, .val (.int lev), .val (.long bou), .second, .val (.int (0 : Int32)), .unset, .unset] []))
    refine own_st (fun t k => XS.aloadN X2.here hx rfl (hb hby d11_9) rfl rfl k) ?_
    show own_Fin p.tables e below _ (T2.setTop (mkF m 10 #[.val (.ref a), .val .null, .val (.ref aT), .val .null, .val (.int lev), .val (.long bou), .second, .val (.int (0 : Int32)), .unset, .unset] [(.ref a)]))
    obtain ⟨T3, X3, e3, st3⟩ := getF X2 hx hZ hown (host := "") (Or.inl (hw _ (List.mem_of_getElem? (i := 56) rfl))) Via.refl q2 F_d (g := (mkF m 10 #[.val (.ref a), .val .null, .val (.ref aT), .val .null, .val (.int lev), .val (.long bou), .second, .val (.int (0 : Int32)), .unset, .unset] [(.ref a)])) rfl rfl (hb hby d11_10)
    refine own_st st3 ?_
    show own_Fin p.tables e below _ (T3.setTop (mkF m 13 #[.val (.ref a), .val .null, .val (.ref aT), .val .null, .val (.int lev), .val (.long bou), .second, .val (.int (0 : Int32)), .unset, .unset] [(.int d)]))
    obtain ⟨_, _, ⟨T4, L4, k4, n4⟩, -, X4, ⟨Lc4, hQ4, l4, y4, z4⟩, st4⟩ := Jvm.LawKit.callS X3 hx (y := (⟨"com/example/chiffchaff/chiffchaff/OpenElements", "slot", "(I)I"⟩ : MethodName)) hown (mvT hZ (hw _ (List.mem_of_getElem? (i := 91) rfl))) (mvT hZ (hw _ (List.mem_of_getElem? (i := 92) rfl))) (mvT hZ (hw _ (List.mem_of_getElem? (i := 2) rfl))) (mvT hZ (hw _ (List.mem_of_getElem? (i := 93) rfl))) (by decide) (backOf (W := 0) (rm13 l Z a0 hw [] d h0 n0 Z0 hd) hZ (hw _ (List.mem_of_getElem? (i := 93) rfl)) (hw _ (List.mem_of_getElem? (i := 2) rfl)) (by decide) (by decide)) (g := (mkF m 13 #[.val (.ref a), .val .null, .val (.ref aT), .val .null, .val (.int lev), .val (.long bou), .second, .val (.int (0 : Int32)), .unset, .unset] [(.int d)])) rfl (by rw [hml]; rfl) (argsL := [(.int d)]) (rest := []) (lenOf pd__I_I rfl) rfl (by show 2 * 0 + _ ≤ _; exact Nat.le_of_eq rfl) (hb hby d11_13) (fun _ _ => ⟨rfl, e3, (by decide : 0 + 0 ≤ _), (by decide : 0 + 0 ≤ _)⟩)
    dsimp only [Pt.U, Pt.locs, Pt.cells, Pt.slots] at X4 l4 y4 z4 st4 hQ4
    subst l4 y4 z4
    obtain ⟨rfl, N4, q4⟩ := hQ4
    refine own_st (st4) ?_
    have N4a := Fr.app N2a N4
    show own_Fin p.tables e below _ (T4.setTop (mkF m 16 #[.val (.ref a), .val .null, .val (.ref aT), .val .null, .val (.int lev), .val (.long bou), .second, .val (.int (0 : Int32)), .unset, .unset] [(.int d)]))
    refine own_st (fun t k => XS.istore X4.here hx rfl (hb hby d11_16) rfl (l' := #[.val (.ref a), .val .null, .val (.ref aT), .val .null, .val (.int lev), .val (.long bou), .second, .val (.int (0 : Int32)), .val (.int d), .unset]) rfl k) ?_
    show own_Fin p.tables e below _ (T4.setTop (mkF m 18 #[.val (.ref a), .val .null, .val (.ref aT), .val .null, .val (.int lev), .val (.long bou), .second, .val (.int (0 : Int32)), .val (.int d), .unset] []))
    refine own_st (fun t k => XS.iload X4.here hx rfl (hb hby d11_18) rfl k) ?_
    show own_Fin p.tables e below _ (T4.setTop (mkF m 20 #[.val (.ref a), .val .null, .val (.ref aT), .val .null, .val (.int lev), .val (.long bou), .second, .val (.int (0 : Int32)), .val (.int d), .unset] [(.int (0 : Int32))]))
    refine own_st (fun t k => XS.aloadN X4.here hx rfl (hb hby d11_20) rfl rfl k) ?_
    show own_Fin p.tables e below _ (T4.setTop (mkF m 21 #[.val (.ref a), .val .null, .val (.ref aT), .val .null, .val (.int lev), .val (.long bou), .second, .val (.int (0 : Int32)), .val (.int d), .unset] [(.ref a), (.int (0 : Int32))]))
    obtain ⟨T5, X5, e5, st5⟩ := getF X4 hx hZ hown (host := "") (Or.inl (hw _ (List.mem_of_getElem? (i := 32) rfl))) Via.refl q4 F_bl (g := (mkF m 21 #[.val (.ref a), .val .null, .val (.ref aT), .val .null, .val (.int lev), .val (.long bou), .second, .val (.int (0 : Int32)), .val (.int d), .unset] [(.ref a), (.int (0 : Int32))])) rfl rfl (hb hby d11_21)
    refine own_st st5 ?_
    show own_Fin p.tables e below _ (T5.setTop (mkF m 24 #[.val (.ref a), .val .null, .val (.ref aT), .val .null, .val (.int lev), .val (.long bou), .second, .val (.int (0 : Int32)), .val (.int d), .unset] [(.ref bl), (.int (0 : Int32))]))
    refine own_st (fun t k => own_alen X5 hx hZ e5 V_bl (g := (mkF m 24 #[.val (.ref a), .val .null, .val (.ref aT), .val .null, .val (.int lev), .val (.long bou), .second, .val (.int (0 : Int32)), .val (.int d), .unset] [(.ref bl), (.int (0 : Int32))])) rfl rfl (hb hby d11_24) t k) ?_
    show own_Fin p.tables e below _ (T5.setTop (mkF m 25 #[.val (.ref a), .val .null, .val (.ref aT), .val .null, .val (.int lev), .val (.long bou), .second, .val (.int (0 : Int32)), .val (.int d), .unset] [(.int (1 : Int32)), (.int (0 : Int32))]))
    refine own_st (fun t k => XS.icmpYes X5.here hx rfl (pc0 := 25) (pc' := 46) rfl (hb hby d11_25) rfl (XT.ii_ne_t (by decide)) (by decide) (by decide) k) ?_
    show own_Fin p.tables e below _ (T5.setTop (mkF m 46 #[.val (.ref a), .val .null, .val (.ref aT), .val .null, .val (.int lev), .val (.long bou), .second, .val (.int (0 : Int32)), .val (.int d), .unset] []))
    refine own_st (fun t k => XS.aloadN X5.here hx rfl (hb hby d11_46) rfl rfl k) ?_
    show own_Fin p.tables e below _ (T5.setTop (mkF m 47 #[.val (.ref a), .val .null, .val (.ref aT), .val .null, .val (.int lev), .val (.long bou), .second, .val (.int (0 : Int32)), .val (.int d), .unset] [(.ref a)]))
    obtain ⟨T6, X6, e6, st6⟩ := getF X5 hx hZ hown (host := "") (Or.inl (hw _ (List.mem_of_getElem? (i := 32) rfl))) Via.refl e5 F_bl (g := (mkF m 47 #[.val (.ref a), .val .null, .val (.ref aT), .val .null, .val (.int lev), .val (.long bou), .second, .val (.int (0 : Int32)), .val (.int d), .unset] [(.ref a)])) rfl rfl (hb hby d11_47)
    refine own_st st6 ?_
    show own_Fin p.tables e below _ (T6.setTop (mkF m 50 #[.val (.ref a), .val .null, .val (.ref aT), .val .null, .val (.int lev), .val (.long bou), .second, .val (.int (0 : Int32)), .val (.int d), .unset] [(.ref bl)]))
    refine own_st (fun t k => XS.iload X6.here hx rfl (hb hby d11_50) rfl k) ?_
    show own_Fin p.tables e below _ (T6.setTop (mkF m 52 #[.val (.ref a), .val .null, .val (.ref aT), .val .null, .val (.int lev), .val (.long bou), .second, .val (.int (0 : Int32)), .val (.int d), .unset] [(.int (0 : Int32)), (.ref bl)]))
    refine own_st (fun t k => own_aald X6 hx hZ e6 V_bl rfl (j := (0 : Int32)) ⟨by decide, by decide⟩ (v := (.ref b)) rfl (g := (mkF m 52 #[.val (.ref a), .val .null, .val (.ref aT), .val .null, .val (.int lev), .val (.long bou), .second, .val (.int (0 : Int32)), .val (.int d), .unset] [(.int (0 : Int32)), (.ref bl)])) rfl rfl (hb hby d11_52) t k) ?_
    show own_Fin p.tables e below _ (T6.setTop (mkF m 53 #[.val (.ref a), .val .null, .val (.ref aT), .val .null, .val (.int lev), .val (.long bou), .second, .val (.int (0 : Int32)), .val (.int d), .unset] [(.ref b)]))
    refine own_st (fun t k => XS.ifnonnullYes X6.here hx rfl (pc0 := 53) (pc' := 76) rfl (hb hby d11_53) rfl (by decide) (by decide) k) ?_
    show own_Fin p.tables e below _ (T6.setTop (mkF m 76 #[.val (.ref a), .val .null, .val (.ref aT), .val .null, .val (.int lev), .val (.long bou), .second, .val (.int (0 : Int32)), .val (.int d), .unset] []))
    refine own_st (fun t k => XS.iload X6.here hx rfl (hb hby d11_76) rfl k) ?_
    show own_Fin p.tables e below _ (T6.setTop (mkF m 78 #[.val (.ref a), .val .null, .val (.ref aT), .val .null, .val (.int lev), .val (.long bou), .second, .val (.int (0 : Int32)), .val (.int d), .unset] [(.int d)]))
    refine own_st (fun t k => XS.aloadN X6.here hx rfl (hb hby d11_78) rfl rfl k) ?_
    show own_Fin p.tables e below _ (T6.setTop (mkF m 79 #[.val (.ref a), .val .null, .val (.ref aT), .val .null, .val (.int lev), .val (.long bou), .second, .val (.int (0 : Int32)), .val (.int d), .unset] [(.ref a), (.int d)]))
    obtain ⟨T7, X7, e7, st7⟩ := getF X6 hx hZ hown (host := "") (Or.inl (hw _ (List.mem_of_getElem? (i := 32) rfl))) Via.refl e6 F_bl (g := (mkF m 79 #[.val (.ref a), .val .null, .val (.ref aT), .val .null, .val (.int lev), .val (.long bou), .second, .val (.int (0 : Int32)), .val (.int d), .unset] [(.ref a), (.int d)])) rfl rfl (hb hby d11_79)
    refine own_st st7 ?_
    show own_Fin p.tables e below _ (T7.setTop (mkF m 82 #[.val (.ref a), .val .null, .val (.ref aT), .val .null, .val (.int lev), .val (.long bou), .second, .val (.int (0 : Int32)), .val (.int d), .unset] [(.ref bl), (.int d)]))
    refine own_st (fun t k => XS.iload X7.here hx rfl (hb hby d11_82) rfl k) ?_
    show own_Fin p.tables e below _ (T7.setTop (mkF m 84 #[.val (.ref a), .val .null, .val (.ref aT), .val .null, .val (.int lev), .val (.long bou), .second, .val (.int (0 : Int32)), .val (.int d), .unset] [(.int (0 : Int32)), (.ref bl), (.int d)]))
    refine own_st (fun t k => own_aald X7 hx hZ e7 V_bl rfl (j := (0 : Int32)) ⟨by decide, by decide⟩ (v := (.ref b)) rfl (g := (mkF m 84 #[.val (.ref a), .val .null, .val (.ref aT), .val .null, .val (.int lev), .val (.long bou), .second, .val (.int (0 : Int32)), .val (.int d), .unset] [(.int (0 : Int32)), (.ref bl), (.int d)])) rfl rfl (hb hby d11_84) t k) ?_
    show own_Fin p.tables e below _ (T7.setTop (mkF m 85 #[.val (.ref a), .val .null, .val (.ref aT), .val .null, .val (.int lev), .val (.long bou), .second, .val (.int (0 : Int32)), .val (.int d), .unset] [(.ref b), (.int d)]))
    refine own_st (fun t k => own_getR X7 hx hZ hown (hw _ (List.mem_of_getElem? (i := 43) rfl)) e7 F_nm (g := (mkF m 85 #[.val (.ref a), .val .null, .val (.ref aT), .val .null, .val (.int lev), .val (.long bou), .second, .val (.int (0 : Int32)), .val (.int d), .unset] [(.ref b), (.int d)])) rfl rfl (hb hby d11_85) t k) ?_
    show own_Fin p.tables e below _ (T7.setTop (mkF m 88 #[.val (.ref a), .val .null, .val (.ref aT), .val .null, .val (.int lev), .val (.long bou), .second, .val (.int (0 : Int32)), .val (.int d), .unset] [(.ref nm), (.int d)]))
    refine own_st (fun t k => own_len1 X7 hx hZ e7 (own_O.A O_nm) (g := (mkF m 88 #[.val (.ref a), .val .null, .val (.ref aT), .val .null, .val (.int lev), .val (.long bou), .second, .val (.int (0 : Int32)), .val (.int d), .unset] [(.ref nm), (.int d)])) rfl rfl (hb hby d11_88) t k) ?_
    show own_Fin p.tables e below _ (T7.setTop (mkF m 89 #[.val (.ref a), .val .null, .val (.ref aT), .val .null, .val (.int lev), .val (.long bou), .second, .val (.int (0 : Int32)), .val (.int d), .unset] [(.int (16 : Int32)), (.int d)]))
    refine own_st (fun t k => XS.icmpYes X7.here hx rfl (pc0 := 89) (pc' := 117) rfl (hb hby d11_89) rfl (XT.ii_ne_t (own_16 hd)) (by decide) (by decide) k) ?_
    show own_Fin p.tables e below _ (T7.setTop (mkF m 117 #[.val (.ref a), .val .null, .val (.ref aT), .val .null, .val (.int lev), .val (.long bou), .second, .val (.int (0 : Int32)), .val (.int d), .unset] []))
    refine own_st (fun t k => XS.aloadN X7.here hx rfl (hb hby d11_117) rfl rfl k) ?_
    show own_Fin p.tables e below _ (T7.setTop (mkF m 118 #[.val (.ref a), .val .null, .val (.ref aT), .val .null, .val (.int lev), .val (.long bou), .second, .val (.int (0 : Int32)), .val (.int d), .unset] [(.ref a)]))
    obtain ⟨T8, X8, e8, st8⟩ := getF X7 hx hZ hown (host := "") (Or.inl (hw _ (List.mem_of_getElem? (i := 32) rfl))) Via.refl e7 F_bl (g := (mkF m 118 #[.val (.ref a), .val .null, .val (.ref aT), .val .null, .val (.int lev), .val (.long bou), .second, .val (.int (0 : Int32)), .val (.int d), .unset] [(.ref a)])) rfl rfl (hb hby d11_118)
    refine own_st st8 ?_
    show own_Fin p.tables e below _ (T8.setTop (mkF m 121 #[.val (.ref a), .val .null, .val (.ref aT), .val .null, .val (.int lev), .val (.long bou), .second, .val (.int (0 : Int32)), .val (.int d), .unset] [(.ref bl)]))
    refine own_st (fun t k => XS.iload X8.here hx rfl (hb hby d11_121) rfl k) ?_
    show own_Fin p.tables e below _ (T8.setTop (mkF m 123 #[.val (.ref a), .val .null, .val (.ref aT), .val .null, .val (.int lev), .val (.long bou), .second, .val (.int (0 : Int32)), .val (.int d), .unset] [(.int (0 : Int32)), (.ref bl)]))
    refine own_st (fun t k => own_aald X8 hx hZ e8 V_bl rfl (j := (0 : Int32)) ⟨by decide, by decide⟩ (v := (.ref b)) rfl (g := (mkF m 123 #[.val (.ref a), .val .null, .val (.ref aT), .val .null, .val (.int lev), .val (.long bou), .second, .val (.int (0 : Int32)), .val (.int d), .unset] [(.int (0 : Int32)), (.ref bl)])) rfl rfl (hb hby d11_123) t k) ?_
    show own_Fin p.tables e below _ (T8.setTop (mkF m 124 #[.val (.ref a), .val .null, .val (.ref aT), .val .null, .val (.int lev), .val (.long bou), .second, .val (.int (0 : Int32)), .val (.int d), .unset] [(.ref b)]))
    refine own_st (fun t k => XS.astore X8.here hx rfl (hb hby d11_124) rfl rfl (l' := #[.val (.ref a), .val .null, .val (.ref aT), .val .null, .val (.int lev), .val (.long bou), .second, .val (.int (0 : Int32)), .val (.int d), .val (.ref b)]) rfl k) ?_
    show own_Fin p.tables e below _ (T8.setTop (mkF m 126 #[.val (.ref a), .val .null, .val (.ref aT), .val .null, .val (.int lev), .val (.long bou), .second, .val (.int (0 : Int32)), .val (.int d), .val (.ref b)] []))
    refine own_st (fun t k => XS.aload X8.here hx rfl (hb hby d11_126) rfl rfl k) ?_
    show own_Fin p.tables e below _ (T8.setTop (mkF m 128 #[.val (.ref a), .val .null, .val (.ref aT), .val .null, .val (.int lev), .val (.long bou), .second, .val (.int (0 : Int32)), .val (.int d), .val (.ref b)] [(.ref b)]))
    refine own_st (fun t k => own_getR X8 hx hZ hown (hw _ (List.mem_of_getElem? (i := 43) rfl)) e8 F_nm (g := (mkF m 128 #[.val (.ref a), .val .null, .val (.ref aT), .val .null, .val (.int lev), .val (.long bou), .second, .val (.int (0 : Int32)), .val (.int d), .val (.ref b)] [(.ref b)])) rfl rfl (hb hby d11_128) t k) ?_
    show own_Fin p.tables e below _ (T8.setTop (mkF m 131 #[.val (.ref a), .val .null, .val (.ref aT), .val .null, .val (.int lev), .val (.long bou), .second, .val (.int (0 : Int32)), .val (.int d), .val (.ref b)] [(.ref nm)]))
    refine own_st (fun t k => XS.iload X8.here hx rfl (hb hby d11_131) rfl k) ?_
    show own_Fin p.tables e below _ (T8.setTop (mkF m 133 #[.val (.ref a), .val .null, .val (.ref aT), .val .null, .val (.int lev), .val (.long bou), .second, .val (.int (0 : Int32)), .val (.int d), .val (.ref b)] [(.int d), (.ref nm)]))
    refine own_st (fun t k => XS.aloadN X8.here hx rfl (hb hby d11_133) rfl rfl k) ?_
    show own_Fin p.tables e below _ (T8.setTop (mkF m 134 #[.val (.ref a), .val .null, .val (.ref aT), .val .null, .val (.int lev), .val (.long bou), .second, .val (.int (0 : Int32)), .val (.int d), .val (.ref b)] [.null, (.int d), (.ref nm)]))
    obtain ⟨T9, h9, X9, e9, W9, st9⟩ := own_stR X8 hx hZ e8 O_nm (j := d) (own_in3 hd) (Or.inl rfl) (g := (mkF m 134 #[.val (.ref a), .val .null, .val (.ref aT), .val .null, .val (.int lev), .val (.long bou), .second, .val (.int (0 : Int32)), .val (.int d), .val (.ref b)] [.null, (.int d), (.ref nm)])) rfl rfl (hb hby d11_134)
    refine own_st st9 ?_
    have O0'9 := O0.wr W9 g_nm
    have E_T'9 := E_T.wr W9
    have E_a'9 := E_a.wr W9
    have E_b'9 := E_b.wr W9
    have F_bl'9 := F_bl.other W9 (Or.inl (own_neEA E_a (hw _ (List.mem_of_getElem? (i := 1) rfl)) (own_O.A O_nm)))
    have F_top'9 := F_top.other W9 (Or.inl (own_neEA E_a (hw _ (List.mem_of_getElem? (i := 1) rfl)) (own_O.A O_nm)))
    have F_at'9 := F_at.other W9 (Or.inl (own_neEA E_a (hw _ (List.mem_of_getElem? (i := 1) rfl)) (own_O.A O_nm)))
    have F_d'9 := F_d.other W9 (Or.inl (own_neEA E_a (hw _ (List.mem_of_getElem? (i := 1) rfl)) (own_O.A O_nm)))
    have V_bl'9 := V_bl.other W9 (own_neAA (own_Arv V_bl) (own_O.A O_nm) (by decide))
    have F_nm'9 := F_nm.other W9 (Or.inl (own_neEA E_b (hw _ (List.mem_of_getElem? (i := 11) rfl)) (own_O.A O_nm)))
    have F_ur'9 := F_ur.other W9 (Or.inl (own_neEA E_b (hw _ (List.mem_of_getElem? (i := 11) rfl)) (own_O.A O_nm)))
    have F_lv'9 := F_lv.other W9 (Or.inl (own_neEA E_b (hw _ (List.mem_of_getElem? (i := 11) rfl)) (own_O.A O_nm)))
    have F_bd'9 := F_bd.other W9 (Or.inl (own_neEA E_b (hw _ (List.mem_of_getElem? (i := 11) rfl)) (own_O.A O_nm)))
    have F_ty'9 := F_ty.other W9 (Or.inl (own_neEA E_b (hw _ (List.mem_of_getElem? (i := 11) rfl)) (own_O.A O_nm)))
    have F_st'9 := F_st.other W9 (Or.inl (own_neEA E_b (hw _ (List.mem_of_getElem? (i := 11) rfl)) (own_O.A O_nm)))
    have O_nm'9 := O_nm.wr W9
    have O_ur'9 := O_ur.wr W9
    have A_lv'9 := A_lv.wr W9
    have A_bd'9 := A_bd.wr W9
    have N9 := Fr.snoc X9 N4a g_nm
    have Z9 : n0 ≤ h9.size := by rw [W9.size]; exact Z0
    show own_Fin p.tables e below _ (T9.setTop (mkF m 135 #[.val (.ref a), .val .null, .val (.ref aT), .val .null, .val (.int lev), .val (.long bou), .second, .val (.int (0 : Int32)), .val (.int d), .val (.ref b)] []))
    refine own_st (fun t k => XS.aloadN X9.here hx rfl (hb hby d11_135) rfl rfl k) ?_
    show own_Fin p.tables e below _ (T9.setTop (mkF m 136 #[.val (.ref a), .val .null, .val (.ref aT), .val .null, .val (.int lev), .val (.long bou), .second, .val (.int (0 : Int32)), .val (.int d), .val (.ref b)] [(.ref aT)]))
    obtain ⟨T10, X10, e10, st10⟩ := getS (host := "") X9 hx hZ hown (hw _ (List.mem_of_getElem? (i := 94) rfl)) Via.refl e9 (Sta.ext O0'9.2 S_U) (g := (mkF m 136 #[.val (.ref a), .val .null, .val (.ref aT), .val .null, .val (.int lev), .val (.long bou), .second, .val (.int (0 : Int32)), .val (.int d), .val (.ref b)] [(.ref aT)])) rfl (hb hby d11_136)
    refine own_st st10 ?_
    show own_Fin p.tables e below _ (T10.setTop (mkF m 139 #[.val (.ref a), .val .null, .val (.ref aT), .val .null, .val (.int lev), .val (.long bou), .second, .val (.int (0 : Int32)), .val (.int d), .val (.ref b)] [(.ref aU), (.ref aT)]))
    rcases Decidable.em (((.ref aT) : Value) = (.ref aU)) with cu | cu
    · have _ := cu
      refine own_st (fun t k => XT.acmpYes X10.here hx rfl (pc0 := 139) (pc' := 151) rfl (hb hby d11_139) rfl rfl rfl (XT.aa_eq_t cu) (by decide) (by decide) k) ?_
      show own_Fin p.tables e below _ (T10.setTop (mkF m 151 #[.val (.ref a), .val .null, .val (.ref aT), .val .null, .val (.int lev), .val (.long bou), .second, .val (.int (0 : Int32)), .val (.int d), .val (.ref b)] []))
      refine own_st (fun t k => XS.aload X10.here hx rfl (hb hby d11_151) rfl rfl k) ?_
      show own_Fin p.tables e below _ (T10.setTop (mkF m 153 #[.val (.ref a), .val .null, .val (.ref aT), .val .null, .val (.int lev), .val (.long bou), .second, .val (.int (0 : Int32)), .val (.int d), .val (.ref b)] [(.ref b)]))
      refine own_st (fun t k => own_getR X10 hx hZ hown (hw _ (List.mem_of_getElem? (i := 102) rfl)) e10 F_ur'9 (g := (mkF m 153 #[.val (.ref a), .val .null, .val (.ref aT), .val .null, .val (.int lev), .val (.long bou), .second, .val (.int (0 : Int32)), .val (.int d), .val (.ref b)] [(.ref b)])) rfl rfl (hb hby d11_153) t k) ?_
      show own_Fin p.tables e below _ (T10.setTop (mkF m 156 #[.val (.ref a), .val .null, .val (.ref aT), .val .null, .val (.int lev), .val (.long bou), .second, .val (.int (0 : Int32)), .val (.int d), .val (.ref b)] [(.ref ur)]))
      refine own_st (fun t k => XS.iload X10.here hx rfl (hb hby d11_156) rfl k) ?_
      show own_Fin p.tables e below _ (T10.setTop (mkF m 158 #[.val (.ref a), .val .null, .val (.ref aT), .val .null, .val (.int lev), .val (.long bou), .second, .val (.int (0 : Int32)), .val (.int d), .val (.ref b)] [(.int d), (.ref ur)]))
      refine own_st (fun t k => XS.aloadN X10.here hx rfl (hb hby d11_158) rfl rfl k) ?_
      show own_Fin p.tables e below _ (T10.setTop (mkF m 159 #[.val (.ref a), .val .null, .val (.ref aT), .val .null, .val (.int lev), .val (.long bou), .second, .val (.int (0 : Int32)), .val (.int d), .val (.ref b)] [.null, (.int d), (.ref ur)]))
      obtain ⟨T11, h11, X11, e11, W11, st11⟩ := own_stR X10 hx hZ e10 O_ur'9 (j := d) (own_in3 hd) (Or.inl rfl) (g := (mkF m 159 #[.val (.ref a), .val .null, .val (.ref aT), .val .null, .val (.int lev), .val (.long bou), .second, .val (.int (0 : Int32)), .val (.int d), .val (.ref b)] [.null, (.int d), (.ref ur)])) rfl rfl (hb hby d11_159)
      refine own_st st11 ?_
      have O0'11 := O0'9.wr W11 g_ur
      have E_T'11 := E_T'9.wr W11
      have E_a'11 := E_a'9.wr W11
      have E_b'11 := E_b'9.wr W11
      have F_bl'11 := F_bl'9.other W11 (Or.inl (own_neEA E_a'9 (hw _ (List.mem_of_getElem? (i := 1) rfl)) (own_O.A O_ur'9)))
      have F_top'11 := F_top'9.other W11 (Or.inl (own_neEA E_a'9 (hw _ (List.mem_of_getElem? (i := 1) rfl)) (own_O.A O_ur'9)))
      have F_at'11 := F_at'9.other W11 (Or.inl (own_neEA E_a'9 (hw _ (List.mem_of_getElem? (i := 1) rfl)) (own_O.A O_ur'9)))
      have F_d'11 := F_d'9.other W11 (Or.inl (own_neEA E_a'9 (hw _ (List.mem_of_getElem? (i := 1) rfl)) (own_O.A O_ur'9)))
      have V_bl'11 := V_bl'9.other W11 (own_neAA (own_Arv V_bl'9) (own_O.A O_ur'9) (by decide))
      have F_nm'11 := F_nm'9.other W11 (Or.inl (own_neEA E_b'9 (hw _ (List.mem_of_getElem? (i := 11) rfl)) (own_O.A O_ur'9)))
      have F_ur'11 := F_ur'9.other W11 (Or.inl (own_neEA E_b'9 (hw _ (List.mem_of_getElem? (i := 11) rfl)) (own_O.A O_ur'9)))
      have F_lv'11 := F_lv'9.other W11 (Or.inl (own_neEA E_b'9 (hw _ (List.mem_of_getElem? (i := 11) rfl)) (own_O.A O_ur'9)))
      have F_bd'11 := F_bd'9.other W11 (Or.inl (own_neEA E_b'9 (hw _ (List.mem_of_getElem? (i := 11) rfl)) (own_O.A O_ur'9)))
      have F_ty'11 := F_ty'9.other W11 (Or.inl (own_neEA E_b'9 (hw _ (List.mem_of_getElem? (i := 11) rfl)) (own_O.A O_ur'9)))
      have F_st'11 := F_st'9.other W11 (Or.inl (own_neEA E_b'9 (hw _ (List.mem_of_getElem? (i := 11) rfl)) (own_O.A O_ur'9)))
      have O_nm'11 := O_nm'9.wr W11
      have O_ur'11 := O_ur'9.wr W11
      have A_lv'11 := A_lv'9.wr W11
      have A_bd'11 := A_bd'9.wr W11
      have N11 := Fr.snoc X11 N9 g_ur
      have Z11 : n0 ≤ h11.size := by rw [W11.size]; exact Z9
      show own_Fin p.tables e below _ (T11.setTop (mkF m 160 #[.val (.ref a), .val .null, .val (.ref aT), .val .null, .val (.int lev), .val (.long bou), .second, .val (.int (0 : Int32)), .val (.int d), .val (.ref b)] []))
      refine own_st (fun t k => XS.aload X11.here hx rfl (hb hby d11_160) rfl rfl k) ?_
      show own_Fin p.tables e below _ (T11.setTop (mkF m 162 #[.val (.ref a), .val .null, .val (.ref aT), .val .null, .val (.int lev), .val (.long bou), .second, .val (.int (0 : Int32)), .val (.int d), .val (.ref b)] [(.ref b)]))
      refine own_st (fun t k => own_getR X11 hx hZ hown (hw _ (List.mem_of_getElem? (i := 103) rfl)) e11 F_lv'11 (g := (mkF m 162 #[.val (.ref a), .val .null, .val (.ref aT), .val .null, .val (.int lev), .val (.long bou), .second, .val (.int (0 : Int32)), .val (.int d), .val (.ref b)] [(.ref b)])) rfl rfl (hb hby d11_162) t k) ?_
      show own_Fin p.tables e below _ (T11.setTop (mkF m 165 #[.val (.ref a), .val .null, .val (.ref aT), .val .null, .val (.int lev), .val (.long bou), .second, .val (.int (0 : Int32)), .val (.int d), .val (.ref b)] [(.ref lv)]))
      refine own_st (fun t k => XS.iload X11.here hx rfl (hb hby d11_165) rfl k) ?_
      show own_Fin p.tables e below _ (T11.setTop (mkF m 167 #[.val (.ref a), .val .null, .val (.ref aT), .val .null, .val (.int lev), .val (.long bou), .second, .val (.int (0 : Int32)), .val (.int d), .val (.ref b)] [(.int d), (.ref lv)]))
      refine own_st (fun t k => XS.iload X11.here hx rfl (hb hby d11_167) rfl k) ?_
      show own_Fin p.tables e below _ (T11.setTop (mkF m 169 #[.val (.ref a), .val .null, .val (.ref aT), .val .null, .val (.int lev), .val (.long bou), .second, .val (.int (0 : Int32)), .val (.int d), .val (.ref b)] [(.int lev), (.int d), (.ref lv)]))
      obtain ⟨T12, h12, X12, e12, W12, st12⟩ := own_stI X11 hx hZ e11 A_lv'11 (j := d) (own_in3 hd) (g := (mkF m 169 #[.val (.ref a), .val .null, .val (.ref aT), .val .null, .val (.int lev), .val (.long bou), .second, .val (.int (0 : Int32)), .val (.int d), .val (.ref b)] [(.int lev), (.int d), (.ref lv)])) rfl rfl (hb hby d11_169)
      refine own_st st12 ?_
      have O0'12 := O0'11.wr W12 g_lv
      have E_T'12 := E_T'11.wr W12
      have E_a'12 := E_a'11.wr W12
      have E_b'12 := E_b'11.wr W12
      have F_bl'12 := F_bl'11.other W12 (Or.inl (own_neEA E_a'11 (hw _ (List.mem_of_getElem? (i := 1) rfl)) A_lv'11))
      have F_top'12 := F_top'11.other W12 (Or.inl (own_neEA E_a'11 (hw _ (List.mem_of_getElem? (i := 1) rfl)) A_lv'11))
      have F_at'12 := F_at'11.other W12 (Or.inl (own_neEA E_a'11 (hw _ (List.mem_of_getElem? (i := 1) rfl)) A_lv'11))
      have F_d'12 := F_d'11.other W12 (Or.inl (own_neEA E_a'11 (hw _ (List.mem_of_getElem? (i := 1) rfl)) A_lv'11))
      have V_bl'12 := V_bl'11.other W12 (own_neAA (own_Arv V_bl'11) A_lv'11 (by decide))
      have F_nm'12 := F_nm'11.other W12 (Or.inl (own_neEA E_b'11 (hw _ (List.mem_of_getElem? (i := 11) rfl)) A_lv'11))
      have F_ur'12 := F_ur'11.other W12 (Or.inl (own_neEA E_b'11 (hw _ (List.mem_of_getElem? (i := 11) rfl)) A_lv'11))
      have F_lv'12 := F_lv'11.other W12 (Or.inl (own_neEA E_b'11 (hw _ (List.mem_of_getElem? (i := 11) rfl)) A_lv'11))
      have F_bd'12 := F_bd'11.other W12 (Or.inl (own_neEA E_b'11 (hw _ (List.mem_of_getElem? (i := 11) rfl)) A_lv'11))
      have F_ty'12 := F_ty'11.other W12 (Or.inl (own_neEA E_b'11 (hw _ (List.mem_of_getElem? (i := 11) rfl)) A_lv'11))
      have F_st'12 := F_st'11.other W12 (Or.inl (own_neEA E_b'11 (hw _ (List.mem_of_getElem? (i := 11) rfl)) A_lv'11))
      have O_nm'12 := O_nm'11.wr W12
      have O_ur'12 := O_ur'11.wr W12
      have A_lv'12 := A_lv'11.wr W12
      have A_bd'12 := A_bd'11.wr W12
      have N12 := Fr.snoc X12 N11 g_lv
      have Z12 : n0 ≤ h12.size := by rw [W12.size]; exact Z11
      show own_Fin p.tables e below _ (T12.setTop (mkF m 170 #[.val (.ref a), .val .null, .val (.ref aT), .val .null, .val (.int lev), .val (.long bou), .second, .val (.int (0 : Int32)), .val (.int d), .val (.ref b)] []))
      refine own_st (fun t k => XS.aload X12.here hx rfl (hb hby d11_170) rfl rfl k) ?_
      show own_Fin p.tables e below _ (T12.setTop (mkF m 172 #[.val (.ref a), .val .null, .val (.ref aT), .val .null, .val (.int lev), .val (.long bou), .second, .val (.int (0 : Int32)), .val (.int d), .val (.ref b)] [(.ref b)]))
      refine own_st (fun t k => own_getR X12 hx hZ hown (hw _ (List.mem_of_getElem? (i := 104) rfl)) e12 F_bd'12 (g := (mkF m 172 #[.val (.ref a), .val .null, .val (.ref aT), .val .null, .val (.int lev), .val (.long bou), .second, .val (.int (0 : Int32)), .val (.int d), .val (.ref b)] [(.ref b)])) rfl rfl (hb hby d11_172) t k) ?_
      show own_Fin p.tables e below _ (T12.setTop (mkF m 175 #[.val (.ref a), .val .null, .val (.ref aT), .val .null, .val (.int lev), .val (.long bou), .second, .val (.int (0 : Int32)), .val (.int d), .val (.ref b)] [(.ref bd)]))
      refine own_st (fun t k => XS.iload X12.here hx rfl (hb hby d11_175) rfl k) ?_
      show own_Fin p.tables e below _ (T12.setTop (mkF m 177 #[.val (.ref a), .val .null, .val (.ref aT), .val .null, .val (.int lev), .val (.long bou), .second, .val (.int (0 : Int32)), .val (.int d), .val (.ref b)] [(.int d), (.ref bd)]))
      refine own_st (fun t k => XS.lload X12.here hx rfl (hb hby d11_177) rfl k) ?_
      show own_Fin p.tables e below _ (T12.setTop (mkF m 179 #[.val (.ref a), .val .null, .val (.ref aT), .val .null, .val (.int lev), .val (.long bou), .second, .val (.int (0 : Int32)), .val (.int d), .val (.ref b)] [(.long bou), (.int d), (.ref bd)]))
      obtain ⟨T13, h13, X13, e13, W13, st13⟩ := own_stJ X12 hx hZ e12 A_bd'12 (j := d) (own_in3 hd) (g := (mkF m 179 #[.val (.ref a), .val .null, .val (.ref aT), .val .null, .val (.int lev), .val (.long bou), .second, .val (.int (0 : Int32)), .val (.int d), .val (.ref b)] [(.long bou), (.int d), (.ref bd)])) rfl rfl (hb hby d11_179)
      refine own_st st13 ?_
      have O0'13 := O0'12.wr W13 g_bd
      have E_T'13 := E_T'12.wr W13
      have E_a'13 := E_a'12.wr W13
      have E_b'13 := E_b'12.wr W13
      have F_bl'13 := F_bl'12.other W13 (Or.inl (own_neEA E_a'12 (hw _ (List.mem_of_getElem? (i := 1) rfl)) A_bd'12))
      have F_top'13 := F_top'12.other W13 (Or.inl (own_neEA E_a'12 (hw _ (List.mem_of_getElem? (i := 1) rfl)) A_bd'12))
      have F_at'13 := F_at'12.other W13 (Or.inl (own_neEA E_a'12 (hw _ (List.mem_of_getElem? (i := 1) rfl)) A_bd'12))
      have F_d'13 := F_d'12.other W13 (Or.inl (own_neEA E_a'12 (hw _ (List.mem_of_getElem? (i := 1) rfl)) A_bd'12))
      have V_bl'13 := V_bl'12.other W13 (own_neAA (own_Arv V_bl'12) A_bd'12 (by decide))
      have F_nm'13 := F_nm'12.other W13 (Or.inl (own_neEA E_b'12 (hw _ (List.mem_of_getElem? (i := 11) rfl)) A_bd'12))
      have F_ur'13 := F_ur'12.other W13 (Or.inl (own_neEA E_b'12 (hw _ (List.mem_of_getElem? (i := 11) rfl)) A_bd'12))
      have F_lv'13 := F_lv'12.other W13 (Or.inl (own_neEA E_b'12 (hw _ (List.mem_of_getElem? (i := 11) rfl)) A_bd'12))
      have F_bd'13 := F_bd'12.other W13 (Or.inl (own_neEA E_b'12 (hw _ (List.mem_of_getElem? (i := 11) rfl)) A_bd'12))
      have F_ty'13 := F_ty'12.other W13 (Or.inl (own_neEA E_b'12 (hw _ (List.mem_of_getElem? (i := 11) rfl)) A_bd'12))
      have F_st'13 := F_st'12.other W13 (Or.inl (own_neEA E_b'12 (hw _ (List.mem_of_getElem? (i := 11) rfl)) A_bd'12))
      have O_nm'13 := O_nm'12.wr W13
      have O_ur'13 := O_ur'12.wr W13
      have A_lv'13 := A_lv'12.wr W13
      have A_bd'13 := A_bd'12.wr W13
      have N13 := Fr.snoc X13 N12 g_bd
      have Z13 : n0 ≤ h13.size := by rw [W13.size]; exact Z12
      show own_Fin p.tables e below _ (T13.setTop (mkF m 180 #[.val (.ref a), .val .null, .val (.ref aT), .val .null, .val (.int lev), .val (.long bou), .second, .val (.int (0 : Int32)), .val (.int d), .val (.ref b)] []))
      refine own_st (fun t k => XS.aloadN X13.here hx rfl (hb hby d11_180) rfl rfl k) ?_
      show own_Fin p.tables e below _ (T13.setTop (mkF m 181 #[.val (.ref a), .val .null, .val (.ref aT), .val .null, .val (.int lev), .val (.long bou), .second, .val (.int (0 : Int32)), .val (.int d), .val (.ref b)] [(.ref a)]))
      obtain ⟨T14, X14, e14, st14⟩ := getF X13 hx hZ hown (host := "") (Or.inl (hw _ (List.mem_of_getElem? (i := 34) rfl))) Via.refl e13 F_top'13 (g := (mkF m 181 #[.val (.ref a), .val .null, .val (.ref aT), .val .null, .val (.int lev), .val (.long bou), .second, .val (.int (0 : Int32)), .val (.int d), .val (.ref b)] [(.ref a)])) rfl rfl (hb hby d11_181)
      refine own_st st14 ?_
      show own_Fin p.tables e below _ (T14.setTop (mkF m 184 #[.val (.ref a), .val .null, .val (.ref aT), .val .null, .val (.int lev), .val (.long bou), .second, .val (.int (0 : Int32)), .val (.int d), .val (.ref b)] [(.ref b)]))
      refine own_st (fun t k => XS.aload X14.here hx rfl (hb hby d11_184) rfl rfl k) ?_
      show own_Fin p.tables e below _ (T14.setTop (mkF m 186 #[.val (.ref a), .val .null, .val (.ref aT), .val .null, .val (.int lev), .val (.long bou), .second, .val (.int (0 : Int32)), .val (.int d), .val (.ref b)] [(.ref b), (.ref b)]))
      refine own_st (fun t k => XT.acmpYes X14.here hx rfl (pc0 := 186) (pc' := 195) rfl (hb hby d11_186) rfl rfl rfl (XT.aa_eq_t rfl) (by decide) (by decide) k) ?_
      show own_Fin p.tables e below _ (T14.setTop (mkF m 195 #[.val (.ref a), .val .null, .val (.ref aT), .val .null, .val (.int lev), .val (.long bou), .second, .val (.int (0 : Int32)), .val (.int d), .val (.ref b)] []))
      refine own_st (fun t k => XS.aloadN X14.here hx rfl (hb hby d11_195) rfl rfl k) ?_
      show own_Fin p.tables e below _ (T14.setTop (mkF m 196 #[.val (.ref a), .val .null, .val (.ref aT), .val .null, .val (.int lev), .val (.long bou), .second, .val (.int (0 : Int32)), .val (.int d), .val (.ref b)] [(.ref a)]))
      refine own_st (fun t k => XS.iload X14.here hx rfl (hb hby d11_196) rfl k) ?_
      show own_Fin p.tables e below _ (T14.setTop (mkF m 198 #[.val (.ref a), .val .null, .val (.ref aT), .val .null, .val (.int lev), .val (.long bou), .second, .val (.int (0 : Int32)), .val (.int d), .val (.ref b)] [(.int d), (.ref a)]))
      obtain ⟨T15, h15, X15, e15, W15, st15⟩ := putF X14 hx hZ hown (host := "") (Or.inl (hw _ (List.mem_of_getElem? (i := 36) rfl))) Via.refl e14 F_at'13 E_a'13 (Or.inl (hw _ (List.mem_of_getElem? (i := 37) rfl))) (hw _ (List.mem_of_getElem? (i := 1) rfl)) (ty := .int) (by decide) rfl rfl (g := (mkF m 198 #[.val (.ref a), .val .null, .val (.ref aT), .val .null, .val (.int lev), .val (.long bou), .second, .val (.int (0 : Int32)), .val (.int d), .val (.ref b)] [(.int d), (.ref a)])) rfl rfl (hb hby d11_198)
      refine own_st st15 ?_
      have O0'15 := O0'13.wr W15 g_a
      have E_T'15 := E_T'13.wr W15
      have E_a'15 := E_a'13.wr W15
      have E_b'15 := E_b'13.wr W15
      have F_bl'15 := F_bl'13.other W15 (Or.inr (slot_ne (Or.inl (hw _ (List.mem_of_getElem? (i := 33) rfl))) (Or.inl (hw _ (List.mem_of_getElem? (i := 37) rfl))) (by decide) (t := (.array (.object "com/example/chiffchaff/chiffchaff/OpenElements$Block"))) (t' := .int) (by decide) (by decide)))
      have F_top'15 := F_top'13.other W15 (Or.inr (slot_ne (Or.inl (hw _ (List.mem_of_getElem? (i := 35) rfl))) (Or.inl (hw _ (List.mem_of_getElem? (i := 37) rfl))) (by decide) (t := (.object "com/example/chiffchaff/chiffchaff/OpenElements$Block")) (t' := .int) (by decide) (by decide)))
      have F_at'15 := F_at'13.same W15
      have F_d'15 := F_d'13.other W15 (Or.inr (slot_ne (Or.inl (hw _ (List.mem_of_getElem? (i := 57) rfl))) (Or.inl (hw _ (List.mem_of_getElem? (i := 37) rfl))) (by decide) (t := .int) (t' := .int) (by decide) (by decide)))
      have V_bl'15 := V_bl'13.other W15 (Ne.symm (own_neEA E_a'13 (hw _ (List.mem_of_getElem? (i := 1) rfl)) (own_Arv V_bl'13)))
      have F_nm'15 := F_nm'13.other W15 (Or.inl (ne_exa E_b'13 E_a'13 (by decide)))
      have F_ur'15 := F_ur'13.other W15 (Or.inl (ne_exa E_b'13 E_a'13 (by decide)))
      have F_lv'15 := F_lv'13.other W15 (Or.inl (ne_exa E_b'13 E_a'13 (by decide)))
      have F_bd'15 := F_bd'13.other W15 (Or.inl (ne_exa E_b'13 E_a'13 (by decide)))
      have F_ty'15 := F_ty'13.other W15 (Or.inl (ne_exa E_b'13 E_a'13 (by decide)))
      have F_st'15 := F_st'13.other W15 (Or.inl (ne_exa E_b'13 E_a'13 (by decide)))
      have O_nm'15 := O_nm'13.wr W15
      have O_ur'15 := O_ur'13.wr W15
      have A_lv'15 := A_lv'13.wr W15
      have A_bd'15 := A_bd'13.wr W15
      have N15 := Fr.snoc X15 N13 g_a
      have Z15 : n0 ≤ h15.size := by rw [W15.size]; exact Z13
      show own_Fin p.tables e below _ (T15.setTop (mkF m 201 #[.val (.ref a), .val .null, .val (.ref aT), .val .null, .val (.int lev), .val (.long bou), .second, .val (.int (0 : Int32)), .val (.int d), .val (.ref b)] []))
      refine own_st (fun t k => XS.aloadN X15.here hx rfl (hb hby d11_201) rfl rfl k) ?_
      show own_Fin p.tables e below _ (T15.setTop (mkF m 202 #[.val (.ref a), .val .null, .val (.ref aT), .val .null, .val (.int lev), .val (.long bou), .second, .val (.int (0 : Int32)), .val (.int d), .val (.ref b)] [(.ref a)]))
      refine own_st (fun t k => XS.dup X15.here hx rfl (hb hby d11_202) rfl rfl k) ?_
      show own_Fin p.tables e below _ (T15.setTop (mkF m 203 #[.val (.ref a), .val .null, .val (.ref aT), .val .null, .val (.int lev), .val (.long bou), .second, .val (.int (0 : Int32)), .val (.int d), .val (.ref b)] [(.ref a), (.ref a)]))
      obtain ⟨T16, X16, e16, st16⟩ := getF X15 hx hZ hown (host := "") (Or.inl (hw _ (List.mem_of_getElem? (i := 56) rfl))) Via.refl e15 F_d'15 (g := (mkF m 203 #[.val (.ref a), .val .null, .val (.ref aT), .val .null, .val (.int lev), .val (.long bou), .second, .val (.int (0 : Int32)), .val (.int d), .val (.ref b)] [(.ref a), (.ref a)])) rfl rfl (hb hby d11_203)
      refine own_st st16 ?_
      show own_Fin p.tables e below _ (T16.setTop (mkF m 206 #[.val (.ref a), .val .null, .val (.ref aT), .val .null, .val (.int lev), .val (.long bou), .second, .val (.int (0 : Int32)), .val (.int d), .val (.ref b)] [(.int d), (.ref a)]))
      refine own_st (fun t k => XS.iconst X16.here hx rfl (hb hby d11_206) k) ?_
      show own_Fin p.tables e below _ (T16.setTop (mkF m 207 #[.val (.ref a), .val .null, .val (.ref aT), .val .null, .val (.int lev), .val (.long bou), .second, .val (.int (0 : Int32)), .val (.int d), .val (.ref b)] [(.int (1 : Int32)), (.int d), (.ref a)]))
      refine own_st (fun t k => XS.iadd X16.here hx rfl (hb hby d11_207) rfl k) ?_
      show own_Fin p.tables e below _ (T16.setTop (mkF m 208 #[.val (.ref a), .val .null, .val (.ref aT), .val .null, .val (.int lev), .val (.long bou), .second, .val (.int (0 : Int32)), .val (.int d), .val (.ref b)] [(.int (d + (1 : Int32))), (.ref a)]))
      obtain ⟨T17, h17, X17, e17, W17, st17⟩ := putF X16 hx hZ hown (host := "") (Or.inl (hw _ (List.mem_of_getElem? (i := 56) rfl))) Via.refl e16 F_d'15 E_a'15 (Or.inl (hw _ (List.mem_of_getElem? (i := 57) rfl))) (hw _ (List.mem_of_getElem? (i := 1) rfl)) (ty := .int) (by decide) rfl rfl (g := (mkF m 208 #[.val (.ref a), .val .null, .val (.ref aT), .val .null, .val (.int lev), .val (.long bou), .second, .val (.int (0 : Int32)), .val (.int d), .val (.ref b)] [(.int (d + (1 : Int32))), (.ref a)])) rfl rfl (hb hby d11_208)
      refine own_st st17 ?_
      have O0'17 := O0'15.wr W17 g_a
      have E_T'17 := E_T'15.wr W17
      have E_a'17 := E_a'15.wr W17
      have E_b'17 := E_b'15.wr W17
      have F_bl'17 := F_bl'15.other W17 (Or.inr (slot_ne (Or.inl (hw _ (List.mem_of_getElem? (i := 33) rfl))) (Or.inl (hw _ (List.mem_of_getElem? (i := 57) rfl))) (by decide) (t := (.array (.object "com/example/chiffchaff/chiffchaff/OpenElements$Block"))) (t' := .int) (by decide) (by decide)))
      have F_top'17 := F_top'15.other W17 (Or.inr (slot_ne (Or.inl (hw _ (List.mem_of_getElem? (i := 35) rfl))) (Or.inl (hw _ (List.mem_of_getElem? (i := 57) rfl))) (by decide) (t := (.object "com/example/chiffchaff/chiffchaff/OpenElements$Block")) (t' := .int) (by decide) (by decide)))
      have F_at'17 := F_at'15.other W17 (Or.inr (slot_ne (Or.inl (hw _ (List.mem_of_getElem? (i := 37) rfl))) (Or.inl (hw _ (List.mem_of_getElem? (i := 57) rfl))) (by decide) (t := .int) (t' := .int) (by decide) (by decide)))
      have F_d'17 := F_d'15.same W17
      have V_bl'17 := V_bl'15.other W17 (Ne.symm (own_neEA E_a'15 (hw _ (List.mem_of_getElem? (i := 1) rfl)) (own_Arv V_bl'15)))
      have F_nm'17 := F_nm'15.other W17 (Or.inl (ne_exa E_b'15 E_a'15 (by decide)))
      have F_ur'17 := F_ur'15.other W17 (Or.inl (ne_exa E_b'15 E_a'15 (by decide)))
      have F_lv'17 := F_lv'15.other W17 (Or.inl (ne_exa E_b'15 E_a'15 (by decide)))
      have F_bd'17 := F_bd'15.other W17 (Or.inl (ne_exa E_b'15 E_a'15 (by decide)))
      have F_ty'17 := F_ty'15.other W17 (Or.inl (ne_exa E_b'15 E_a'15 (by decide)))
      have F_st'17 := F_st'15.other W17 (Or.inl (ne_exa E_b'15 E_a'15 (by decide)))
      have O_nm'17 := O_nm'15.wr W17
      have O_ur'17 := O_ur'15.wr W17
      have A_lv'17 := A_lv'15.wr W17
      have A_bd'17 := A_bd'15.wr W17
      have N17 := Fr.snoc X17 N15 g_a
      have Z17 : n0 ≤ h17.size := by rw [W17.size]; exact Z15
      show own_Fin p.tables e below _ (T17.setTop (mkF m 211 #[.val (.ref a), .val .null, .val (.ref aT), .val .null, .val (.int lev), .val (.long bou), .second, .val (.int (0 : Int32)), .val (.int d), .val (.ref b)] []))
      obtain ⟨fs, hr, hrun, hended, hW, hsame⟩ := X17.leave (v := none) (fun _ => rfl)
      refine ⟨_, _, X17.returnOut hx Bd.returns (hb hby d11_211) hr, hrun, hended, _, _, rfl, ?_, ⟨_, rfl⟩, hW, hsame.mono (by decide) (by decide)⟩
      show Q11 Z a b bl nm ur lv bd kB .null d aT aU lev bou h0 n0 _ T17.heap _
      rw [e17]
      exact ⟨rfl, N17, O0'17, E_T'17, _, ⟨⟨E_a'17, E_b'17, F_bl'17, F_top'17, ((own_up hd).symm ▸ F_at'17), F_d'17, V_bl'17⟩, ⟨F_nm'17, F_ur'17, F_lv'17, F_bd'17, F_ty'17, F_st'17⟩, ⟨O_nm'17, O_ur'17, A_lv'17, A_bd'17, Or.inl rfl⟩, ⟨g_a, g_b, g_nm, g_ur, g_lv, g_bd⟩⟩⟩
    · have _ := cu
      refine own_st (fun t k => XT.acmpNo X10.here hx rfl (hb hby d11_139) rfl rfl rfl (XT.aa_eq_f cu) k) ?_
      show own_Fin p.tables e below _ (T10.setTop (mkF m 142 #[.val (.ref a), .val .null, .val (.ref aT), .val .null, .val (.int lev), .val (.long bou), .second, .val (.int (0 : Int32)), .val (.int d), .val (.ref b)] []))
      refine own_st (fun t k => XS.aload X10.here hx rfl (hb hby d11_142) rfl rfl k) ?_
      show own_Fin p.tables e below _ (T10.setTop (mkF m 144 #[.val (.ref a), .val .null, .val (.ref aT), .val .null, .val (.int lev), .val (.long bou), .second, .val (.int (0 : Int32)), .val (.int d), .val (.ref b)] [(.ref b)]))
      obtain ⟨_, ⟨T18, L18, k18, n18⟩, X18, ⟨Lc18, hQ18, l18, y18, z18⟩, st18⟩ := own_virtR X10 hx hZ (y := (⟨"com/example/chiffchaff/chiffchaff/OpenElements$Block", "typed", "()[Lcom/example/chiffchaff/chiffchaff/ElementType;"⟩ : MethodName)) hown (hw _ (List.mem_of_getElem? (i := 95) rfl)) (hw _ (List.mem_of_getElem? (i := 96) rfl)) (hw _ (List.mem_of_getElem? (i := 97) rfl)) (hw _ (List.mem_of_getElem? (i := 98) rfl)) (hw _ (List.mem_of_getElem? (i := 11) rfl)) (by decide) (backOf (W := 0) (rm14 l Z a0 hw [] b nm ur lv bd h9 n0 Z9 F_ty'9 F_nm'9 F_ur'9 F_lv'9 F_bd'9 F_st'9 O_nm'9 E_b'9 g_b) hZ (hw _ (List.mem_of_getElem? (i := 98) rfl)) (hw _ (List.mem_of_getElem? (i := 12) rfl)) (by decide) (by decide)) e10 E_b'9 (g := (mkF m 144 #[.val (.ref a), .val .null, .val (.ref aT), .val .null, .val (.int lev), .val (.long bou), .second, .val (.int (0 : Int32)), .val (.int d), .val (.ref b)] [(.ref b)])) rfl (by rw [hml]; rfl) (a := b) (argsL := []) (rest := []) (lenOf pd____Lcom_example_chiffchaff_chiffchaff_ElementType_ rfl) rfl (by show 2 * 0 + _ ≤ _; exact Nat.le_of_eq rfl) (hb hby d11_144) (⟨rfl, e10, (by decide : 0 + 1 ≤ _), (by decide : 0 + 16 ≤ _)⟩)
      dsimp only [Pt.U, Pt.locs, Pt.cells, Pt.slots] at X18 l18 y18 z18 st18 hQ18
      subst l18 y18 z18
      obtain ⟨ty, rfl, N18, K18, Fty18, Fnm18, Fur18, Flv18, Fbd18, Fst18, O_ty18, g_ty⟩ := hQ18
      refine own_st (fun t k => st18.trans k) ?_
      have O0'18 := O0'9.keep K18 (allS g_b all0)
      have E_T'18 := E_T'9.keep K18
      have E_a'18 := E_a'9.keep K18
      have E_b'18 := E_b'9.keep K18
      have F_bl'18 := F_bl'9.keep K18 (ninS (ne_exa E_a'9 E_b'9 (by decide)) nin0)
      have F_top'18 := F_top'9.keep K18 (ninS (ne_exa E_a'9 E_b'9 (by decide)) nin0)
      have F_at'18 := F_at'9.keep K18 (ninS (ne_exa E_a'9 E_b'9 (by decide)) nin0)
      have F_d'18 := F_d'9.keep K18 (ninS (ne_exa E_a'9 E_b'9 (by decide)) nin0)
      have V_bl'18 := V_bl'9.keep K18 (ninS (Ne.symm (own_neEA E_b'9 (hw _ (List.mem_of_getElem? (i := 11) rfl)) (own_Arv V_bl'9))) nin0)
      have O_nm'18 := O_nm'9.keep K18
      have O_ur'18 := O_ur'9.keep K18
      have A_lv'18 := A_lv'9.keep K18
      have A_bd'18 := A_bd'9.keep K18
      have Z18 : n0 ≤ T18.heap.size := Nat.le_trans Z9 K18.1
      have N18a := Fr.app N9 N18
      show own_Fin p.tables e below _ (T18.setTop (mkF m 147 #[.val (.ref a), .val .null, .val (.ref aT), .val .null, .val (.int lev), .val (.long bou), .second, .val (.int (0 : Int32)), .val (.int d), .val (.ref b)] [(.ref ty)]))
      refine own_st (fun t k => XS.iload X18.here hx rfl (hb hby d11_147) rfl k) ?_
      show own_Fin p.tables e below _ (T18.setTop (mkF m 149 #[.val (.ref a), .val .null, .val (.ref aT), .val .null, .val (.int lev), .val (.long bou), .second, .val (.int (0 : Int32)), .val (.int d), .val (.ref b)] [(.int d), (.ref ty)]))
      refine own_st (fun t k => XS.aloadN X18.here hx rfl (hb hby d11_149) rfl rfl k) ?_
      show own_Fin p.tables e below _ (T18.setTop (mkF m 150 #[.val (.ref a), .val .null, .val (.ref aT), .val .null, .val (.int lev), .val (.long bou), .second, .val (.int (0 : Int32)), .val (.int d), .val (.ref b)] [(.ref aT), (.int d), (.ref ty)]))
      obtain ⟨T19, h19, X19, e19, W19, st19⟩ := own_stR X18 hx hZ rfl O_ty18 (j := d) (own_in3 hd) (Or.inr ⟨_, rfl, Ins.self E_T'18⟩) (g := (mkF m 150 #[.val (.ref a), .val .null, .val (.ref aT), .val .null, .val (.int lev), .val (.long bou), .second, .val (.int (0 : Int32)), .val (.int d), .val (.ref b)] [(.ref aT), (.int d), (.ref ty)])) rfl rfl (hb hby d11_150)
      refine own_st st19 ?_
      have O0'19 := O0'18.wr W19 g_ty
      have E_T'19 := E_T'18.wr W19
      have E_a'19 := E_a'18.wr W19
      have E_b'19 := E_b'18.wr W19
      have F_bl'19 := F_bl'18.other W19 (Or.inl (own_neEA E_a'18 (hw _ (List.mem_of_getElem? (i := 1) rfl)) (own_O.A O_ty18)))
      have F_top'19 := F_top'18.other W19 (Or.inl (own_neEA E_a'18 (hw _ (List.mem_of_getElem? (i := 1) rfl)) (own_O.A O_ty18)))
      have F_at'19 := F_at'18.other W19 (Or.inl (own_neEA E_a'18 (hw _ (List.mem_of_getElem? (i := 1) rfl)) (own_O.A O_ty18)))
      have F_d'19 := F_d'18.other W19 (Or.inl (own_neEA E_a'18 (hw _ (List.mem_of_getElem? (i := 1) rfl)) (own_O.A O_ty18)))
      have V_bl'19 := V_bl'18.other W19 (own_neAA (own_Arv V_bl'18) (own_O.A O_ty18) (by decide))
      have O_nm'19 := O_nm'18.wr W19
      have O_ur'19 := O_ur'18.wr W19
      have A_lv'19 := A_lv'18.wr W19
      have A_bd'19 := A_bd'18.wr W19
      have Fnm18'19 := Fnm18.other W19 (Or.inl (own_neEA E_b'18 (hw _ (List.mem_of_getElem? (i := 11) rfl)) (own_O.A O_ty18)))
      have Fur18'19 := Fur18.other W19 (Or.inl (own_neEA E_b'18 (hw _ (List.mem_of_getElem? (i := 11) rfl)) (own_O.A O_ty18)))
      have Flv18'19 := Flv18.other W19 (Or.inl (own_neEA E_b'18 (hw _ (List.mem_of_getElem? (i := 11) rfl)) (own_O.A O_ty18)))
      have Fbd18'19 := Fbd18.other W19 (Or.inl (own_neEA E_b'18 (hw _ (List.mem_of_getElem? (i := 11) rfl)) (own_O.A O_ty18)))
      have Fty18'19 := Fty18.other W19 (Or.inl (own_neEA E_b'18 (hw _ (List.mem_of_getElem? (i := 11) rfl)) (own_O.A O_ty18)))
      have Fst18'19 := Fst18.other W19 (Or.inl (own_neEA E_b'18 (hw _ (List.mem_of_getElem? (i := 11) rfl)) (own_O.A O_ty18)))
      have O_ty18'19 := O_ty18.wr W19
      have N19 := Fr.snoc X19 N18a g_ty
      have Z19 : n0 ≤ h19.size := by rw [W19.size]; exact Z18
      show own_Fin p.tables e below _ (T19.setTop (mkF m 151 #[.val (.ref a), .val .null, .val (.ref aT), .val .null, .val (.int lev), .val (.long bou), .second, .val (.int (0 : Int32)), .val (.int d), .val (.ref b)] []))
      refine own_st (fun t k => XS.aload X19.here hx rfl (hb hby d11_151) rfl rfl k) ?_
      show own_Fin p.tables e below _ (T19.setTop (mkF m 153 #[.val (.ref a), .val .null, .val (.ref aT), .val .null, .val (.int lev), .val (.long bou), .second, .val (.int (0 : Int32)), .val (.int d), .val (.ref b)] [(.ref b)]))
      refine own_st (fun t k => own_getR X19 hx hZ hown (hw _ (List.mem_of_getElem? (i := 102) rfl)) e19 Fur18'19 (g := (mkF m 153 #[.val (.ref a), .val .null, .val (.ref aT), .val .null, .val (.int lev), .val (.long bou), .second, .val (.int (0 : Int32)), .val (.int d), .val (.ref b)] [(.ref b)])) rfl rfl (hb hby d11_153) t k) ?_
      show own_Fin p.tables e below _ (T19.setTop (mkF m 156 #[.val (.ref a), .val .null, .val (.ref aT), .val .null, .val (.int lev), .val (.long bou), .second, .val (.int (0 : Int32)), .val (.int d), .val (.ref b)] [(.ref ur)]))
      refine own_st (fun t k => XS.iload X19.here hx rfl (hb hby d11_156) rfl k) ?_
      show own_Fin p.tables e below _ (T19.setTop (mkF m 158 #[.val (.ref a), .val .null, .val (.ref aT), .val .null, .val (.int lev), .val (.long bou), .second, .val (.int (0 : Int32)), .val (.int d), .val (.ref b)] [(.int d), (.ref ur)]))
      refine own_st (fun t k => XS.aloadN X19.here hx rfl (hb hby d11_158) rfl rfl k) ?_
      show own_Fin p.tables e below _ (T19.setTop (mkF m 159 #[.val (.ref a), .val .null, .val (.ref aT), .val .null, .val (.int lev), .val (.long bou), .second, .val (.int (0 : Int32)), .val (.int d), .val (.ref b)] [.null, (.int d), (.ref ur)]))
      obtain ⟨T20, h20, X20, e20, W20, st20⟩ := own_stR X19 hx hZ e19 O_ur'19 (j := d) (own_in3 hd) (Or.inl rfl) (g := (mkF m 159 #[.val (.ref a), .val .null, .val (.ref aT), .val .null, .val (.int lev), .val (.long bou), .second, .val (.int (0 : Int32)), .val (.int d), .val (.ref b)] [.null, (.int d), (.ref ur)])) rfl rfl (hb hby d11_159)
      refine own_st st20 ?_
      have O0'20 := O0'19.wr W20 g_ur
      have E_T'20 := E_T'19.wr W20
      have E_a'20 := E_a'19.wr W20
      have E_b'20 := E_b'19.wr W20
      have F_bl'20 := F_bl'19.other W20 (Or.inl (own_neEA E_a'19 (hw _ (List.mem_of_getElem? (i := 1) rfl)) (own_O.A O_ur'19)))
      have F_top'20 := F_top'19.other W20 (Or.inl (own_neEA E_a'19 (hw _ (List.mem_of_getElem? (i := 1) rfl)) (own_O.A O_ur'19)))
      have F_at'20 := F_at'19.other W20 (Or.inl (own_neEA E_a'19 (hw _ (List.mem_of_getElem? (i := 1) rfl)) (own_O.A O_ur'19)))
      have F_d'20 := F_d'19.other W20 (Or.inl (own_neEA E_a'19 (hw _ (List.mem_of_getElem? (i := 1) rfl)) (own_O.A O_ur'19)))
      have V_bl'20 := V_bl'19.other W20 (own_neAA (own_Arv V_bl'19) (own_O.A O_ur'19) (by decide))
      have O_nm'20 := O_nm'19.wr W20
      have O_ur'20 := O_ur'19.wr W20
      have A_lv'20 := A_lv'19.wr W20
      have A_bd'20 := A_bd'19.wr W20
      have Fnm18'20 := Fnm18'19.other W20 (Or.inl (own_neEA E_b'19 (hw _ (List.mem_of_getElem? (i := 11) rfl)) (own_O.A O_ur'19)))
      have Fur18'20 := Fur18'19.other W20 (Or.inl (own_neEA E_b'19 (hw _ (List.mem_of_getElem? (i := 11) rfl)) (own_O.A O_ur'19)))
      have Flv18'20 := Flv18'19.other W20 (Or.inl (own_neEA E_b'19 (hw _ (List.mem_of_getElem? (i := 11) rfl)) (own_O.A O_ur'19)))
      have Fbd18'20 := Fbd18'19.other W20 (Or.inl (own_neEA E_b'19 (hw _ (List.mem_of_getElem? (i := 11) rfl)) (own_O.A O_ur'19)))
      have Fty18'20 := Fty18'19.other W20 (Or.inl (own_neEA E_b'19 (hw _ (List.mem_of_getElem? (i := 11) rfl)) (own_O.A O_ur'19)))
      have Fst18'20 := Fst18'19.other W20 (Or.inl (own_neEA E_b'19 (hw _ (List.mem_of_getElem? (i := 11) rfl)) (own_O.A O_ur'19)))
      have O_ty18'20 := O_ty18'19.wr W20
      have N20 := Fr.snoc X20 N19 g_ur
      have Z20 : n0 ≤ h20.size := by rw [W20.size]; exact Z19
      show own_Fin p.tables e below _ (T20.setTop (mkF m 160 #[.val (.ref a), .val .null, .val (.ref aT), .val .null, .val (.int lev), .val (.long bou), .second, .val (.int (0 : Int32)), .val (.int d), .val (.ref b)] []))
      refine own_st (fun t k => XS.aload X20.here hx rfl (hb hby d11_160) rfl rfl k) ?_
      show own_Fin p.tables e below _ (T20.setTop (mkF m 162 #[.val (.ref a), .val .null, .val (.ref aT), .val .null, .val (.int lev), .val (.long bou), .second, .val (.int (0 : Int32)), .val (.int d), .val (.ref b)] [(.ref b)]))
      refine own_st (fun t k => own_getR X20 hx hZ hown (hw _ (List.mem_of_getElem? (i := 103) rfl)) e20 Flv18'20 (g := (mkF m 162 #[.val (.ref a), .val .null, .val (.ref aT), .val .null, .val (.int lev), .val (.long bou), .second, .val (.int (0 : Int32)), .val (.int d), .val (.ref b)] [(.ref b)])) rfl rfl (hb hby d11_162) t k) ?_
      show own_Fin p.tables e below _ (T20.setTop (mkF m 165 #[.val (.ref a), .val .null, .val (.ref aT), .val .null, .val (.int lev), .val (.long bou), .second, .val (.int (0 : Int32)), .val (.int d), .val (.ref b)] [(.ref lv)]))
      refine own_st (fun t k => XS.iload X20.here hx rfl (hb hby d11_165) rfl k) ?_
      show own_Fin p.tables e below _ (T20.setTop (mkF m 167 #[.val (.ref a), .val .null, .val (.ref aT), .val .null, .val (.int lev), .val (.long bou), .second, .val (.int (0 : Int32)), .val (.int d), .val (.ref b)] [(.int d), (.ref lv)]))
      refine own_st (fun t k => XS.iload X20.here hx rfl (hb hby d11_167) rfl k) ?_
      show own_Fin p.tables e below _ (T20.setTop (mkF m 169 #[.val (.ref a), .val .null, .val (.ref aT), .val .null, .val (.int lev), .val (.long bou), .second, .val (.int (0 : Int32)), .val (.int d), .val (.ref b)] [(.int lev), (.int d), (.ref lv)]))
      obtain ⟨T21, h21, X21, e21, W21, st21⟩ := own_stI X20 hx hZ e20 A_lv'20 (j := d) (own_in3 hd) (g := (mkF m 169 #[.val (.ref a), .val .null, .val (.ref aT), .val .null, .val (.int lev), .val (.long bou), .second, .val (.int (0 : Int32)), .val (.int d), .val (.ref b)] [(.int lev), (.int d), (.ref lv)])) rfl rfl (hb hby d11_169)
      refine own_st st21 ?_
      have O0'21 := O0'20.wr W21 g_lv
      have E_T'21 := E_T'20.wr W21
      have E_a'21 := E_a'20.wr W21
      have E_b'21 := E_b'20.wr W21
      have F_bl'21 := F_bl'20.other W21 (Or.inl (own_neEA E_a'20 (hw _ (List.mem_of_getElem? (i := 1) rfl)) A_lv'20))
      have F_top'21 := F_top'20.other W21 (Or.inl (own_neEA E_a'20 (hw _ (List.mem_of_getElem? (i := 1) rfl)) A_lv'20))
      have F_at'21 := F_at'20.other W21 (Or.inl (own_neEA E_a'20 (hw _ (List.mem_of_getElem? (i := 1) rfl)) A_lv'20))
      have F_d'21 := F_d'20.other W21 (Or.inl (own_neEA E_a'20 (hw _ (List.mem_of_getElem? (i := 1) rfl)) A_lv'20))
      have V_bl'21 := V_bl'20.other W21 (own_neAA (own_Arv V_bl'20) A_lv'20 (by decide))
      have O_nm'21 := O_nm'20.wr W21
      have O_ur'21 := O_ur'20.wr W21
      have A_lv'21 := A_lv'20.wr W21
      have A_bd'21 := A_bd'20.wr W21
      have Fnm18'21 := Fnm18'20.other W21 (Or.inl (own_neEA E_b'20 (hw _ (List.mem_of_getElem? (i := 11) rfl)) A_lv'20))
      have Fur18'21 := Fur18'20.other W21 (Or.inl (own_neEA E_b'20 (hw _ (List.mem_of_getElem? (i := 11) rfl)) A_lv'20))
      have Flv18'21 := Flv18'20.other W21 (Or.inl (own_neEA E_b'20 (hw _ (List.mem_of_getElem? (i := 11) rfl)) A_lv'20))
      have Fbd18'21 := Fbd18'20.other W21 (Or.inl (own_neEA E_b'20 (hw _ (List.mem_of_getElem? (i := 11) rfl)) A_lv'20))
      have Fty18'21 := Fty18'20.other W21 (Or.inl (own_neEA E_b'20 (hw _ (List.mem_of_getElem? (i := 11) rfl)) A_lv'20))
      have Fst18'21 := Fst18'20.other W21 (Or.inl (own_neEA E_b'20 (hw _ (List.mem_of_getElem? (i := 11) rfl)) A_lv'20))
      have O_ty18'21 := O_ty18'20.wr W21
      have N21 := Fr.snoc X21 N20 g_lv
      have Z21 : n0 ≤ h21.size := by rw [W21.size]; exact Z20
      show own_Fin p.tables e below _ (T21.setTop (mkF m 170 #[.val (.ref a), .val .null, .val (.ref aT), .val .null, .val (.int lev), .val (.long bou), .second, .val (.int (0 : Int32)), .val (.int d), .val (.ref b)] []))
      refine own_st (fun t k => XS.aload X21.here hx rfl (hb hby d11_170) rfl rfl k) ?_
      show own_Fin p.tables e below _ (T21.setTop (mkF m 172 #[.val (.ref a), .val .null, .val (.ref aT), .val .null, .val (.int lev), .val (.long bou), .second, .val (.int (0 : Int32)), .val (.int d), .val (.ref b)] [(.ref b)]))
      refine own_st (fun t k => own_getR X21 hx hZ hown (hw _ (List.mem_of_getElem? (i := 104) rfl)) e21 Fbd18'21 (g := (mkF m 172 #[.val (.ref a), .val .null, .val (.ref aT), .val .null, .val (.int lev), .val (.long bou), .second, .val (.int (0 : Int32)), .val (.int d), .val (.ref b)] [(.ref b)])) rfl rfl (hb hby d11_172) t k) ?_
      show own_Fin p.tables e below _ (T21.setTop (mkF m 175 #[.val (.ref a), .val .null, .val (.ref aT), .val .null, .val (.int lev), .val (.long bou), .second, .val (.int (0 : Int32)), .val (.int d), .val (.ref b)] [(.ref bd)]))
      refine own_st (fun t k => XS.iload X21.here hx rfl (hb hby d11_175) rfl k) ?_
      show own_Fin p.tables e below _ (T21.setTop (mkF m 177 #[.val (.ref a), .val .null, .val (.ref aT), .val .null, .val (.int lev), .val (.long bou), .second, .val (.int (0 : Int32)), .val (.int d), .val (.ref b)] [(.int d), (.ref bd)]))
      refine own_st (fun t k => XS.lload X21.here hx rfl (hb hby d11_177) rfl k) ?_
      show own_Fin p.tables e below _ (T21.setTop (mkF m 179 #[.val (.ref a), .val .null, .val (.ref aT), .val .null, .val (.int lev), .val (.long bou), .second, .val (.int (0 : Int32)), .val (.int d), .val (.ref b)] [(.long bou), (.int d), (.ref bd)]))
      obtain ⟨T22, h22, X22, e22, W22, st22⟩ := own_stJ X21 hx hZ e21 A_bd'21 (j := d) (own_in3 hd) (g := (mkF m 179 #[.val (.ref a), .val .null, .val (.ref aT), .val .null, .val (.int lev), .val (.long bou), .second, .val (.int (0 : Int32)), .val (.int d), .val (.ref b)] [(.long bou), (.int d), (.ref bd)])) rfl rfl (hb hby d11_179)
      refine own_st st22 ?_
      have O0'22 := O0'21.wr W22 g_bd
      have E_T'22 := E_T'21.wr W22
      have E_a'22 := E_a'21.wr W22
      have E_b'22 := E_b'21.wr W22
      have F_bl'22 := F_bl'21.other W22 (Or.inl (own_neEA E_a'21 (hw _ (List.mem_of_getElem? (i := 1) rfl)) A_bd'21))
      have F_top'22 := F_top'21.other W22 (Or.inl (own_neEA E_a'21 (hw _ (List.mem_of_getElem? (i := 1) rfl)) A_bd'21))
      have F_at'22 := F_at'21.other W22 (Or.inl (own_neEA E_a'21 (hw _ (List.mem_of_getElem? (i := 1) rfl)) A_bd'21))
      have F_d'22 := F_d'21.other W22 (Or.inl (own_neEA E_a'21 (hw _ (List.mem_of_getElem? (i := 1) rfl)) A_bd'21))
      have V_bl'22 := V_bl'21.other W22 (own_neAA (own_Arv V_bl'21) A_bd'21 (by decide))
      have O_nm'22 := O_nm'21.wr W22
      have O_ur'22 := O_ur'21.wr W22
      have A_lv'22 := A_lv'21.wr W22
      have A_bd'22 := A_bd'21.wr W22
      have Fnm18'22 := Fnm18'21.other W22 (Or.inl (own_neEA E_b'21 (hw _ (List.mem_of_getElem? (i := 11) rfl)) A_bd'21))
      have Fur18'22 := Fur18'21.other W22 (Or.inl (own_neEA E_b'21 (hw _ (List.mem_of_getElem? (i := 11) rfl)) A_bd'21))
      have Flv18'22 := Flv18'21.other W22 (Or.inl (own_neEA E_b'21 (hw _ (List.mem_of_getElem? (i := 11) rfl)) A_bd'21))
      have Fbd18'22 := Fbd18'21.other W22 (Or.inl (own_neEA E_b'21 (hw _ (List.mem_of_getElem? (i := 11) rfl)) A_bd'21))
      have Fty18'22 := Fty18'21.other W22 (Or.inl (own_neEA E_b'21 (hw _ (List.mem_of_getElem? (i := 11) rfl)) A_bd'21))
      have Fst18'22 := Fst18'21.other W22 (Or.inl (own_neEA E_b'21 (hw _ (List.mem_of_getElem? (i := 11) rfl)) A_bd'21))
      have O_ty18'22 := O_ty18'21.wr W22
      have N22 := Fr.snoc X22 N21 g_bd
      have Z22 : n0 ≤ h22.size := by rw [W22.size]; exact Z21
      show own_Fin p.tables e below _ (T22.setTop (mkF m 180 #[.val (.ref a), .val .null, .val (.ref aT), .val .null, .val (.int lev), .val (.long bou), .second, .val (.int (0 : Int32)), .val (.int d), .val (.ref b)] []))
      refine own_st (fun t k => XS.aloadN X22.here hx rfl (hb hby d11_180) rfl rfl k) ?_
      show own_Fin p.tables e below _ (T22.setTop (mkF m 181 #[.val (.ref a), .val .null, .val (.ref aT), .val .null, .val (.int lev), .val (.long bou), .second, .val (.int (0 : Int32)), .val (.int d), .val (.ref b)] [(.ref a)]))
      obtain ⟨T23, X23, e23, st23⟩ := getF X22 hx hZ hown (host := "") (Or.inl (hw _ (List.mem_of_getElem? (i := 34) rfl))) Via.refl e22 F_top'22 (g := (mkF m 181 #[.val (.ref a), .val .null, .val (.ref aT), .val .null, .val (.int lev), .val (.long bou), .second, .val (.int (0 : Int32)), .val (.int d), .val (.ref b)] [(.ref a)])) rfl rfl (hb hby d11_181)
      refine own_st st23 ?_
      show own_Fin p.tables e below _ (T23.setTop (mkF m 184 #[.val (.ref a), .val .null, .val (.ref aT), .val .null, .val (.int lev), .val (.long bou), .second, .val (.int (0 : Int32)), .val (.int d), .val (.ref b)] [(.ref b)]))
      refine own_st (fun t k => XS.aload X23.here hx rfl (hb hby d11_184) rfl rfl k) ?_
      show own_Fin p.tables e below _ (T23.setTop (mkF m 186 #[.val (.ref a), .val .null, .val (.ref aT), .val .null, .val (.int lev), .val (.long bou), .second, .val (.int (0 : Int32)), .val (.int d), .val (.ref b)] [(.ref b), (.ref b)]))
      refine own_st (fun t k => XT.acmpYes X23.here hx rfl (pc0 := 186) (pc' := 195) rfl (hb hby d11_186) rfl rfl rfl (XT.aa_eq_t rfl) (by decide) (by decide) k) ?_
      show own_Fin p.tables e below _ (T23.setTop (mkF m 195 #[.val (.ref a), .val .null, .val (.ref aT), .val .null, .val (.int lev), .val (.long bou), .second, .val (.int (0 : Int32)), .val (.int d), .val (.ref b)] []))
      refine own_st (fun t k => XS.aloadN X23.here hx rfl (hb hby d11_195) rfl rfl k) ?_
      show own_Fin p.tables e below _ (T23.setTop (mkF m 196 #[.val (.ref a), .val .null, .val (.ref aT), .val .null, .val (.int lev), .val (.long bou), .second, .val (.int (0 : Int32)), .val (.int d), .val (.ref b)] [(.ref a)]))
      refine own_st (fun t k => XS.iload X23.here hx rfl (hb hby d11_196) rfl k) ?_
      show own_Fin p.tables e below _ (T23.setTop (mkF m 198 #[.val (.ref a), .val .null, .val (.ref aT), .val .null, .val (.int lev), .val (.long bou), .second, .val (.int (0 : Int32)), .val (.int d), .val (.ref b)] [(.int d), (.ref a)]))
      obtain ⟨T24, h24, X24, e24, W24, st24⟩ := putF X23 hx hZ hown (host := "") (Or.inl (hw _ (List.mem_of_getElem? (i := 36) rfl))) Via.refl e23 F_at'22 E_a'22 (Or.inl (hw _ (List.mem_of_getElem? (i := 37) rfl))) (hw _ (List.mem_of_getElem? (i := 1) rfl)) (ty := .int) (by decide) rfl rfl (g := (mkF m 198 #[.val (.ref a), .val .null, .val (.ref aT), .val .null, .val (.int lev), .val (.long bou), .second, .val (.int (0 : Int32)), .val (.int d), .val (.ref b)] [(.int d), (.ref a)])) rfl rfl (hb hby d11_198)
      refine own_st st24 ?_
      have O0'24 := O0'22.wr W24 g_a
      have E_T'24 := E_T'22.wr W24
      have E_a'24 := E_a'22.wr W24
      have E_b'24 := E_b'22.wr W24
      have F_bl'24 := F_bl'22.other W24 (Or.inr (slot_ne (Or.inl (hw _ (List.mem_of_getElem? (i := 33) rfl))) (Or.inl (hw _ (List.mem_of_getElem? (i := 37) rfl))) (by decide) (t := (.array (.object "com/example/chiffchaff/chiffchaff/OpenElements$Block"))) (t' := .int) (by decide) (by decide)))
      have F_top'24 := F_top'22.other W24 (Or.inr (slot_ne (Or.inl (hw _ (List.mem_of_getElem? (i := 35) rfl))) (Or.inl (hw _ (List.mem_of_getElem? (i := 37) rfl))) (by decide) (t := (.object "com/example/chiffchaff/chiffchaff/OpenElements$Block")) (t' := .int) (by decide) (by decide)))
      have F_at'24 := F_at'22.same W24
      have F_d'24 := F_d'22.other W24 (Or.inr (slot_ne (Or.inl (hw _ (List.mem_of_getElem? (i := 57) rfl))) (Or.inl (hw _ (List.mem_of_getElem? (i := 37) rfl))) (by decide) (t := .int) (t' := .int) (by decide) (by decide)))
      have V_bl'24 := V_bl'22.other W24 (Ne.symm (own_neEA E_a'22 (hw _ (List.mem_of_getElem? (i := 1) rfl)) (own_Arv V_bl'22)))
      have O_nm'24 := O_nm'22.wr W24
      have O_ur'24 := O_ur'22.wr W24
      have A_lv'24 := A_lv'22.wr W24
      have A_bd'24 := A_bd'22.wr W24
      have Fnm18'24 := Fnm18'22.other W24 (Or.inl (ne_exa E_b'22 E_a'22 (by decide)))
      have Fur18'24 := Fur18'22.other W24 (Or.inl (ne_exa E_b'22 E_a'22 (by decide)))
      have Flv18'24 := Flv18'22.other W24 (Or.inl (ne_exa E_b'22 E_a'22 (by decide)))
      have Fbd18'24 := Fbd18'22.other W24 (Or.inl (ne_exa E_b'22 E_a'22 (by decide)))
      have Fty18'24 := Fty18'22.other W24 (Or.inl (ne_exa E_b'22 E_a'22 (by decide)))
      have Fst18'24 := Fst18'22.other W24 (Or.inl (ne_exa E_b'22 E_a'22 (by decide)))
      have O_ty18'24 := O_ty18'22.wr W24
      have N24 := Fr.snoc X24 N22 g_a
      have Z24 : n0 ≤ h24.size := by rw [W24.size]; exact Z22
      show own_Fin p.tables e below _ (T24.setTop (mkF m 201 #[.val (.ref a), .val .null, .val (.ref aT), .val .null, .val (.int lev), .val (.long bou), .second, .val (.int (0 : Int32)), .val (.int d), .val (.ref b)] []))
      refine own_st (fun t k => XS.aloadN X24.here hx rfl (hb hby d11_201) rfl rfl k) ?_
      show own_Fin p.tables e below _ (T24.setTop (mkF m 202 #[.val (.ref a), .val .null, .val (.ref aT), .val .null, .val (.int lev), .val (.long bou), .second, .val (.int (0 : Int32)), .val (.int d), .val (.ref b)] [(.ref a)]))
      refine own_st (fun t k => XS.dup X24.here hx rfl (hb hby d11_202) rfl rfl k) ?_
      show own_Fin p.tables e below _ (T24.setTop (mkF m 203 #[.val (.ref a), .val .null, .val (.ref aT), .val .null, .val (.int lev), .val (.long bou), .second, .val (.int (0 : Int32)), .val (.int d), .val (.ref b)] [(.ref a), (.ref a)]))
      obtain ⟨T25, X25, e25, st25⟩ := getF X24 hx hZ hown (host := "") (Or.inl (hw _ (List.mem_of_getElem? (i := 56) rfl))) Via.refl e24 F_d'24 (g := (mkF m 203 #[.val (.ref a), .val .null, .val (.ref aT), .val .null, .val (.int lev), .val (.long bou), .second, .val (.int (0 : Int32)), .val (.int d), .val (.ref b)] [(.ref a), (.ref a)])) rfl rfl (hb hby d11_203)
      refine own_st st25 ?_
      show own_Fin p.tables e below _ (T25.setTop (mkF m 206 #[.val (.ref a), .val .null, .val (.ref aT), .val .null, .val (.int lev), .val (.long bou), .second, .val (.int (0 : Int32)), .val (.int d), .val (.ref b)] [(.int d), (.ref a)]))
      refine own_st (fun t k => XS.iconst X25.here hx rfl (hb hby d11_206) k) ?_
      show own_Fin p.tables e below _ (T25.setTop (mkF m 207 #[.val (.ref a), .val .null, .val (.ref aT), .val .null, .val (.int lev), .val (.long bou), .second, .val (.int (0 : Int32)), .val (.int d), .val (.ref b)] [(.int (1 : Int32)), (.int d), (.ref a)]))
      refine own_st (fun t k => XS.iadd X25.here hx rfl (hb hby d11_207) rfl k) ?_
      show own_Fin p.tables e below _ (T25.setTop (mkF m 208 #[.val (.ref a), .val .null, .val (.ref aT), .val .null, .val (.int lev), .val (.long bou), .second, .val (.int (0 : Int32)), .val (.int d), .val (.ref b)] [(.int (d + (1 : Int32))), (.ref a)]))
      obtain ⟨T26, h26, X26, e26, W26, st26⟩ := putF X25 hx hZ hown (host := "") (Or.inl (hw _ (List.mem_of_getElem? (i := 56) rfl))) Via.refl e25 F_d'24 E_a'24 (Or.inl (hw _ (List.mem_of_getElem? (i := 57) rfl))) (hw _ (List.mem_of_getElem? (i := 1) rfl)) (ty := .int) (by decide) rfl rfl (g := (mkF m 208 #[.val (.ref a), .val .null, .val (.ref aT), .val .null, .val (.int lev), .val (.long bou), .second, .val (.int (0 : Int32)), .val (.int d), .val (.ref b)] [(.int (d + (1 : Int32))), (.ref a)])) rfl rfl (hb hby d11_208)
      refine own_st st26 ?_
      have O0'26 := O0'24.wr W26 g_a
      have E_T'26 := E_T'24.wr W26
      have E_a'26 := E_a'24.wr W26
      have E_b'26 := E_b'24.wr W26
      have F_bl'26 := F_bl'24.other W26 (Or.inr (slot_ne (Or.inl (hw _ (List.mem_of_getElem? (i := 33) rfl))) (Or.inl (hw _ (List.mem_of_getElem? (i := 57) rfl))) (by decide) (t := (.array (.object "com/example/chiffchaff/chiffchaff/OpenElements$Block"))) (t' := .int) (by decide) (by decide)))
      have F_top'26 := F_top'24.other W26 (Or.inr (slot_ne (Or.inl (hw _ (List.mem_of_getElem? (i := 35) rfl))) (Or.inl (hw _ (List.mem_of_getElem? (i := 57) rfl))) (by decide) (t := (.object "com/example/chiffchaff/chiffchaff/OpenElements$Block")) (t' := .int) (by decide) (by decide)))
      have F_at'26 := F_at'24.other W26 (Or.inr (slot_ne (Or.inl (hw _ (List.mem_of_getElem? (i := 37) rfl))) (Or.inl (hw _ (List.mem_of_getElem? (i := 57) rfl))) (by decide) (t := .int) (t' := .int) (by decide) (by decide)))
      have F_d'26 := F_d'24.same W26
      have V_bl'26 := V_bl'24.other W26 (Ne.symm (own_neEA E_a'24 (hw _ (List.mem_of_getElem? (i := 1) rfl)) (own_Arv V_bl'24)))
      have O_nm'26 := O_nm'24.wr W26
      have O_ur'26 := O_ur'24.wr W26
      have A_lv'26 := A_lv'24.wr W26
      have A_bd'26 := A_bd'24.wr W26
      have Fnm18'26 := Fnm18'24.other W26 (Or.inl (ne_exa E_b'24 E_a'24 (by decide)))
      have Fur18'26 := Fur18'24.other W26 (Or.inl (ne_exa E_b'24 E_a'24 (by decide)))
      have Flv18'26 := Flv18'24.other W26 (Or.inl (ne_exa E_b'24 E_a'24 (by decide)))
      have Fbd18'26 := Fbd18'24.other W26 (Or.inl (ne_exa E_b'24 E_a'24 (by decide)))
      have Fty18'26 := Fty18'24.other W26 (Or.inl (ne_exa E_b'24 E_a'24 (by decide)))
      have Fst18'26 := Fst18'24.other W26 (Or.inl (ne_exa E_b'24 E_a'24 (by decide)))
      have O_ty18'26 := O_ty18'24.wr W26
      have N26 := Fr.snoc X26 N24 g_a
      have Z26 : n0 ≤ h26.size := by rw [W26.size]; exact Z24
      show own_Fin p.tables e below _ (T26.setTop (mkF m 211 #[.val (.ref a), .val .null, .val (.ref aT), .val .null, .val (.int lev), .val (.long bou), .second, .val (.int (0 : Int32)), .val (.int d), .val (.ref b)] []))
      obtain ⟨fs, hr, hrun, hended, hW, hsame⟩ := X26.leave (v := none) (fun _ => rfl)
      refine ⟨_, _, X26.returnOut hx Bd.returns (hb hby d11_211) hr, hrun, hended, _, _, rfl, ?_, ⟨_, rfl⟩, hW, hsame.mono (by decide) (by decide)⟩
      show Q11 Z a b bl nm ur lv bd kB .null d aT aU lev bou h0 n0 _ T26.heap _
      rw [e26]
      exact ⟨rfl, N26, O0'26, E_T'26, _, ⟨⟨E_a'26, E_b'26, F_bl'26, F_top'26, ((own_up hd).symm ▸ F_at'26), F_d'26, V_bl'26⟩, ⟨Fnm18'26, Fur18'26, Flv18'26, Fbd18'26, Fty18'26, Fst18'26⟩, ⟨O_nm'26, O_ur'26, A_lv'26, A_bd'26, Or.inr ⟨ty, rfl, O_ty18'26, g_ty⟩⟩, ⟨g_a, g_b, g_nm, g_ur, g_lv, g_bd⟩⟩⟩
  · have _ := g_a
    refine own_st (fun t k => XS.aloadN X0.here hx rfl (hb hby d11_0) rfl rfl k) ?_
    show own_Fin p.tables e below _ (s₁.setTop (mkF m 1 #[.val (.ref a), .val .null, .val (.ref aT), .val .null, .val (.int lev), .val (.long bou), .second, .unset, .unset, .unset] [(.ref a)]))
    obtain ⟨T27, X27, e27, st27⟩ := getF X0 hx hZ hown (host := "") (Or.inl (hw _ (List.mem_of_getElem? (i := 56) rfl))) Via.refl e0 F_d (g := (mkF m 1 #[.val (.ref a), .val .null, .val (.ref aT), .val .null, .val (.int lev), .val (.long bou), .second, .unset, .unset, .unset] [(.ref a)])) rfl rfl (hb hby d11_1)
    refine own_st st27 ?_
    show own_Fin p.tables e below _ (T27.setTop (mkF m 4 #[.val (.ref a), .val .null, .val (.ref aT), .val .null, .val (.int lev), .val (.long bou), .second, .unset, .unset, .unset] [(.int d)]))
    obtain ⟨_, _, ⟨T28, L28, k28, n28⟩, -, X28, ⟨Lc28, hQ28, l28, y28, z28⟩, st28⟩ := Jvm.LawKit.callS X27 hx (y := (⟨"com/example/chiffchaff/chiffchaff/OpenElements", "block", "(I)I"⟩ : MethodName)) hown (mvT hZ (hw _ (List.mem_of_getElem? (i := 88) rfl))) (mvT hZ (hw _ (List.mem_of_getElem? (i := 89) rfl))) (mvT hZ (hw _ (List.mem_of_getElem? (i := 2) rfl))) (mvT hZ (hw _ (List.mem_of_getElem? (i := 90) rfl))) (by decide) (backOf (W := 0) (rm12 l Z a0 hw [] d h0 n0 Z0 hd) hZ (hw _ (List.mem_of_getElem? (i := 90) rfl)) (hw _ (List.mem_of_getElem? (i := 2) rfl)) (by decide) (by decide)) (g := (mkF m 4 #[.val (.ref a), .val .null, .val (.ref aT), .val .null, .val (.int lev), .val (.long bou), .second, .unset, .unset, .unset] [(.int d)])) rfl (by rw [hml]; rfl) (argsL := [(.int d)]) (rest := []) (lenOf pd__I_I rfl) rfl (by show 2 * 0 + _ ≤ _; exact Nat.le_of_eq rfl) (hb hby d11_4) (fun _ _ => ⟨rfl, e27, (by decide : 0 + 0 ≤ _), (by decide : 0 + 0 ≤ _)⟩)
    dsimp only [Pt.U, Pt.locs, Pt.cells, Pt.slots] at X28 l28 y28 z28 st28 hQ28
    subst l28 y28 z28
    obtain ⟨rfl, N28, q28⟩ := hQ28
    refine own_st (st28) ?_
    have N28a := Fr.app N0 N28
    show own_Fin p.tables e below _ (T28.setTop (mkF m 7 #[.val (.ref a), .val .null, .val (.ref aT), .val .null, .val (.int lev), .val (.long bou), .second, .unset, .unset, .unset] [(.int (0 : Int32))]))
    refine own_st (fun t k => XS.istore X28.here hx rfl (hb hby d11_7) rfl (l' := #[.val (.ref a), .val .null, .val (.ref aT), .val .null, .val (.int lev), .val (.long bou), .second, .val (.int (0 : Int32)), .unset, .unset]) rfl k) ?_
    show own_Fin p.tables e below _ (T28.setTop (mkF m 9 #[.val (.ref a), .val .null, .val (.ref aT), .val .null, .val (.int lev), .val (.long bou), .second, .val (.int (0 : Int32)), .unset, .unset] []))
    refine own_st (fun t k => XS.aloadN X28.here hx rfl (hb hby d11_9) rfl rfl k) ?_
    show own_Fin p.tables e below _ (T28.setTop (mkF m 10 #[.val (.ref a), .val .null, .val (.ref aT), .val .null, .val (.int lev), .val (.long bou), .second, .val (.int (0 : Int32)), .unset, .unset] [(.ref a)]))
    obtain ⟨T29, X29, e29, st29⟩ := getF X28 hx hZ hown (host := "") (Or.inl (hw _ (List.mem_of_getElem? (i := 56) rfl))) Via.refl q28 F_d (g := (mkF m 10 #[.val (.ref a), .val .null, .val (.ref aT), .val .null, .val (.int lev), .val (.long bou), .second, .val (.int (0 : Int32)), .unset, .unset] [(.ref a)])) rfl rfl (hb hby d11_10)
    refine own_st st29 ?_
    show own_Fin p.tables e below _ (T29.setTop (mkF m 13 #[.val (.ref a), .val .null, .val (.ref aT), .val .null, .val (.int lev), .val (.long bou), .second, .val (.int (0 : Int32)), .unset, .unset] [(.int d)]))
    obtain ⟨_, _, ⟨T30, L30, k30, n30⟩, -, X30, ⟨Lc30, hQ30, l30, y30, z30⟩, st30⟩ := Jvm.LawKit.callS X29 hx (y := (⟨"com/example/chiffchaff/chiffchaff/OpenElements", "slot", "(I)I"⟩ : MethodName)) hown (mvT hZ (hw _ (List.mem_of_getElem? (i := 91) rfl))) (mvT hZ (hw _ (List.mem_of_getElem? (i := 92) rfl))) (mvT hZ (hw _ (List.mem_of_getElem? (i := 2) rfl))) (mvT hZ (hw _ (List.mem_of_getElem? (i := 93) rfl))) (by decide) (backOf (W := 0) (rm13 l Z a0 hw [] d h0 n0 Z0 hd) hZ (hw _ (List.mem_of_getElem? (i := 93) rfl)) (hw _ (List.mem_of_getElem? (i := 2) rfl)) (by decide) (by decide)) (g := (mkF m 13 #[.val (.ref a), .val .null, .val (.ref aT), .val .null, .val (.int lev), .val (.long bou), .second, .val (.int (0 : Int32)), .unset, .unset] [(.int d)])) rfl (by rw [hml]; rfl) (argsL := [(.int d)]) (rest := []) (lenOf pd__I_I rfl) rfl (by show 2 * 0 + _ ≤ _; exact Nat.le_of_eq rfl) (hb hby d11_13) (fun _ _ => ⟨rfl, e29, (by decide : 0 + 0 ≤ _), (by decide : 0 + 0 ≤ _)⟩)
    dsimp only [Pt.U, Pt.locs, Pt.cells, Pt.slots] at X30 l30 y30 z30 st30 hQ30
    subst l30 y30 z30
    obtain ⟨rfl, N30, q30⟩ := hQ30
    refine own_st (st30) ?_
    have N30a := Fr.app N28a N30
    show own_Fin p.tables e below _ (T30.setTop (mkF m 16 #[.val (.ref a), .val .null, .val (.ref aT), .val .null, .val (.int lev), .val (.long bou), .second, .val (.int (0 : Int32)), .unset, .unset] [(.int d)]))
    refine own_st (fun t k => XS.istore X30.here hx rfl (hb hby d11_16) rfl (l' := #[.val (.ref a), .val .null, .val (.ref aT), .val .null, .val (.int lev), .val (.long bou), .second, .val (.int (0 : Int32)), .val (.int d), .unset]) rfl k) ?_
    show own_Fin p.tables e below _ (T30.setTop (mkF m 18 #[.val (.ref a), .val .null, .val (.ref aT), .val .null, .val (.int lev), .val (.long bou), .second, .val (.int (0 : Int32)), .val (.int d), .unset] []))
    refine own_st (fun t k => XS.iload X30.here hx rfl (hb hby d11_18) rfl k) ?_
    show own_Fin p.tables e below _ (T30.setTop (mkF m 20 #[.val (.ref a), .val .null, .val (.ref aT), .val .null, .val (.int lev), .val (.long bou), .second, .val (.int (0 : Int32)), .val (.int d), .unset] [(.int (0 : Int32))]))
    refine own_st (fun t k => XS.aloadN X30.here hx rfl (hb hby d11_20) rfl rfl k) ?_
    show own_Fin p.tables e below _ (T30.setTop (mkF m 21 #[.val (.ref a), .val .null, .val (.ref aT), .val .null, .val (.int lev), .val (.long bou), .second, .val (.int (0 : Int32)), .val (.int d), .unset] [(.ref a), (.int (0 : Int32))]))
    obtain ⟨T31, X31, e31, st31⟩ := getF X30 hx hZ hown (host := "") (Or.inl (hw _ (List.mem_of_getElem? (i := 32) rfl))) Via.refl q30 F_bl (g := (mkF m 21 #[.val (.ref a), .val .null, .val (.ref aT), .val .null, .val (.int lev), .val (.long bou), .second, .val (.int (0 : Int32)), .val (.int d), .unset] [(.ref a), (.int (0 : Int32))])) rfl rfl (hb hby d11_21)
    refine own_st st31 ?_
    show own_Fin p.tables e below _ (T31.setTop (mkF m 24 #[.val (.ref a), .val .null, .val (.ref aT), .val .null, .val (.int lev), .val (.long bou), .second, .val (.int (0 : Int32)), .val (.int d), .unset] [(.ref bl), (.int (0 : Int32))]))
    refine own_st (fun t k => own_alen X31 hx hZ e31 V_bl (g := (mkF m 24 #[.val (.ref a), .val .null, .val (.ref aT), .val .null, .val (.int lev), .val (.long bou), .second, .val (.int (0 : Int32)), .val (.int d), .unset] [(.ref bl), (.int (0 : Int32))])) rfl rfl (hb hby d11_24) t k) ?_
    show own_Fin p.tables e below _ (T31.setTop (mkF m 25 #[.val (.ref a), .val .null, .val (.ref aT), .val .null, .val (.int lev), .val (.long bou), .second, .val (.int (0 : Int32)), .val (.int d), .unset] [(.int (1 : Int32)), (.int (0 : Int32))]))
    refine own_st (fun t k => XS.icmpYes X31.here hx rfl (pc0 := 25) (pc' := 46) rfl (hb hby d11_25) rfl (XT.ii_ne_t (by decide)) (by decide) (by decide) k) ?_
    show own_Fin p.tables e below _ (T31.setTop (mkF m 46 #[.val (.ref a), .val .null, .val (.ref aT), .val .null, .val (.int lev), .val (.long bou), .second, .val (.int (0 : Int32)), .val (.int d), .unset] []))
    refine own_st (fun t k => XS.aloadN X31.here hx rfl (hb hby d11_46) rfl rfl k) ?_
    show own_Fin p.tables e below _ (T31.setTop (mkF m 47 #[.val (.ref a), .val .null, .val (.ref aT), .val .null, .val (.int lev), .val (.long bou), .second, .val (.int (0 : Int32)), .val (.int d), .unset] [(.ref a)]))
    obtain ⟨T32, X32, e32, st32⟩ := getF X31 hx hZ hown (host := "") (Or.inl (hw _ (List.mem_of_getElem? (i := 32) rfl))) Via.refl e31 F_bl (g := (mkF m 47 #[.val (.ref a), .val .null, .val (.ref aT), .val .null, .val (.int lev), .val (.long bou), .second, .val (.int (0 : Int32)), .val (.int d), .unset] [(.ref a)])) rfl rfl (hb hby d11_47)
    refine own_st st32 ?_
    show own_Fin p.tables e below _ (T32.setTop (mkF m 50 #[.val (.ref a), .val .null, .val (.ref aT), .val .null, .val (.int lev), .val (.long bou), .second, .val (.int (0 : Int32)), .val (.int d), .unset] [(.ref bl)]))
    refine own_st (fun t k => XS.iload X32.here hx rfl (hb hby d11_50) rfl k) ?_
    show own_Fin p.tables e below _ (T32.setTop (mkF m 52 #[.val (.ref a), .val .null, .val (.ref aT), .val .null, .val (.int lev), .val (.long bou), .second, .val (.int (0 : Int32)), .val (.int d), .unset] [(.int (0 : Int32)), (.ref bl)]))
    refine own_st (fun t k => own_aald X32 hx hZ e32 V_bl rfl (j := (0 : Int32)) ⟨by decide, by decide⟩ (v := (.ref b)) rfl (g := (mkF m 52 #[.val (.ref a), .val .null, .val (.ref aT), .val .null, .val (.int lev), .val (.long bou), .second, .val (.int (0 : Int32)), .val (.int d), .unset] [(.int (0 : Int32)), (.ref bl)])) rfl rfl (hb hby d11_52) t k) ?_
    show own_Fin p.tables e below _ (T32.setTop (mkF m 53 #[.val (.ref a), .val .null, .val (.ref aT), .val .null, .val (.int lev), .val (.long bou), .second, .val (.int (0 : Int32)), .val (.int d), .unset] [(.ref b)]))
    refine own_st (fun t k => XS.ifnonnullYes X32.here hx rfl (pc0 := 53) (pc' := 76) rfl (hb hby d11_53) rfl (by decide) (by decide) k) ?_
    show own_Fin p.tables e below _ (T32.setTop (mkF m 76 #[.val (.ref a), .val .null, .val (.ref aT), .val .null, .val (.int lev), .val (.long bou), .second, .val (.int (0 : Int32)), .val (.int d), .unset] []))
    refine own_st (fun t k => XS.iload X32.here hx rfl (hb hby d11_76) rfl k) ?_
    show own_Fin p.tables e below _ (T32.setTop (mkF m 78 #[.val (.ref a), .val .null, .val (.ref aT), .val .null, .val (.int lev), .val (.long bou), .second, .val (.int (0 : Int32)), .val (.int d), .unset] [(.int d)]))
    refine own_st (fun t k => XS.aloadN X32.here hx rfl (hb hby d11_78) rfl rfl k) ?_
    show own_Fin p.tables e below _ (T32.setTop (mkF m 79 #[.val (.ref a), .val .null, .val (.ref aT), .val .null, .val (.int lev), .val (.long bou), .second, .val (.int (0 : Int32)), .val (.int d), .unset] [(.ref a), (.int d)]))
    obtain ⟨T33, X33, e33, st33⟩ := getF X32 hx hZ hown (host := "") (Or.inl (hw _ (List.mem_of_getElem? (i := 32) rfl))) Via.refl e32 F_bl (g := (mkF m 79 #[.val (.ref a), .val .null, .val (.ref aT), .val .null, .val (.int lev), .val (.long bou), .second, .val (.int (0 : Int32)), .val (.int d), .unset] [(.ref a), (.int d)])) rfl rfl (hb hby d11_79)
    refine own_st st33 ?_
    show own_Fin p.tables e below _ (T33.setTop (mkF m 82 #[.val (.ref a), .val .null, .val (.ref aT), .val .null, .val (.int lev), .val (.long bou), .second, .val (.int (0 : Int32)), .val (.int d), .unset] [(.ref bl), (.int d)]))
    refine own_st (fun t k => XS.iload X33.here hx rfl (hb hby d11_82) rfl k) ?_
    show own_Fin p.tables e below _ (T33.setTop (mkF m 84 #[.val (.ref a), .val .null, .val (.ref aT), .val .null, .val (.int lev), .val (.long bou), .second, .val (.int (0 : Int32)), .val (.int d), .unset] [(.int (0 : Int32)), (.ref bl), (.int d)]))
    refine own_st (fun t k => own_aald X33 hx hZ e33 V_bl rfl (j := (0 : Int32)) ⟨by decide, by decide⟩ (v := (.ref b)) rfl (g := (mkF m 84 #[.val (.ref a), .val .null, .val (.ref aT), .val .null, .val (.int lev), .val (.long bou), .second, .val (.int (0 : Int32)), .val (.int d), .unset] [(.int (0 : Int32)), (.ref bl), (.int d)])) rfl rfl (hb hby d11_84) t k) ?_
    show own_Fin p.tables e below _ (T33.setTop (mkF m 85 #[.val (.ref a), .val .null, .val (.ref aT), .val .null, .val (.int lev), .val (.long bou), .second, .val (.int (0 : Int32)), .val (.int d), .unset] [(.ref b), (.int d)]))
    refine own_st (fun t k => own_getR X33 hx hZ hown (hw _ (List.mem_of_getElem? (i := 43) rfl)) e33 F_nm (g := (mkF m 85 #[.val (.ref a), .val .null, .val (.ref aT), .val .null, .val (.int lev), .val (.long bou), .second, .val (.int (0 : Int32)), .val (.int d), .unset] [(.ref b), (.int d)])) rfl rfl (hb hby d11_85) t k) ?_
    show own_Fin p.tables e below _ (T33.setTop (mkF m 88 #[.val (.ref a), .val .null, .val (.ref aT), .val .null, .val (.int lev), .val (.long bou), .second, .val (.int (0 : Int32)), .val (.int d), .unset] [(.ref nm), (.int d)]))
    refine own_st (fun t k => own_len1 X33 hx hZ e33 (own_O.A O_nm) (g := (mkF m 88 #[.val (.ref a), .val .null, .val (.ref aT), .val .null, .val (.int lev), .val (.long bou), .second, .val (.int (0 : Int32)), .val (.int d), .unset] [(.ref nm), (.int d)])) rfl rfl (hb hby d11_88) t k) ?_
    show own_Fin p.tables e below _ (T33.setTop (mkF m 89 #[.val (.ref a), .val .null, .val (.ref aT), .val .null, .val (.int lev), .val (.long bou), .second, .val (.int (0 : Int32)), .val (.int d), .unset] [(.int (16 : Int32)), (.int d)]))
    refine own_st (fun t k => XS.icmpYes X33.here hx rfl (pc0 := 89) (pc' := 117) rfl (hb hby d11_89) rfl (XT.ii_ne_t (own_16 hd)) (by decide) (by decide) k) ?_
    show own_Fin p.tables e below _ (T33.setTop (mkF m 117 #[.val (.ref a), .val .null, .val (.ref aT), .val .null, .val (.int lev), .val (.long bou), .second, .val (.int (0 : Int32)), .val (.int d), .unset] []))
    refine own_st (fun t k => XS.aloadN X33.here hx rfl (hb hby d11_117) rfl rfl k) ?_
    show own_Fin p.tables e below _ (T33.setTop (mkF m 118 #[.val (.ref a), .val .null, .val (.ref aT), .val .null, .val (.int lev), .val (.long bou), .second, .val (.int (0 : Int32)), .val (.int d), .unset] [(.ref a)]))
    obtain ⟨T34, X34, e34, st34⟩ := getF X33 hx hZ hown (host := "") (Or.inl (hw _ (List.mem_of_getElem? (i := 32) rfl))) Via.refl e33 F_bl (g := (mkF m 118 #[.val (.ref a), .val .null, .val (.ref aT), .val .null, .val (.int lev), .val (.long bou), .second, .val (.int (0 : Int32)), .val (.int d), .unset] [(.ref a)])) rfl rfl (hb hby d11_118)
    refine own_st st34 ?_
    show own_Fin p.tables e below _ (T34.setTop (mkF m 121 #[.val (.ref a), .val .null, .val (.ref aT), .val .null, .val (.int lev), .val (.long bou), .second, .val (.int (0 : Int32)), .val (.int d), .unset] [(.ref bl)]))
    refine own_st (fun t k => XS.iload X34.here hx rfl (hb hby d11_121) rfl k) ?_
    show own_Fin p.tables e below _ (T34.setTop (mkF m 123 #[.val (.ref a), .val .null, .val (.ref aT), .val .null, .val (.int lev), .val (.long bou), .second, .val (.int (0 : Int32)), .val (.int d), .unset] [(.int (0 : Int32)), (.ref bl)]))
    refine own_st (fun t k => own_aald X34 hx hZ e34 V_bl rfl (j := (0 : Int32)) ⟨by decide, by decide⟩ (v := (.ref b)) rfl (g := (mkF m 123 #[.val (.ref a), .val .null, .val (.ref aT), .val .null, .val (.int lev), .val (.long bou), .second, .val (.int (0 : Int32)), .val (.int d), .unset] [(.int (0 : Int32)), (.ref bl)])) rfl rfl (hb hby d11_123) t k) ?_
    show own_Fin p.tables e below _ (T34.setTop (mkF m 124 #[.val (.ref a), .val .null, .val (.ref aT), .val .null, .val (.int lev), .val (.long bou), .second, .val (.int (0 : Int32)), .val (.int d), .unset] [(.ref b)]))
    refine own_st (fun t k => XS.astore X34.here hx rfl (hb hby d11_124) rfl rfl (l' := #[.val (.ref a), .val .null, .val (.ref aT), .val .null, .val (.int lev), .val (.long bou), .second, .val (.int (0 : Int32)), .val (.int d), .val (.ref b)]) rfl k) ?_
    show own_Fin p.tables e below _ (T34.setTop (mkF m 126 #[.val (.ref a), .val .null, .val (.ref aT), .val .null, .val (.int lev), .val (.long bou), .second, .val (.int (0 : Int32)), .val (.int d), .val (.ref b)] []))
    refine own_st (fun t k => XS.aload X34.here hx rfl (hb hby d11_126) rfl rfl k) ?_
    show own_Fin p.tables e below _ (T34.setTop (mkF m 128 #[.val (.ref a), .val .null, .val (.ref aT), .val .null, .val (.int lev), .val (.long bou), .second, .val (.int (0 : Int32)), .val (.int d), .val (.ref b)] [(.ref b)]))
    refine own_st (fun t k => own_getR X34 hx hZ hown (hw _ (List.mem_of_getElem? (i := 43) rfl)) e34 F_nm (g := (mkF m 128 #[.val (.ref a), .val .null, .val (.ref aT), .val .null, .val (.int lev), .val (.long bou), .second, .val (.int (0 : Int32)), .val (.int d), .val (.ref b)] [(.ref b)])) rfl rfl (hb hby d11_128) t k) ?_
    show own_Fin p.tables e below _ (T34.setTop (mkF m 131 #[.val (.ref a), .val .null, .val (.ref aT), .val .null, .val (.int lev), .val (.long bou), .second, .val (.int (0 : Int32)), .val (.int d), .val (.ref b)] [(.ref nm)]))
    refine own_st (fun t k => XS.iload X34.here hx rfl (hb hby d11_131) rfl k) ?_
    show own_Fin p.tables e below _ (T34.setTop (mkF m 133 #[.val (.ref a), .val .null, .val (.ref aT), .val .null, .val (.int lev), .val (.long bou), .second, .val (.int (0 : Int32)), .val (.int d), .val (.ref b)] [(.int d), (.ref nm)]))
    refine own_st (fun t k => XS.aloadN X34.here hx rfl (hb hby d11_133) rfl rfl k) ?_
    show own_Fin p.tables e below _ (T34.setTop (mkF m 134 #[.val (.ref a), .val .null, .val (.ref aT), .val .null, .val (.int lev), .val (.long bou), .second, .val (.int (0 : Int32)), .val (.int d), .val (.ref b)] [.null, (.int d), (.ref nm)]))
    obtain ⟨T35, h35, X35, e35, W35, st35⟩ := own_stR X34 hx hZ e34 O_nm (j := d) (own_in3 hd) (Or.inl rfl) (g := (mkF m 134 #[.val (.ref a), .val .null, .val (.ref aT), .val .null, .val (.int lev), .val (.long bou), .second, .val (.int (0 : Int32)), .val (.int d), .val (.ref b)] [.null, (.int d), (.ref nm)])) rfl rfl (hb hby d11_134)
    refine own_st st35 ?_
    have O0'35 := O0.wr W35 g_nm
    have E_T'35 := E_T.wr W35
    have E_a'35 := E_a.wr W35
    have E_b'35 := E_b.wr W35
    have F_bl'35 := F_bl.other W35 (Or.inl (own_neEA E_a (hw _ (List.mem_of_getElem? (i := 1) rfl)) (own_O.A O_nm)))
    have F_top'35 := F_top.other W35 (Or.inl (own_neEA E_a (hw _ (List.mem_of_getElem? (i := 1) rfl)) (own_O.A O_nm)))
    have F_at'35 := F_at.other W35 (Or.inl (own_neEA E_a (hw _ (List.mem_of_getElem? (i := 1) rfl)) (own_O.A O_nm)))
    have F_d'35 := F_d.other W35 (Or.inl (own_neEA E_a (hw _ (List.mem_of_getElem? (i := 1) rfl)) (own_O.A O_nm)))
    have V_bl'35 := V_bl.other W35 (own_neAA (own_Arv V_bl) (own_O.A O_nm) (by decide))
    have F_nm'35 := F_nm.other W35 (Or.inl (own_neEA E_b (hw _ (List.mem_of_getElem? (i := 11) rfl)) (own_O.A O_nm)))
    have F_ur'35 := F_ur.other W35 (Or.inl (own_neEA E_b (hw _ (List.mem_of_getElem? (i := 11) rfl)) (own_O.A O_nm)))
    have F_lv'35 := F_lv.other W35 (Or.inl (own_neEA E_b (hw _ (List.mem_of_getElem? (i := 11) rfl)) (own_O.A O_nm)))
    have F_bd'35 := F_bd.other W35 (Or.inl (own_neEA E_b (hw _ (List.mem_of_getElem? (i := 11) rfl)) (own_O.A O_nm)))
    have F_ty'35 := F_ty.other W35 (Or.inl (own_neEA E_b (hw _ (List.mem_of_getElem? (i := 11) rfl)) (own_O.A O_nm)))
    have F_st'35 := F_st.other W35 (Or.inl (own_neEA E_b (hw _ (List.mem_of_getElem? (i := 11) rfl)) (own_O.A O_nm)))
    have O_nm'35 := O_nm.wr W35
    have O_ur'35 := O_ur.wr W35
    have A_lv'35 := A_lv.wr W35
    have A_bd'35 := A_bd.wr W35
    have O_ty'35 := O_ty.wr W35
    have N35 := Fr.snoc X35 N30a g_nm
    have Z35 : n0 ≤ h35.size := by rw [W35.size]; exact Z0
    show own_Fin p.tables e below _ (T35.setTop (mkF m 135 #[.val (.ref a), .val .null, .val (.ref aT), .val .null, .val (.int lev), .val (.long bou), .second, .val (.int (0 : Int32)), .val (.int d), .val (.ref b)] []))
    refine own_st (fun t k => XS.aloadN X35.here hx rfl (hb hby d11_135) rfl rfl k) ?_
    show own_Fin p.tables e below _ (T35.setTop (mkF m 136 #[.val (.ref a), .val .null, .val (.ref aT), .val .null, .val (.int lev), .val (.long bou), .second, .val (.int (0 : Int32)), .val (.int d), .val (.ref b)] [(.ref aT)]))
    obtain ⟨T36, X36, e36, st36⟩ := getS (host := "") X35 hx hZ hown (hw _ (List.mem_of_getElem? (i := 94) rfl)) Via.refl e35 (Sta.ext O0'35.2 S_U) (g := (mkF m 136 #[.val (.ref a), .val .null, .val (.ref aT), .val .null, .val (.int lev), .val (.long bou), .second, .val (.int (0 : Int32)), .val (.int d), .val (.ref b)] [(.ref aT)])) rfl (hb hby d11_136)
    refine own_st st36 ?_
    show own_Fin p.tables e below _ (T36.setTop (mkF m 139 #[.val (.ref a), .val .null, .val (.ref aT), .val .null, .val (.int lev), .val (.long bou), .second, .val (.int (0 : Int32)), .val (.int d), .val (.ref b)] [(.ref aU), (.ref aT)]))
    rcases Decidable.em (((.ref aT) : Value) = (.ref aU)) with cu | cu
    · have _ := cu
      refine own_st (fun t k => XT.acmpYes X36.here hx rfl (pc0 := 139) (pc' := 151) rfl (hb hby d11_139) rfl rfl rfl (XT.aa_eq_t cu) (by decide) (by decide) k) ?_
      show own_Fin p.tables e below _ (T36.setTop (mkF m 151 #[.val (.ref a), .val .null, .val (.ref aT), .val .null, .val (.int lev), .val (.long bou), .second, .val (.int (0 : Int32)), .val (.int d), .val (.ref b)] []))
      refine own_st (fun t k => XS.aload X36.here hx rfl (hb hby d11_151) rfl rfl k) ?_
      show own_Fin p.tables e below _ (T36.setTop (mkF m 153 #[.val (.ref a), .val .null, .val (.ref aT), .val .null, .val (.int lev), .val (.long bou), .second, .val (.int (0 : Int32)), .val (.int d), .val (.ref b)] [(.ref b)]))
      refine own_st (fun t k => own_getR X36 hx hZ hown (hw _ (List.mem_of_getElem? (i := 102) rfl)) e36 F_ur'35 (g := (mkF m 153 #[.val (.ref a), .val .null, .val (.ref aT), .val .null, .val (.int lev), .val (.long bou), .second, .val (.int (0 : Int32)), .val (.int d), .val (.ref b)] [(.ref b)])) rfl rfl (hb hby d11_153) t k) ?_
      show own_Fin p.tables e below _ (T36.setTop (mkF m 156 #[.val (.ref a), .val .null, .val (.ref aT), .val .null, .val (.int lev), .val (.long bou), .second, .val (.int (0 : Int32)), .val (.int d), .val (.ref b)] [(.ref ur)]))
      refine own_st (fun t k => XS.iload X36.here hx rfl (hb hby d11_156) rfl k) ?_
      show own_Fin p.tables e below _ (T36.setTop (mkF m 158 #[.val (.ref a), .val .null, .val (.ref aT), .val .null, .val (.int lev), .val (.long bou), .second, .val (.int (0 : Int32)), .val (.int d), .val (.ref b)] [(.int d), (.ref ur)]))
      refine own_st (fun t k => XS.aloadN X36.here hx rfl (hb hby d11_158) rfl rfl k) ?_
      show own_Fin p.tables e below _ (T36.setTop (mkF m 159 #[.val (.ref a), .val .null, .val (.ref aT), .val .null, .val (.int lev), .val (.long bou), .second, .val (.int (0 : Int32)), .val (.int d), .val (.ref b)] [.null, (.int d), (.ref ur)]))
      obtain ⟨T37, h37, X37, e37, W37, st37⟩ := own_stR X36 hx hZ e36 O_ur'35 (j := d) (own_in3 hd) (Or.inl rfl) (g := (mkF m 159 #[.val (.ref a), .val .null, .val (.ref aT), .val .null, .val (.int lev), .val (.long bou), .second, .val (.int (0 : Int32)), .val (.int d), .val (.ref b)] [.null, (.int d), (.ref ur)])) rfl rfl (hb hby d11_159)
      refine own_st st37 ?_
      have O0'37 := O0'35.wr W37 g_ur
      have E_T'37 := E_T'35.wr W37
      have E_a'37 := E_a'35.wr W37
      have E_b'37 := E_b'35.wr W37
      have F_bl'37 := F_bl'35.other W37 (Or.inl (own_neEA E_a'35 (hw _ (List.mem_of_getElem? (i := 1) rfl)) (own_O.A O_ur'35)))
      have F_top'37 := F_top'35.other W37 (Or.inl (own_neEA E_a'35 (hw _ (List.mem_of_getElem? (i := 1) rfl)) (own_O.A O_ur'35)))
      have F_at'37 := F_at'35.other W37 (Or.inl (own_neEA E_a'35 (hw _ (List.mem_of_getElem? (i := 1) rfl)) (own_O.A O_ur'35)))
      have F_d'37 := F_d'35.other W37 (Or.inl (own_neEA E_a'35 (hw _ (List.mem_of_getElem? (i := 1) rfl)) (own_O.A O_ur'35)))
      have V_bl'37 := V_bl'35.other W37 (own_neAA (own_Arv V_bl'35) (own_O.A O_ur'35) (by decide))
      have F_nm'37 := F_nm'35.other W37 (Or.inl (own_neEA E_b'35 (hw _ (List.mem_of_getElem? (i := 11) rfl)) (own_O.A O_ur'35)))
      have F_ur'37 := F_ur'35.other W37 (Or.inl (own_neEA E_b'35 (hw _ (List.mem_of_getElem? (i := 11) rfl)) (own_O.A O_ur'35)))
      have F_lv'37 := F_lv'35.other W37 (Or.inl (own_neEA E_b'35 (hw _ (List.mem_of_getElem? (i := 11) rfl)) (own_O.A O_ur'35)))
      have F_bd'37 := F_bd'35.other W37 (Or.inl (own_neEA E_b'35 (hw _ (List.mem_of_getElem? (i := 11) rfl)) (own_O.A O_ur'35)))
      have F_ty'37 := F_ty'35.other W37 (Or.inl (own_neEA E_b'35 (hw _ (List.mem_of_getElem? (i := 11) rfl)) (own_O.A O_ur'35)))
      have F_st'37 := F_st'35.other W37 (Or.inl (own_neEA E_b'35 (hw _ (List.mem_of_getElem? (i := 11) rfl)) (own_O.A O_ur'35)))
      have O_nm'37 := O_nm'35.wr W37
      have O_ur'37 := O_ur'35.wr W37
      have A_lv'37 := A_lv'35.wr W37
      have A_bd'37 := A_bd'35.wr W37
      have O_ty'37 := O_ty'35.wr W37
      have N37 := Fr.snoc X37 N35 g_ur
      have Z37 : n0 ≤ h37.size := by rw [W37.size]; exact Z35
      show own_Fin p.tables e below _ (T37.setTop (mkF m 160 #[.val (.ref a), .val .null, .val (.ref aT), .val .null, .val (.int lev), .val (.long bou), .second, .val (.int (0 : Int32)), .val (.int d), .val (.ref b)] []))
      refine own_st (fun t k => XS.aload X37.here hx rfl (hb hby d11_160) rfl rfl k) ?_
      show own_Fin p.tables e below _ (T37.setTop (mkF m 162 #[.val (.ref a), .val .null, .val (.ref aT), .val .null, .val (.int lev), .val (.long bou), .second, .val (.int (0 : Int32)), .val (.int d), .val (.ref b)] [(.ref b)]))
      refine own_st (fun t k => own_getR X37 hx hZ hown (hw _ (List.mem_of_getElem? (i := 103) rfl)) e37 F_lv'37 (g := (mkF m 162 #[.val (.ref a), .val .null, .val (.ref aT), .val .null, .val (.int lev), .val (.long bou), .second, .val (.int (0 : Int32)), .val (.int d), .val (.ref b)] [(.ref b)])) rfl rfl (hb hby d11_162) t k) ?_
      show own_Fin p.tables e below _ (T37.setTop (mkF m 165 #[.val (.ref a), .val .null, .val (.ref aT), .val .null, .val (.int lev), .val (.long bou), .second, .val (.int (0 : Int32)), .val (.int d), .val (.ref b)] [(.ref lv)]))
      refine own_st (fun t k => XS.iload X37.here hx rfl (hb hby d11_165) rfl k) ?_
      show own_Fin p.tables e below _ (T37.setTop (mkF m 167 #[.val (.ref a), .val .null, .val (.ref aT), .val .null, .val (.int lev), .val (.long bou), .second, .val (.int (0 : Int32)), .val (.int d), .val (.ref b)] [(.int d), (.ref lv)]))
      refine own_st (fun t k => XS.iload X37.here hx rfl (hb hby d11_167) rfl k) ?_
      show own_Fin p.tables e below _ (T37.setTop (mkF m 169 #[.val (.ref a), .val .null, .val (.ref aT), .val .null, .val (.int lev), .val (.long bou), .second, .val (.int (0 : Int32)), .val (.int d), .val (.ref b)] [(.int lev), (.int d), (.ref lv)]))
      obtain ⟨T38, h38, X38, e38, W38, st38⟩ := own_stI X37 hx hZ e37 A_lv'37 (j := d) (own_in3 hd) (g := (mkF m 169 #[.val (.ref a), .val .null, .val (.ref aT), .val .null, .val (.int lev), .val (.long bou), .second, .val (.int (0 : Int32)), .val (.int d), .val (.ref b)] [(.int lev), (.int d), (.ref lv)])) rfl rfl (hb hby d11_169)
      refine own_st st38 ?_
      have O0'38 := O0'37.wr W38 g_lv
      have E_T'38 := E_T'37.wr W38
      have E_a'38 := E_a'37.wr W38
      have E_b'38 := E_b'37.wr W38
      have F_bl'38 := F_bl'37.other W38 (Or.inl (own_neEA E_a'37 (hw _ (List.mem_of_getElem? (i := 1) rfl)) A_lv'37))
      have F_top'38 := F_top'37.other W38 (Or.inl (own_neEA E_a'37 (hw _ (List.mem_of_getElem? (i := 1) rfl)) A_lv'37))
      have F_at'38 := F_at'37.other W38 (Or.inl (own_neEA E_a'37 (hw _ (List.mem_of_getElem? (i := 1) rfl)) A_lv'37))
      have F_d'38 := F_d'37.other W38 (Or.inl (own_neEA E_a'37 (hw _ (List.mem_of_getElem? (i := 1) rfl)) A_lv'37))
      have V_bl'38 := V_bl'37.other W38 (own_neAA (own_Arv V_bl'37) A_lv'37 (by decide))
      have F_nm'38 := F_nm'37.other W38 (Or.inl (own_neEA E_b'37 (hw _ (List.mem_of_getElem? (i := 11) rfl)) A_lv'37))
      have F_ur'38 := F_ur'37.other W38 (Or.inl (own_neEA E_b'37 (hw _ (List.mem_of_getElem? (i := 11) rfl)) A_lv'37))
      have F_lv'38 := F_lv'37.other W38 (Or.inl (own_neEA E_b'37 (hw _ (List.mem_of_getElem? (i := 11) rfl)) A_lv'37))
      have F_bd'38 := F_bd'37.other W38 (Or.inl (own_neEA E_b'37 (hw _ (List.mem_of_getElem? (i := 11) rfl)) A_lv'37))
      have F_ty'38 := F_ty'37.other W38 (Or.inl (own_neEA E_b'37 (hw _ (List.mem_of_getElem? (i := 11) rfl)) A_lv'37))
      have F_st'38 := F_st'37.other W38 (Or.inl (own_neEA E_b'37 (hw _ (List.mem_of_getElem? (i := 11) rfl)) A_lv'37))
      have O_nm'38 := O_nm'37.wr W38
      have O_ur'38 := O_ur'37.wr W38
      have A_lv'38 := A_lv'37.wr W38
      have A_bd'38 := A_bd'37.wr W38
      have O_ty'38 := O_ty'37.wr W38
      have N38 := Fr.snoc X38 N37 g_lv
      have Z38 : n0 ≤ h38.size := by rw [W38.size]; exact Z37
      show own_Fin p.tables e below _ (T38.setTop (mkF m 170 #[.val (.ref a), .val .null, .val (.ref aT), .val .null, .val (.int lev), .val (.long bou), .second, .val (.int (0 : Int32)), .val (.int d), .val (.ref b)] []))
      refine own_st (fun t k => XS.aload X38.here hx rfl (hb hby d11_170) rfl rfl k) ?_
      show own_Fin p.tables e below _ (T38.setTop (mkF m 172 #[.val (.ref a), .val .null, .val (.ref aT), .val .null, .val (.int lev), .val (.long bou), .second, .val (.int (0 : Int32)), .val (.int d), .val (.ref b)] [(.ref b)]))
      refine own_st (fun t k => own_getR X38 hx hZ hown (hw _ (List.mem_of_getElem? (i := 104) rfl)) e38 F_bd'38 (g := (mkF m 172 #[.val (.ref a), .val .null, .val (.ref aT), .val .null, .val (.int lev), .val (.long bou), .second, .val (.int (0 : Int32)), .val (.int d), .val (.ref b)] [(.ref b)])) rfl rfl (hb hby d11_172) t k) ?_
      show own_Fin p.tables e below _ (T38.setTop (mkF m 175 #[.val (.ref a), .val .null, .val (.ref aT), .val .null, .val (.int lev), .val (.long bou), .second, .val (.int (0 : Int32)), .val (.int d), .val (.ref b)] [(.ref bd)]))
      refine own_st (fun t k => XS.iload X38.here hx rfl (hb hby d11_175) rfl k) ?_
      show own_Fin p.tables e below _ (T38.setTop (mkF m 177 #[.val (.ref a), .val .null, .val (.ref aT), .val .null, .val (.int lev), .val (.long bou), .second, .val (.int (0 : Int32)), .val (.int d), .val (.ref b)] [(.int d), (.ref bd)]))
      refine own_st (fun t k => XS.lload X38.here hx rfl (hb hby d11_177) rfl k) ?_
      show own_Fin p.tables e below _ (T38.setTop (mkF m 179 #[.val (.ref a), .val .null, .val (.ref aT), .val .null, .val (.int lev), .val (.long bou), .second, .val (.int (0 : Int32)), .val (.int d), .val (.ref b)] [(.long bou), (.int d), (.ref bd)]))
      obtain ⟨T39, h39, X39, e39, W39, st39⟩ := own_stJ X38 hx hZ e38 A_bd'38 (j := d) (own_in3 hd) (g := (mkF m 179 #[.val (.ref a), .val .null, .val (.ref aT), .val .null, .val (.int lev), .val (.long bou), .second, .val (.int (0 : Int32)), .val (.int d), .val (.ref b)] [(.long bou), (.int d), (.ref bd)])) rfl rfl (hb hby d11_179)
      refine own_st st39 ?_
      have O0'39 := O0'38.wr W39 g_bd
      have E_T'39 := E_T'38.wr W39
      have E_a'39 := E_a'38.wr W39
      have E_b'39 := E_b'38.wr W39
      have F_bl'39 := F_bl'38.other W39 (Or.inl (own_neEA E_a'38 (hw _ (List.mem_of_getElem? (i := 1) rfl)) A_bd'38))
      have F_top'39 := F_top'38.other W39 (Or.inl (own_neEA E_a'38 (hw _ (List.mem_of_getElem? (i := 1) rfl)) A_bd'38))
      have F_at'39 := F_at'38.other W39 (Or.inl (own_neEA E_a'38 (hw _ (List.mem_of_getElem? (i := 1) rfl)) A_bd'38))
      have F_d'39 := F_d'38.other W39 (Or.inl (own_neEA E_a'38 (hw _ (List.mem_of_getElem? (i := 1) rfl)) A_bd'38))
      have V_bl'39 := V_bl'38.other W39 (own_neAA (own_Arv V_bl'38) A_bd'38 (by decide))
      have F_nm'39 := F_nm'38.other W39 (Or.inl (own_neEA E_b'38 (hw _ (List.mem_of_getElem? (i := 11) rfl)) A_bd'38))
      have F_ur'39 := F_ur'38.other W39 (Or.inl (own_neEA E_b'38 (hw _ (List.mem_of_getElem? (i := 11) rfl)) A_bd'38))
      have F_lv'39 := F_lv'38.other W39 (Or.inl (own_neEA E_b'38 (hw _ (List.mem_of_getElem? (i := 11) rfl)) A_bd'38))
      have F_bd'39 := F_bd'38.other W39 (Or.inl (own_neEA E_b'38 (hw _ (List.mem_of_getElem? (i := 11) rfl)) A_bd'38))
      have F_ty'39 := F_ty'38.other W39 (Or.inl (own_neEA E_b'38 (hw _ (List.mem_of_getElem? (i := 11) rfl)) A_bd'38))
      have F_st'39 := F_st'38.other W39 (Or.inl (own_neEA E_b'38 (hw _ (List.mem_of_getElem? (i := 11) rfl)) A_bd'38))
      have O_nm'39 := O_nm'38.wr W39
      have O_ur'39 := O_ur'38.wr W39
      have A_lv'39 := A_lv'38.wr W39
      have A_bd'39 := A_bd'38.wr W39
      have O_ty'39 := O_ty'38.wr W39
      have N39 := Fr.snoc X39 N38 g_bd
      have Z39 : n0 ≤ h39.size := by rw [W39.size]; exact Z38
      show own_Fin p.tables e below _ (T39.setTop (mkF m 180 #[.val (.ref a), .val .null, .val (.ref aT), .val .null, .val (.int lev), .val (.long bou), .second, .val (.int (0 : Int32)), .val (.int d), .val (.ref b)] []))
      refine own_st (fun t k => XS.aloadN X39.here hx rfl (hb hby d11_180) rfl rfl k) ?_
      show own_Fin p.tables e below _ (T39.setTop (mkF m 181 #[.val (.ref a), .val .null, .val (.ref aT), .val .null, .val (.int lev), .val (.long bou), .second, .val (.int (0 : Int32)), .val (.int d), .val (.ref b)] [(.ref a)]))
      obtain ⟨T40, X40, e40, st40⟩ := getF X39 hx hZ hown (host := "") (Or.inl (hw _ (List.mem_of_getElem? (i := 34) rfl))) Via.refl e39 F_top'39 (g := (mkF m 181 #[.val (.ref a), .val .null, .val (.ref aT), .val .null, .val (.int lev), .val (.long bou), .second, .val (.int (0 : Int32)), .val (.int d), .val (.ref b)] [(.ref a)])) rfl rfl (hb hby d11_181)
      refine own_st st40 ?_
      show own_Fin p.tables e below _ (T40.setTop (mkF m 184 #[.val (.ref a), .val .null, .val (.ref aT), .val .null, .val (.int lev), .val (.long bou), .second, .val (.int (0 : Int32)), .val (.int d), .val (.ref b)] [(.ref b)]))
      refine own_st (fun t k => XS.aload X40.here hx rfl (hb hby d11_184) rfl rfl k) ?_
      show own_Fin p.tables e below _ (T40.setTop (mkF m 186 #[.val (.ref a), .val .null, .val (.ref aT), .val .null, .val (.int lev), .val (.long bou), .second, .val (.int (0 : Int32)), .val (.int d), .val (.ref b)] [(.ref b), (.ref b)]))
      refine own_st (fun t k => XT.acmpYes X40.here hx rfl (pc0 := 186) (pc' := 195) rfl (hb hby d11_186) rfl rfl rfl (XT.aa_eq_t rfl) (by decide) (by decide) k) ?_
      show own_Fin p.tables e below _ (T40.setTop (mkF m 195 #[.val (.ref a), .val .null, .val (.ref aT), .val .null, .val (.int lev), .val (.long bou), .second, .val (.int (0 : Int32)), .val (.int d), .val (.ref b)] []))
      refine own_st (fun t k => XS.aloadN X40.here hx rfl (hb hby d11_195) rfl rfl k) ?_
      show own_Fin p.tables e below _ (T40.setTop (mkF m 196 #[.val (.ref a), .val .null, .val (.ref aT), .val .null, .val (.int lev), .val (.long bou), .second, .val (.int (0 : Int32)), .val (.int d), .val (.ref b)] [(.ref a)]))
      refine own_st (fun t k => XS.iload X40.here hx rfl (hb hby d11_196) rfl k) ?_
      show own_Fin p.tables e below _ (T40.setTop (mkF m 198 #[.val (.ref a), .val .null, .val (.ref aT), .val .null, .val (.int lev), .val (.long bou), .second, .val (.int (0 : Int32)), .val (.int d), .val (.ref b)] [(.int d), (.ref a)]))
      obtain ⟨T41, h41, X41, e41, W41, st41⟩ := putF X40 hx hZ hown (host := "") (Or.inl (hw _ (List.mem_of_getElem? (i := 36) rfl))) Via.refl e40 F_at'39 E_a'39 (Or.inl (hw _ (List.mem_of_getElem? (i := 37) rfl))) (hw _ (List.mem_of_getElem? (i := 1) rfl)) (ty := .int) (by decide) rfl rfl (g := (mkF m 198 #[.val (.ref a), .val .null, .val (.ref aT), .val .null, .val (.int lev), .val (.long bou), .second, .val (.int (0 : Int32)), .val (.int d), .val (.ref b)] [(.int d), (.ref a)])) rfl rfl (hb hby d11_198)
      refine own_st st41 ?_
      have O0'41 := O0'39.wr W41 g_a
      have E_T'41 := E_T'39.wr W41
      have E_a'41 := E_a'39.wr W41
      have E_b'41 := E_b'39.wr W41
      have F_bl'41 := F_bl'39.other W41 (Or.inr (slot_ne (Or.inl (hw _ (List.mem_of_getElem? (i := 33) rfl))) (Or.inl (hw _ (List.mem_of_getElem? (i := 37) rfl))) (by decide) (t := (.array (.object "com/example/chiffchaff/chiffchaff/OpenElements$Block"))) (t' := .int) (by decide) (by decide)))
      have F_top'41 := F_top'39.other W41 (Or.inr (slot_ne (Or.inl (hw _ (List.mem_of_getElem? (i := 35) rfl))) (Or.inl (hw _ (List.mem_of_getElem? (i := 37) rfl))) (by decide) (t := (.object "com/example/chiffchaff/chiffchaff/OpenElements$Block")) (t' := .int) (by decide) (by decide)))
      have F_at'41 := F_at'39.same W41
      have F_d'41 := F_d'39.other W41 (Or.inr (slot_ne (Or.inl (hw _ (List.mem_of_getElem? (i := 57) rfl))) (Or.inl (hw _ (List.mem_of_getElem? (i := 37) rfl))) (by decide) (t := .int) (t' := .int) (by decide) (by decide)))
      have V_bl'41 := V_bl'39.other W41 (Ne.symm (own_neEA E_a'39 (hw _ (List.mem_of_getElem? (i := 1) rfl)) (own_Arv V_bl'39)))
      have F_nm'41 := F_nm'39.other W41 (Or.inl (ne_exa E_b'39 E_a'39 (by decide)))
      have F_ur'41 := F_ur'39.other W41 (Or.inl (ne_exa E_b'39 E_a'39 (by decide)))
      have F_lv'41 := F_lv'39.other W41 (Or.inl (ne_exa E_b'39 E_a'39 (by decide)))
      have F_bd'41 := F_bd'39.other W41 (Or.inl (ne_exa E_b'39 E_a'39 (by decide)))
      have F_ty'41 := F_ty'39.other W41 (Or.inl (ne_exa E_b'39 E_a'39 (by decide)))
      have F_st'41 := F_st'39.other W41 (Or.inl (ne_exa E_b'39 E_a'39 (by decide)))
      have O_nm'41 := O_nm'39.wr W41
      have O_ur'41 := O_ur'39.wr W41
      have A_lv'41 := A_lv'39.wr W41
      have A_bd'41 := A_bd'39.wr W41
      have O_ty'41 := O_ty'39.wr W41
      have N41 := Fr.snoc X41 N39 g_a
      have Z41 : n0 ≤ h41.size := by rw [W41.size]; exact Z39
      show own_Fin p.tables e below _ (T41.setTop (mkF m 201 #[.val (.ref a), .val .null, .val (.ref aT), .val .null, .val (.int lev), .val (.long bou), .second, .val (.int (0 : Int32)), .val (.int d), .val (.ref b)] []))
      refine own_st (fun t k => XS.aloadN X41.here hx rfl (hb hby d11_201) rfl rfl k) ?_
      show own_Fin p.tables e below _ (T41.setTop (mkF m 202 #[.val (.ref a), .val .null, .val (.ref aT), .val .null, .val (.int lev), .val (.long bou), .second, .val (.int (0 : Int32)), .val (.int d), .val (.ref b)] [(.ref a)]))
      refine own_st (fun t k => XS.dup X41.here hx rfl (hb hby d11_202) rfl rfl k) ?_
      show own_Fin p.tables e below _ (T41.setTop (mkF m 203 #[.val (.ref a), .val .null, .val (.ref aT), .val .null, .val (.int lev), .val (.long bou), .second, .val (.int (0 : Int32)), .val (.int d), .val (.ref b)] [(.ref a), (.ref a)]))
      obtain ⟨T42, X42, e42, st42⟩ := getF X41 hx hZ hown (host := "") (Or.inl (hw _ (List.mem_of_getElem? (i := 56) rfl))) Via.refl e41 F_d'41 (g := (mkF m 203 #[.val (.ref a), .val .null, .val (.ref aT), .val .null, .val (.int lev), .val (.long bou), .second, .val (.int (0 : Int32)), .val (.int d), .val (.ref b)] [(.ref a), (.ref a)])) rfl rfl (hb hby d11_203)
      refine own_st st42 ?_
      show own_Fin p.tables e below _ (T42.setTop (mkF m 206 #[.val (.ref a), .val .null, .val (.ref aT), .val .null, .val (.int lev), .val (.long bou), .second, .val (.int (0 : Int32)), .val (.int d), .val (.ref b)] [(.int d), (.ref a)]))
      refine own_st (fun t k => XS.iconst X42.here hx rfl (hb hby d11_206) k) ?_
      show own_Fin p.tables e below _ (T42.setTop (mkF m 207 #[.val (.ref a), .val .null, .val (.ref aT), .val .null, .val (.int lev), .val (.long bou), .second, .val (.int (0 : Int32)), .val (.int d), .val (.ref b)] [(.int (1 : Int32)), (.int d), (.ref a)]))
      refine own_st (fun t k => XS.iadd X42.here hx rfl (hb hby d11_207) rfl k) ?_
      show own_Fin p.tables e below _ (T42.setTop (mkF m 208 #[.val (.ref a), .val .null, .val (.ref aT), .val .null, .val (.int lev), .val (.long bou), .second, .val (.int (0 : Int32)), .val (.int d), .val (.ref b)] [(.int (d + (1 : Int32))), (.ref a)]))
      obtain ⟨T43, h43, X43, e43, W43, st43⟩ := putF X42 hx hZ hown (host := "") (Or.inl (hw _ (List.mem_of_getElem? (i := 56) rfl))) Via.refl e42 F_d'41 E_a'41 (Or.inl (hw _ (List.mem_of_getElem? (i := 57) rfl))) (hw _ (List.mem_of_getElem? (i := 1) rfl)) (ty := .int) (by decide) rfl rfl (g := (mkF m 208 #[.val (.ref a), .val .null, .val (.ref aT), .val .null, .val (.int lev), .val (.long bou), .second, .val (.int (0 : Int32)), .val (.int d), .val (.ref b)] [(.int (d + (1 : Int32))), (.ref a)])) rfl rfl (hb hby d11_208)
      refine own_st st43 ?_
      have O0'43 := O0'41.wr W43 g_a
      have E_T'43 := E_T'41.wr W43
      have E_a'43 := E_a'41.wr W43
      have E_b'43 := E_b'41.wr W43
      have F_bl'43 := F_bl'41.other W43 (Or.inr (slot_ne (Or.inl (hw _ (List.mem_of_getElem? (i := 33) rfl))) (Or.inl (hw _ (List.mem_of_getElem? (i := 57) rfl))) (by decide) (t := (.array (.object "com/example/chiffchaff/chiffchaff/OpenElements$Block"))) (t' := .int) (by decide) (by decide)))
      have F_top'43 := F_top'41.other W43 (Or.inr (slot_ne (Or.inl (hw _ (List.mem_of_getElem? (i := 35) rfl))) (Or.inl (hw _ (List.mem_of_getElem? (i := 57) rfl))) (by decide) (t := (.object "com/example/chiffchaff/chiffchaff/OpenElements$Block")) (t' := .int) (by decide) (by decide)))
      have F_at'43 := F_at'41.other W43 (Or.inr (slot_ne (Or.inl (hw _ (List.mem_of_getElem? (i := 37) rfl))) (Or.inl (hw _ (List.mem_of_getElem? (i := 57) rfl))) (by decide) (t := .int) (t' := .int) (by decide) (by decide)))
      have F_d'43 := F_d'41.same W43
      have V_bl'43 := V_bl'41.other W43 (Ne.symm (own_neEA E_a'41 (hw _ (List.mem_of_getElem? (i := 1) rfl)) (own_Arv V_bl'41)))
      have F_nm'43 := F_nm'41.other W43 (Or.inl (ne_exa E_b'41 E_a'41 (by decide)))
      have F_ur'43 := F_ur'41.other W43 (Or.inl (ne_exa E_b'41 E_a'41 (by decide)))
      have F_lv'43 := F_lv'41.other W43 (Or.inl (ne_exa E_b'41 E_a'41 (by decide)))
      have F_bd'43 := F_bd'41.other W43 (Or.inl (ne_exa E_b'41 E_a'41 (by decide)))
      have F_ty'43 := F_ty'41.other W43 (Or.inl (ne_exa E_b'41 E_a'41 (by decide)))
      have F_st'43 := F_st'41.other W43 (Or.inl (ne_exa E_b'41 E_a'41 (by decide)))
      have O_nm'43 := O_nm'41.wr W43
      have O_ur'43 := O_ur'41.wr W43
      have A_lv'43 := A_lv'41.wr W43
      have A_bd'43 := A_bd'41.wr W43
      have O_ty'43 := O_ty'41.wr W43
      have N43 := Fr.snoc X43 N41 g_a
      have Z43 : n0 ≤ h43.size := by rw [W43.size]; exact Z41
      show own_Fin p.tables e below _ (T43.setTop (mkF m 211 #[.val (.ref a), .val .null, .val (.ref aT), .val .null, .val (.int lev), .val (.long bou), .second, .val (.int (0 : Int32)), .val (.int d), .val (.ref b)] []))
      obtain ⟨fs, hr, hrun, hended, hW, hsame⟩ := X43.leave (v := none) (fun _ => rfl)
      refine ⟨_, _, X43.returnOut hx Bd.returns (hb hby d11_211) hr, hrun, hended, _, _, rfl, ?_, ⟨_, rfl⟩, hW, hsame.mono (by decide) (by decide)⟩
      show Q11 Z a b bl nm ur lv bd kB (.ref ty) d aT aU lev bou h0 n0 _ T43.heap _
      rw [e43]
      exact ⟨rfl, N43, O0'43, E_T'43, _, ⟨⟨E_a'43, E_b'43, F_bl'43, F_top'43, ((own_up hd).symm ▸ F_at'43), F_d'43, V_bl'43⟩, ⟨F_nm'43, F_ur'43, F_lv'43, F_bd'43, F_ty'43, F_st'43⟩, ⟨O_nm'43, O_ur'43, A_lv'43, A_bd'43, Or.inr ⟨ty, rfl, O_ty'43, g_ty⟩⟩, ⟨g_a, g_b, g_nm, g_ur, g_lv, g_bd⟩⟩⟩
    · have _ := cu
      refine own_st (fun t k => XT.acmpNo X36.here hx rfl (hb hby d11_139) rfl rfl rfl (XT.aa_eq_f cu) k) ?_
      show own_Fin p.tables e below _ (T36.setTop (mkF m 142 #[.val (.ref a), .val .null, .val (.ref aT), .val .null, .val (.int lev), .val (.long bou), .second, .val (.int (0 : Int32)), .val (.int d), .val (.ref b)] []))
      refine own_st (fun t k => XS.aload X36.here hx rfl (hb hby d11_142) rfl rfl k) ?_
      show own_Fin p.tables e below _ (T36.setTop (mkF m 144 #[.val (.ref a), .val .null, .val (.ref aT), .val .null, .val (.int lev), .val (.long bou), .second, .val (.int (0 : Int32)), .val (.int d), .val (.ref b)] [(.ref b)]))
      obtain ⟨_, ⟨T44, L44, k44, n44⟩, X44, ⟨Lc44, hQ44, l44, y44, z44⟩, st44⟩ := own_virtR X36 hx hZ (y := (⟨"com/example/chiffchaff/chiffchaff/OpenElements$Block", "typed", "()[Lcom/example/chiffchaff/chiffchaff/ElementType;"⟩ : MethodName)) hown (hw _ (List.mem_of_getElem? (i := 95) rfl)) (hw _ (List.mem_of_getElem? (i := 96) rfl)) (hw _ (List.mem_of_getElem? (i := 97) rfl)) (hw _ (List.mem_of_getElem? (i := 98) rfl)) (hw _ (List.mem_of_getElem? (i := 11) rfl)) (by decide) (backOf (W := 0) (rmT1 l Z a0 hw [] b ty h35 n0 Z35 F_ty'35) hZ (hw _ (List.mem_of_getElem? (i := 98) rfl)) (hw _ (List.mem_of_getElem? (i := 12) rfl)) (by decide) (by decide)) e36 E_b'35 (g := (mkF m 144 #[.val (.ref a), .val .null, .val (.ref aT), .val .null, .val (.int lev), .val (.long bou), .second, .val (.int (0 : Int32)), .val (.int d), .val (.ref b)] [(.ref b)])) rfl (by rw [hml]; rfl) (a := b) (argsL := []) (rest := []) (lenOf pd____Lcom_example_chiffchaff_chiffchaff_ElementType_ rfl) rfl (by show 2 * 0 + _ ≤ _; exact Nat.le_of_eq rfl) (hb hby d11_144) (⟨rfl, e36, (by decide : 0 + 1 ≤ _), (by decide : 0 + 16 ≤ _)⟩)
      dsimp only [Pt.U, Pt.locs, Pt.cells, Pt.slots] at X44 l44 y44 z44 st44 hQ44
      subst l44 y44 z44
      obtain ⟨rfl, N44, q44⟩ := hQ44
      refine own_st (fun t k => st44.trans k) ?_
      have N44a := Fr.app N35 N44
      show own_Fin p.tables e below _ (T44.setTop (mkF m 147 #[.val (.ref a), .val .null, .val (.ref aT), .val .null, .val (.int lev), .val (.long bou), .second, .val (.int (0 : Int32)), .val (.int d), .val (.ref b)] [(.ref ty)]))
      refine own_st (fun t k => XS.iload X44.here hx rfl (hb hby d11_147) rfl k) ?_
      show own_Fin p.tables e below _ (T44.setTop (mkF m 149 #[.val (.ref a), .val .null, .val (.ref aT), .val .null, .val (.int lev), .val (.long bou), .second, .val (.int (0 : Int32)), .val (.int d), .val (.ref b)] [(.int d), (.ref ty)]))
      refine own_st (fun t k => XS.aloadN X44.here hx rfl (hb hby d11_149) rfl rfl k) ?_
      show own_Fin p.tables e below _ (T44.setTop (mkF m 150 #[.val (.ref a), .val .null, .val (.ref aT), .val .null, .val (.int lev), .val (.long bou), .second, .val (.int (0 : Int32)), .val (.int d), .val (.ref b)] [(.ref aT), (.int d), (.ref ty)]))
      obtain ⟨T45, h45, X45, e45, W45, st45⟩ := own_stR X44 hx hZ q44 O_ty'35 (j := d) (own_in3 hd) (Or.inr ⟨_, rfl, Ins.self E_T'35⟩) (g := (mkF m 150 #[.val (.ref a), .val .null, .val (.ref aT), .val .null, .val (.int lev), .val (.long bou), .second, .val (.int (0 : Int32)), .val (.int d), .val (.ref b)] [(.ref aT), (.int d), (.ref ty)])) rfl rfl (hb hby d11_150)
      refine own_st st45 ?_
      have O0'45 := O0'35.wr W45 g_ty
      have E_T'45 := E_T'35.wr W45
      have E_a'45 := E_a'35.wr W45
      have E_b'45 := E_b'35.wr W45
      have F_bl'45 := F_bl'35.other W45 (Or.inl (own_neEA E_a'35 (hw _ (List.mem_of_getElem? (i := 1) rfl)) (own_O.A O_ty'35)))
      have F_top'45 := F_top'35.other W45 (Or.inl (own_neEA E_a'35 (hw _ (List.mem_of_getElem? (i := 1) rfl)) (own_O.A O_ty'35)))
      have F_at'45 := F_at'35.other W45 (Or.inl (own_neEA E_a'35 (hw _ (List.mem_of_getElem? (i := 1) rfl)) (own_O.A O_ty'35)))
      have F_d'45 := F_d'35.other W45 (Or.inl (own_neEA E_a'35 (hw _ (List.mem_of_getElem? (i := 1) rfl)) (own_O.A O_ty'35)))
      have V_bl'45 := V_bl'35.other W45 (own_neAA (own_Arv V_bl'35) (own_O.A O_ty'35) (by decide))
      have F_nm'45 := F_nm'35.other W45 (Or.inl (own_neEA E_b'35 (hw _ (List.mem_of_getElem? (i := 11) rfl)) (own_O.A O_ty'35)))
      have F_ur'45 := F_ur'35.other W45 (Or.inl (own_neEA E_b'35 (hw _ (List.mem_of_getElem? (i := 11) rfl)) (own_O.A O_ty'35)))
      have F_lv'45 := F_lv'35.other W45 (Or.inl (own_neEA E_b'35 (hw _ (List.mem_of_getElem? (i := 11) rfl)) (own_O.A O_ty'35)))
      have F_bd'45 := F_bd'35.other W45 (Or.inl (own_neEA E_b'35 (hw _ (List.mem_of_getElem? (i := 11) rfl)) (own_O.A O_ty'35)))
      have F_ty'45 := F_ty'35.other W45 (Or.inl (own_neEA E_b'35 (hw _ (List.mem_of_getElem? (i := 11) rfl)) (own_O.A O_ty'35)))
      have F_st'45 := F_st'35.other W45 (Or.inl (own_neEA E_b'35 (hw _ (List.mem_of_getElem? (i := 11) rfl)) (own_O.A O_ty'35)))
      have O_nm'45 := O_nm'35.wr W45
      have O_ur'45 := O_ur'35.wr W45
      have A_lv'45 := A_lv'35.wr W45
      have A_bd'45 := A_bd'35.wr W45
      have O_ty'45 := O_ty'35.wr W45
      have N45 := Fr.snoc X45 N44a g_ty
      have Z45 : n0 ≤ h45.size := by rw [W45.size]; exact Z35
      show own_Fin p.tables e below _ (T45.setTop (mkF m 151 #[.val (.ref a), .val .null, .val (.ref aT), .val .null, .val (.int lev), .val (.long bou), .second, .val (.int (0 : Int32)), .val (.int d), .val (.ref b)] []))
      refine own_st (fun t k => XS.aload X45.here hx rfl (hb hby d11_151) rfl rfl k) ?_
      show own_Fin p.tables e below _ (T45.setTop (mkF m 153 #[.val (.ref a), .val .null, .val (.ref aT), .val .null, .val (.int lev), .val (.long bou), .second, .val (.int (0 : Int32)), .val (.int d), .val (.ref b)] [(.ref b)]))
      refine own_st (fun t k => own_getR X45 hx hZ hown (hw _ (List.mem_of_getElem? (i := 102) rfl)) e45 F_ur'45 (g := (mkF m 153 #[.val (.ref a), .val .null, .val (.ref aT), .val .null, .val (.int lev), .val (.long bou), .second, .val (.int (0 : Int32)), .val (.int d), .val (.ref b)] [(.ref b)])) rfl rfl (hb hby d11_153) t k) ?_
      show own_Fin p.tables e below _ (T45.setTop (mkF m 156 #[.val (.ref a), .val .null, .val (.ref aT), .val .null, .val (.int lev), .val (.long bou), .second, .val (.int (0 : Int32)), .val (.int d), .val (.ref b)] [(.ref ur)]))
      refine own_st (fun t k => XS.iload X45.here hx rfl (hb hby d11_156) rfl k) ?_
      show own_Fin p.tables e below _ (T45.setTop (mkF m 158 #[.val (.ref a), .val .null, .val (.ref aT), .val .null, .val (.int lev), .val (.long bou), .second, .val (.int (0 : Int32)), .val (.int d), .val (.ref b)] [(.int d), (.ref ur)]))
      refine own_st (fun t k => XS.aloadN X45.here hx rfl (hb hby d11_158) rfl rfl k) ?_
      show own_Fin p.tables e below _ (T45.setTop (mkF m 159 #[.val (.ref a), .val .null, .val (.ref aT), .val .null, .val (.int lev), .val (.long bou), .second, .val (.int (0 : Int32)), .val (.int d), .val (.ref b)] [.null, (.int d), (.ref ur)]))
      obtain ⟨T46, h46, X46, e46, W46, st46⟩ := own_stR X45 hx hZ e45 O_ur'45 (j := d) (own_in3 hd) (Or.inl rfl) (g := (mkF m 159 #[.val (.ref a), .val .null, .val (.ref aT), .val .null, .val (.int lev), .val (.long bou), .second, .val (.int (0 : Int32)), .val (.int d), .val (.ref b)] [.null, (.int d), (.ref ur)])) rfl rfl (hb hby d11_159)
      refine own_st st46 ?_
      have O0'46 := O0'45.wr W46 g_ur
      have E_T'46 := E_T'45.wr W46
      have E_a'46 := E_a'45.wr W46
      have E_b'46 := E_b'45.wr W46
      have F_bl'46 := F_bl'45.other W46 (Or.inl (own_neEA E_a'45 (hw _ (List.mem_of_getElem? (i := 1) rfl)) (own_O.A O_ur'45)))
      have F_top'46 := F_top'45.other W46 (Or.inl (own_neEA E_a'45 (hw _ (List.mem_of_getElem? (i := 1) rfl)) (own_O.A O_ur'45)))
      have F_at'46 := F_at'45.other W46 (Or.inl (own_neEA E_a'45 (hw _ (List.mem_of_getElem? (i := 1) rfl)) (own_O.A O_ur'45)))
      have F_d'46 := F_d'45.other W46 (Or.inl (own_neEA E_a'45 (hw _ (List.mem_of_getElem? (i := 1) rfl)) (own_O.A O_ur'45)))
      have V_bl'46 := V_bl'45.other W46 (own_neAA (own_Arv V_bl'45) (own_O.A O_ur'45) (by decide))
      have F_nm'46 := F_nm'45.other W46 (Or.inl (own_neEA E_b'45 (hw _ (List.mem_of_getElem? (i := 11) rfl)) (own_O.A O_ur'45)))
      have F_ur'46 := F_ur'45.other W46 (Or.inl (own_neEA E_b'45 (hw _ (List.mem_of_getElem? (i := 11) rfl)) (own_O.A O_ur'45)))
      have F_lv'46 := F_lv'45.other W46 (Or.inl (own_neEA E_b'45 (hw _ (List.mem_of_getElem? (i := 11) rfl)) (own_O.A O_ur'45)))
      have F_bd'46 := F_bd'45.other W46 (Or.inl (own_neEA E_b'45 (hw _ (List.mem_of_getElem? (i := 11) rfl)) (own_O.A O_ur'45)))
      have F_ty'46 := F_ty'45.other W46 (Or.inl (own_neEA E_b'45 (hw _ (List.mem_of_getElem? (i := 11) rfl)) (own_O.A O_ur'45)))
      have F_st'46 := F_st'45.other W46 (Or.inl (own_neEA E_b'45 (hw _ (List.mem_of_getElem? (i := 11) rfl)) (own_O.A O_ur'45)))
      have O_nm'46 := O_nm'45.wr W46
      have O_ur'46 := O_ur'45.wr W46
      have A_lv'46 := A_lv'45.wr W46
      have A_bd'46 := A_bd'45.wr W46
      have O_ty'46 := O_ty'45.wr W46
      have N46 := Fr.snoc X46 N45 g_ur
      have Z46 : n0 ≤ h46.size := by rw [W46.size]; exact Z45
      show own_Fin p.tables e below _ (T46.setTop (mkF m 160 #[.val (.ref a), .val .null, .val (.ref aT), .val .null, .val (.int lev), .val (.long bou), .second, .val (.int (0 : Int32)), .val (.int d), .val (.ref b)] []))
      refine own_st (fun t k => XS.aload X46.here hx rfl (hb hby d11_160) rfl rfl k) ?_
      show own_Fin p.tables e below _ (T46.setTop (mkF m 162 #[.val (.ref a), .val .null, .val (.ref aT), .val .null, .val (.int lev), .val (.long bou), .second, .val (.int (0 : Int32)), .val (.int d), .val (.ref b)] [(.ref b)]))
      refine own_st (fun t k => own_getR X46 hx hZ hown (hw _ (List.mem_of_getElem? (i := 103) rfl)) e46 F_lv'46 (g := (mkF m 162 #[.val (.ref a), .val .null, .val (.ref aT), .val .null, .val (.int lev), .val (.long bou), .second, .val (.int (0 : Int32)), .val (.int d), .val (.ref b)] [(.ref b)])) rfl rfl (hb hby d11_162) t k) ?_
      show own_Fin p.tables e below _ (T46.setTop (mkF m 165 #[.val (.ref a), .val .null, .val (.ref aT), .val .null, .val (.int lev), .val (.long bou), .second, .val (.int (0 : Int32)), .val (.int d), .val (.ref b)] [(.ref lv)]))
      refine own_st (fun t k => XS.iload X46.here hx rfl (hb hby d11_165) rfl k) ?_
      show own_Fin p.tables e below _ (T46.setTop (mkF m 167 #[.val (.ref a), .val .null, .val (.ref aT), .val .null, .val (.int lev), .val (.long bou), .second, .val (.int (0 : Int32)), .val (.int d), .val (.ref b)] [(.int d), (.ref lv)]))
      refine own_st (fun t k => XS.iload X46.here hx rfl (hb hby d11_167) rfl k) ?_
      show own_Fin p.tables e below _ (T46.setTop (mkF m 169 #[.val (.ref a), .val .null, .val (.ref aT), .val .null, .val (.int lev), .val (.long bou), .second, .val (.int (0 : Int32)), .val (.int d), .val (.ref b)] [(.int lev), (.int d), (.ref lv)]))
      obtain ⟨T47, h47, X47, e47, W47, st47⟩ := own_stI X46 hx hZ e46 A_lv'46 (j := d) (own_in3 hd) (g := (mkF m 169 #[.val (.ref a), .val .null, .val (.ref aT), .val .null, .val (.int lev), .val (.long bou), .second, .val (.int (0 : Int32)), .val (.int d), .val (.ref b)] [(.int lev), (.int d), (.ref lv)])) rfl rfl (hb hby d11_169)
      refine own_st st47 ?_
      have O0'47 := O0'46.wr W47 g_lv
      have E_T'47 := E_T'46.wr W47
      have E_a'47 := E_a'46.wr W47
      have E_b'47 := E_b'46.wr W47
      have F_bl'47 := F_bl'46.other W47 (Or.inl (own_neEA E_a'46 (hw _ (List.mem_of_getElem? (i := 1) rfl)) A_lv'46))
      have F_top'47 := F_top'46.other W47 (Or.inl (own_neEA E_a'46 (hw _ (List.mem_of_getElem? (i := 1) rfl)) A_lv'46))
      have F_at'47 := F_at'46.other W47 (Or.inl (own_neEA E_a'46 (hw _ (List.mem_of_getElem? (i := 1) rfl)) A_lv'46))
      have F_d'47 := F_d'46.other W47 (Or.inl (own_neEA E_a'46 (hw _ (List.mem_of_getElem? (i := 1) rfl)) A_lv'46))
      have V_bl'47 := V_bl'46.other W47 (own_neAA (own_Arv V_bl'46) A_lv'46 (by decide))
      have F_nm'47 := F_nm'46.other W47 (Or.inl (own_neEA E_b'46 (hw _ (List.mem_of_getElem? (i := 11) rfl)) A_lv'46))
      have F_ur'47 := F_ur'46.other W47 (Or.inl (own_neEA E_b'46 (hw _ (List.mem_of_getElem? (i := 11) rfl)) A_lv'46))
      have F_lv'47 := F_lv'46.other W47 (Or.inl (own_neEA E_b'46 (hw _ (List.mem_of_getElem? (i := 11) rfl)) A_lv'46))
      have F_bd'47 := F_bd'46.other W47 (Or.inl (own_neEA E_b'46 (hw _ (List.mem_of_getElem? (i := 11) rfl)) A_lv'46))
      have F_ty'47 := F_ty'46.other W47 (Or.inl (own_neEA E_b'46 (hw _ (List.mem_of_getElem? (i := 11) rfl)) A_lv'46))
      have F_st'47 := F_st'46.other W47 (Or.inl (own_neEA E_b'46 (hw _ (List.mem_of_getElem? (i := 11) rfl)) A_lv'46))
      have O_nm'47 := O_nm'46.wr W47
      have O_ur'47 := O_ur'46.wr W47
      have A_lv'47 := A_lv'46.wr W47
      have A_bd'47 := A_bd'46.wr W47
      have O_ty'47 := O_ty'46.wr W47
      have N47 := Fr.snoc X47 N46 g_lv
      have Z47 : n0 ≤ h47.size := by rw [W47.size]; exact Z46
      show own_Fin p.tables e below _ (T47.setTop (mkF m 170 #[.val (.ref a), .val .null, .val (.ref aT), .val .null, .val (.int lev), .val (.long bou), .second, .val (.int (0 : Int32)), .val (.int d), .val (.ref b)] []))
      refine own_st (fun t k => XS.aload X47.here hx rfl (hb hby d11_170) rfl rfl k) ?_
      show own_Fin p.tables e below _ (T47.setTop (mkF m 172 #[.val (.ref a), .val .null, .val (.ref aT), .val .null, .val (.int lev), .val (.long bou), .second, .val (.int (0 : Int32)), .val (.int d), .val (.ref b)] [(.ref b)]))
      refine own_st (fun t k => own_getR X47 hx hZ hown (hw _ (List.mem_of_getElem? (i := 104) rfl)) e47 F_bd'47 (g := (mkF m 172 #[.val (.ref a), .val .null, .val (.ref aT), .val .null, .val (.int lev), .val (.long bou), .second, .val (.int (0 : Int32)), .val (.int d), .val (.ref b)] [(.ref b)])) rfl rfl (hb hby d11_172) t k) ?_
      show own_Fin p.tables e below _ (T47.setTop (mkF m 175 #[.val (.ref a), .val .null, .val (.ref aT), .val .null, .val (.int lev), .val (.long bou), .second, .val (.int (0 : Int32)), .val (.int d), .val (.ref b)] [(.ref bd)]))
      refine own_st (fun t k => XS.iload X47.here hx rfl (hb hby d11_175) rfl k) ?_
      show own_Fin p.tables e below _ (T47.setTop (mkF m 177 #[.val (.ref a), .val .null, .val (.ref aT), .val .null, .val (.int lev), .val (.long bou), .second, .val (.int (0 : Int32)), .val (.int d), .val (.ref b)] [(.int d), (.ref bd)]))
      refine own_st (fun t k => XS.lload X47.here hx rfl (hb hby d11_177) rfl k) ?_
      show own_Fin p.tables e below _ (T47.setTop (mkF m 179 #[.val (.ref a), .val .null, .val (.ref aT), .val .null, .val (.int lev), .val (.long bou), .second, .val (.int (0 : Int32)), .val (.int d), .val (.ref b)] [(.long bou), (.int d), (.ref bd)]))
      obtain ⟨T48, h48, X48, e48, W48, st48⟩ := own_stJ X47 hx hZ e47 A_bd'47 (j := d) (own_in3 hd) (g := (mkF m 179 #[.val (.ref a), .val .null, .val (.ref aT), .val .null, .val (.int lev), .val (.long bou), .second, .val (.int (0 : Int32)), .val (.int d), .val (.ref b)] [(.long bou), (.int d), (.ref bd)])) rfl rfl (hb hby d11_179)
      refine own_st st48 ?_
      have O0'48 := O0'47.wr W48 g_bd
      have E_T'48 := E_T'47.wr W48
      have E_a'48 := E_a'47.wr W48
      have E_b'48 := E_b'47.wr W48
      have F_bl'48 := F_bl'47.other W48 (Or.inl (own_neEA E_a'47 (hw _ (List.mem_of_getElem? (i := 1) rfl)) A_bd'47))
      have F_top'48 := F_top'47.other W48 (Or.inl (own_neEA E_a'47 (hw _ (List.mem_of_getElem? (i := 1) rfl)) A_bd'47))
      have F_at'48 := F_at'47.other W48 (Or.inl (own_neEA E_a'47 (hw _ (List.mem_of_getElem? (i := 1) rfl)) A_bd'47))
      have F_d'48 := F_d'47.other W48 (Or.inl (own_neEA E_a'47 (hw _ (List.mem_of_getElem? (i := 1) rfl)) A_bd'47))
      have V_bl'48 := V_bl'47.other W48 (own_neAA (own_Arv V_bl'47) A_bd'47 (by decide))
      have F_nm'48 := F_nm'47.other W48 (Or.inl (own_neEA E_b'47 (hw _ (List.mem_of_getElem? (i := 11) rfl)) A_bd'47))
      have F_ur'48 := F_ur'47.other W48 (Or.inl (own_neEA E_b'47 (hw _ (List.mem_of_getElem? (i := 11) rfl)) A_bd'47))
      have F_lv'48 := F_lv'47.other W48 (Or.inl (own_neEA E_b'47 (hw _ (List.mem_of_getElem? (i := 11) rfl)) A_bd'47))
      have F_bd'48 := F_bd'47.other W48 (Or.inl (own_neEA E_b'47 (hw _ (List.mem_of_getElem? (i := 11) rfl)) A_bd'47))
      have F_ty'48 := F_ty'47.other W48 (Or.inl (own_neEA E_b'47 (hw _ (List.mem_of_getElem? (i := 11) rfl)) A_bd'47))
      have F_st'48 := F_st'47.other W48 (Or.inl (own_neEA E_b'47 (hw _ (List.mem_of_getElem? (i := 11) rfl)) A_bd'47))
      have O_nm'48 := O_nm'47.wr W48
      have O_ur'48 := O_ur'47.wr W48
      have A_lv'48 := A_lv'47.wr W48
      have A_bd'48 := A_bd'47.wr W48
      have O_ty'48 := O_ty'47.wr W48
      have N48 := Fr.snoc X48 N47 g_bd
      have Z48 : n0 ≤ h48.size := by rw [W48.size]; exact Z47
      show own_Fin p.tables e below _ (T48.setTop (mkF m 180 #[.val (.ref a), .val .null, .val (.ref aT), .val .null, .val (.int lev), .val (.long bou), .second, .val (.int (0 : Int32)), .val (.int d), .val (.ref b)] []))
      refine own_st (fun t k => XS.aloadN X48.here hx rfl (hb hby d11_180) rfl rfl k) ?_
      show own_Fin p.tables e below _ (T48.setTop (mkF m 181 #[.val (.ref a), .val .null, .val (.ref aT), .val .null, .val (.int lev), .val (.long bou), .second, .val (.int (0 : Int32)), .val (.int d), .val (.ref b)] [(.ref a)]))
      obtain ⟨T49, X49, e49, st49⟩ := getF X48 hx hZ hown (host := "") (Or.inl (hw _ (List.mem_of_getElem? (i := 34) rfl))) Via.refl e48 F_top'48 (g := (mkF m 181 #[.val (.ref a), .val .null, .val (.ref aT), .val .null, .val (.int lev), .val (.long bou), .second, .val (.int (0 : Int32)), .val (.int d), .val (.ref b)] [(.ref a)])) rfl rfl (hb hby d11_181)
      refine own_st st49 ?_
      show own_Fin p.tables e below _ (T49.setTop (mkF m 184 #[.val (.ref a), .val .null, .val (.ref aT), .val .null, .val (.int lev), .val (.long bou), .second, .val (.int (0 : Int32)), .val (.int d), .val (.ref b)] [(.ref b)]))
      refine own_st (fun t k => XS.aload X49.here hx rfl (hb hby d11_184) rfl rfl k) ?_
      show own_Fin p.tables e below _ (T49.setTop (mkF m 186 #[.val (.ref a), .val .null, .val (.ref aT), .val .null, .val (.int lev), .val (.long bou), .second, .val (.int (0 : Int32)), .val (.int d), .val (.ref b)] [(.ref b), (.ref b)]))
      refine own_st (fun t k => XT.acmpYes X49.here hx rfl (pc0 := 186) (pc' := 195) rfl (hb hby d11_186) rfl rfl rfl (XT.aa_eq_t rfl) (by decide) (by decide) k) ?_
      show own_Fin p.tables e below _ (T49.setTop (mkF m 195 #[.val (.ref a), .val .null, .val (.ref aT), .val .null, .val (.int lev), .val (.long bou), .second, .val (.int (0 : Int32)), .val (.int d), .val (.ref b)] []))
      refine own_st (fun t k => XS.aloadN X49.here hx rfl (hb hby d11_195) rfl rfl k) ?_
      show own_Fin p.tables e below _ (T49.setTop (mkF m 196 #[.val (.ref a), .val .null, .val (.ref aT), .val .null, .val (.int lev), .val (.long bou), .second, .val (.int (0 : Int32)), .val (.int d), .val (.ref b)] [(.ref a)]))
      refine own_st (fun t k => XS.iload X49.here hx rfl (hb hby d11_196) rfl k) ?_
      show own_Fin p.tables e below _ (T49.setTop (mkF m 198 #[.val (.ref a), .val .null, .val (.ref aT), .val .null, .val (.int lev), .val (.long bou), .second, .val (.int (0 : Int32)), .val (.int d), .val (.ref b)] [(.int d), (.ref a)]))
      obtain ⟨T50, h50, X50, e50, W50, st50⟩ := putF X49 hx hZ hown (host := "") (Or.inl (hw _ (List.mem_of_getElem? (i := 36) rfl))) Via.refl e49 F_at'48 E_a'48 (Or.inl (hw _ (List.mem_of_getElem? (i := 37) rfl))) (hw _ (List.mem_of_getElem? (i := 1) rfl)) (ty := .int) (by decide) rfl rfl (g := (mkF m 198 #[.val (.ref a), .val .null, .val (.ref aT), .val .null, .val (.int lev), .val (.long bou), .second, .val (.int (0 : Int32)), .val (.int d), .val (.ref b)] [(.int d), (.ref a)])) rfl rfl (hb hby d11_198)
      refine own_st st50 ?_
      have O0'50 := O0'48.wr W50 g_a
      have E_T'50 := E_T'48.wr W50
      have E_a'50 := E_a'48.wr W50
      have E_b'50 := E_b'48.wr W50
      have F_bl'50 := F_bl'48.other W50 (Or.inr (slot_ne (Or.inl (hw _ (List.mem_of_getElem? (i := 33) rfl))) (Or.inl (hw _ (List.mem_of_getElem? (i := 37) rfl))) (by decide) (t := (.array (.object "com/example/chiffchaff/chiffchaff/OpenElements$Block"))) (t' := .int) (by decide) (by decide)))
      have F_top'50 := F_top'48.other W50 (Or.inr (slot_ne (Or.inl (hw _ (List.mem_of_getElem? (i := 35) rfl))) (Or.inl (hw _ (List.mem_of_getElem? (i := 37) rfl))) (by decide) (t := (.object "com/example/chiffchaff/chiffchaff/OpenElements$Block")) (t' := .int) (by decide) (by decide)))
      have F_at'50 := F_at'48.same W50
      have F_d'50 := F_d'48.other W50 (Or.inr (slot_ne (Or.inl (hw _ (List.mem_of_getElem? (i := 57) rfl))) (Or.inl (hw _ (List.mem_of_getElem? (i := 37) rfl))) (by decide) (t := .int) (t' := .int) (by decide) (by decide)))
      have V_bl'50 := V_bl'48.other W50 (Ne.symm (own_neEA E_a'48 (hw _ (List.mem_of_getElem? (i := 1) rfl)) (own_Arv V_bl'48)))
      have F_nm'50 := F_nm'48.other W50 (Or.inl (ne_exa E_b'48 E_a'48 (by decide)))
      have F_ur'50 := F_ur'48.other W50 (Or.inl (ne_exa E_b'48 E_a'48 (by decide)))
      have F_lv'50 := F_lv'48.other W50 (Or.inl (ne_exa E_b'48 E_a'48 (by decide)))
      have F_bd'50 := F_bd'48.other W50 (Or.inl (ne_exa E_b'48 E_a'48 (by decide)))
      have F_ty'50 := F_ty'48.other W50 (Or.inl (ne_exa E_b'48 E_a'48 (by decide)))
      have F_st'50 := F_st'48.other W50 (Or.inl (ne_exa E_b'48 E_a'48 (by decide)))
      have O_nm'50 := O_nm'48.wr W50
      have O_ur'50 := O_ur'48.wr W50
      have A_lv'50 := A_lv'48.wr W50
      have A_bd'50 := A_bd'48.wr W50
      have O_ty'50 := O_ty'48.wr W50
      have N50 := Fr.snoc X50 N48 g_a
      have Z50 : n0 ≤ h50.size := by rw [W50.size]; exact Z48
      show own_Fin p.tables e below _ (T50.setTop (mkF m 201 #[.val (.ref a), .val .null, .val (.ref aT), .val .null, .val (.int lev), .val (.long bou), .second, .val (.int (0 : Int32)), .val (.int d), .val (.ref b)] []))
      refine own_st (fun t k => XS.aloadN X50.here hx rfl (hb hby d11_201) rfl rfl k) ?_
      show own_Fin p.tables e below _ (T50.setTop (mkF m 202 #[.val (.ref a), .val .null, .val (.ref aT), .val .null, .val (.int lev), .val (.long bou), .second, .val (.int (0 : Int32)), .val (.int d), .val (.ref b)] [(.ref a)]))
      refine own_st (fun t k => XS.dup X50.here hx rfl (hb hby d11_202) rfl rfl k) ?_
      show own_Fin p.tables e below _ (T50.setTop (mkF m 203 #[.val (.ref a), .val .null, .val (.ref aT), .val .null, .val (.int lev), .val (.long bou), .second, .val (.int (0 : Int32)), .val (.int d), .val (.ref b)] [(.ref a), (.ref a)]))
      obtain ⟨T51, X51, e51, st51⟩ := getF X50 hx hZ hown (host := "") (Or.inl (hw _ (List.mem_of_getElem? (i := 56) rfl))) Via.refl e50 F_d'50 (g := (mkF m 203 #[.val (.ref a), .val .null, .val (.ref aT), .val .null, .val (.int lev), .val (.long bou), .second, .val (.int (0 : Int32)), .val (.int d), .val (.ref b)] [(.ref a), (.ref a)])) rfl rfl (hb hby d11_203)
      refine own_st st51 ?_
      show own_Fin p.tables e below _ (T51.setTop (mkF m 206 #[.val (.ref a), .val .null, .val (.ref aT), .val .null, .val (.int lev), .val (.long bou), .second, .val (.int (0 : Int32)), .val (.int d), .val (.ref b)] [(.int d), (.ref a)]))
      refine own_st (fun t k => XS.iconst X51.here hx rfl (hb hby d11_206) k) ?_
      show own_Fin p.tables e below _ (T51.setTop (mkF m 207 #[.val (.ref a), .val .null, .val (.ref aT), .val .null, .val (.int lev), .val (.long bou), .second, .val (.int (0 : Int32)), .val (.int d), .val (.ref b)] [(.int (1 : Int32)), (.int d), (.ref a)]))
      refine own_st (fun t k => XS.iadd X51.here hx rfl (hb hby d11_207) rfl k) ?_
      show own_Fin p.tables e below _ (T51.setTop (mkF m 208 #[.val (.ref a), .val .null, .val (.ref aT), .val .null, .val (.int lev), .val (.long bou), .second, .val (.int (0 : Int32)), .val (.int d), .val (.ref b)] [(.int (d + (1 : Int32))), (.ref a)]))
      obtain ⟨T52, h52, X52, e52, W52, st52⟩ := putF X51 hx hZ hown (host := "") (Or.inl (hw _ (List.mem_of_getElem? (i := 56) rfl))) Via.refl e51 F_d'50 E_a'50 (Or.inl (hw _ (List.mem_of_getElem? (i := 57) rfl))) (hw _ (List.mem_of_getElem? (i := 1) rfl)) (ty := .int) (by decide) rfl rfl (g := (mkF m 208 #[.val (.ref a), .val .null, .val (.ref aT), .val .null, .val (.int lev), .val (.long bou), .second, .val (.int (0 : Int32)), .val (.int d), .val (.ref b)] [(.int (d + (1 : Int32))), (.ref a)])) rfl rfl (hb hby d11_208)
      refine own_st st52 ?_
      have O0'52 := O0'50.wr W52 g_a
      have E_T'52 := E_T'50.wr W52
      have E_a'52 := E_a'50.wr W52
      have E_b'52 := E_b'50.wr W52
      have F_bl'52 := F_bl'50.other W52 (Or.inr (slot_ne (Or.inl (hw _ (List.mem_of_getElem? (i := 33) rfl))) (Or.inl (hw _ (List.mem_of_getElem? (i := 57) rfl))) (by decide) (t := (.array (.object "com/example/chiffchaff/chiffchaff/OpenElements$Block"))) (t' := .int) (by decide) (by decide)))
      have F_top'52 := F_top'50.other W52 (Or.inr (slot_ne (Or.inl (hw _ (List.mem_of_getElem? (i := 35) rfl))) (Or.inl (hw _ (List.mem_of_getElem? (i := 57) rfl))) (by decide) (t := (.object "com/example/chiffchaff/chiffchaff/OpenElements$Block")) (t' := .int) (by decide) (by decide)))
      have F_at'52 := F_at'50.other W52 (Or.inr (slot_ne (Or.inl (hw _ (List.mem_of_getElem? (i := 37) rfl))) (Or.inl (hw _ (List.mem_of_getElem? (i := 57) rfl))) (by decide) (t := .int) (t' := .int) (by decide) (by decide)))
      have F_d'52 := F_d'50.same W52
      have V_bl'52 := V_bl'50.other W52 (Ne.symm (own_neEA E_a'50 (hw _ (List.mem_of_getElem? (i := 1) rfl)) (own_Arv V_bl'50)))
      have F_nm'52 := F_nm'50.other W52 (Or.inl (ne_exa E_b'50 E_a'50 (by decide)))
      have F_ur'52 := F_ur'50.other W52 (Or.inl (ne_exa E_b'50 E_a'50 (by decide)))
      have F_lv'52 := F_lv'50.other W52 (Or.inl (ne_exa E_b'50 E_a'50 (by decide)))
      have F_bd'52 := F_bd'50.other W52 (Or.inl (ne_exa E_b'50 E_a'50 (by decide)))
      have F_ty'52 := F_ty'50.other W52 (Or.inl (ne_exa E_b'50 E_a'50 (by decide)))
      have F_st'52 := F_st'50.other W52 (Or.inl (ne_exa E_b'50 E_a'50 (by decide)))
      have O_nm'52 := O_nm'50.wr W52
      have O_ur'52 := O_ur'50.wr W52
      have A_lv'52 := A_lv'50.wr W52
      have A_bd'52 := A_bd'50.wr W52
      have O_ty'52 := O_ty'50.wr W52
      have N52 := Fr.snoc X52 N50 g_a
      have Z52 : n0 ≤ h52.size := by rw [W52.size]; exact Z50
      show own_Fin p.tables e below _ (T52.setTop (mkF m 211 #[.val (.ref a), .val .null, .val (.ref aT), .val .null, .val (.int lev), .val (.long bou), .second, .val (.int (0 : Int32)), .val (.int d), .val (.ref b)] []))
      obtain ⟨fs, hr, hrun, hended, hW, hsame⟩ := X52.leave (v := none) (fun _ => rfl)
      refine ⟨_, _, X52.returnOut hx Bd.returns (hb hby d11_211) hr, hrun, hended, _, _, rfl, ?_, ⟨_, rfl⟩, hW, hsame.mono (by decide) (by decide)⟩
      show Q11 Z a b bl nm ur lv bd kB (.ref ty) d aT aU lev bou h0 n0 _ T52.heap _
      rw [e52]
      exact ⟨rfl, N52, O0'52, E_T'52, _, ⟨⟨E_a'52, E_b'52, F_bl'52, F_top'52, ((own_up hd).symm ▸ F_at'52), F_d'52, V_bl'52⟩, ⟨F_nm'52, F_ur'52, F_lv'52, F_bd'52, F_ty'52, F_st'52⟩, ⟨O_nm'52, O_ur'52, A_lv'52, A_bd'52, Or.inr ⟨ty, rfl, O_ty'52, g_ty⟩⟩, ⟨g_a, g_b, g_nm, g_ur, g_lv, g_bd⟩⟩⟩
def Q0 (Z : State) (i0 : Int32) (i1 : Int32) (i2 : Int32) (i3 : Int32) (i4 : Int64) (aU : Addr) (aN : Addr) (bN : Addr) (kN : ClassId) (h0 : Heap) (n0 : Nat) (v : Option Value) (h : Heap) (L : List Loc) : Prop := v = some (.int 1) ∧ Fr n0 L
set_option maxRecDepth 65536 in
set_option maxHeartbeats 40000000 in
theorem rm0 (l : Launch) (Z : State) (a0 : Array Value) (hw : ∀ d ∈ tables_1, d.before a0 Z = true) (ws : List Jvm.Cond) (i0 : Int32) (i1 : Int32) (i2 : Int32) (i3 : Int32) (i4 : Int64) (aU : Addr) (aN : Addr) (bN : Addr) (kN : ClassId) (h0 : Heap) (n0 : Nat) (Z0 : n0 ≤ h0.size) (O0 : Old Z n0 h0) (S_U : Sta Z Z.heap "com/example/chiffchaff/chiffchaff/ElementType" "UNDECLARED" "Lcom/example/chiffchaff/chiffchaff/ElementType;" (.ref aU)) (E_U : Exa Z Z.heap aU "com/example/chiffchaff/chiffchaff/ElementType") (S_A : Sta Z Z.heap "com/example/chiffchaff/chiffchaff/ElementType" "NO_ATTRIBUTES" "Lcom/example/chiffchaff/chiffchaff/DeclaredAttributes;" (.ref aN)) (S_N : Sta Z Z.heap "com/example/chiffchaff/chiffchaff/OpenElements" "NO_BLOCKS" "[Lcom/example/chiffchaff/chiffchaff/OpenElements$Block;" (.ref bN)) (V_N : Arv Z Z.heap bN kN (.object "com/example/chiffchaff/chiffchaff/OpenElements$Block") 0 [] .null) :
    MetFree l x (head1 (Jvm.Cond.code x code maxLocals ret :: ws) room_1) (fun xs U => xs = #[(.int i0), (.int i1), (.int i2), (.int i3), (.long i4)] ∧ Z.Warmed39 U.vm ∧ U.heap = h0) (fun _ _ _ _ _ => True) (fun _ U o U' => ∃ v L, o = .returned v ∧ Q0 Z i0 i1 i2 i3 i4 aU aN bN kN h0 n0 v U'.heap L ∧ FrameEnd U o U' L room_1.cells room_1.slots) := by
  refine MetFree.of_bodySF (plainFor_of_name pn_com_example_chiffchaff_chiffchaff_OpenElementsRoomPinLaw) hisR ?_
  intro p e s m args below meth c s₁ Bd hml0 hP hK
  obtain ⟨rfl, hZ, hh⟩ := hP
  have hx := Bd.exec
  have hby := Bd.bytes
  have hml : c.maxLocals = 14 := hml0
  have hown : s.vm.findClass "com/example/chiffchaff/chiffchaff/OpenElementsRoomPinLaw" = some m.cls := findClass_of_methodNamed Bd.named
  have hnm := (name_of_methodNamed Bd.named Bd.method).1
  have X0 : Stand p l e room_1 s m #[(.int i0), (.int i1), (.int i2), (.int i3), (.long i4)] below meth c s₁ [] 0 0 := Stand.of_body Bd
  have e0 : s₁.heap = h0 := by rw [← hh, Bd.state]; rfl
  have N0 := Fr.nil n0
  change own_Fin p.tables e below (fun s₂ o => ∃ v L, o = .returned v ∧ Q0 Z i0 i1 i2 i3 i4 aU aN bN kN h0 n0 v s₂.heap L ∧ FrameEnd s o s₂ L room_1.cells room_1.slots) (s₁.setTop (entryFrame m #[(.int i0), (.int i1), (.int i2), (.int i3), (.long i4)] maxLocals))
  refine own_st (fun t k => castTop (show entryFrame m #[(.int i0), (.int i1), (.int i2), (.int i3), (.long i4)] maxLocals = mkF m 0 #[.val (.int i0), .val (.int i1), .val (.int i2), .val (.int i3), .val (.long i4), .second, .unset, .unset, .unset, .unset, .unset, .unset, .unset, .unset] [] by first | (simp [entryFrame, mkF, argsToLocals, Value.category, maxLocals]; done) | rfl) k) ?_
  show own_Fin p.tables e below _ (s₁.setTop (mkF m 0 #[.val (.int i0), .val (.int i1), .val (.int i2), .val (.int i3), .val (.long i4), .second, .unset, .unset, .unset, .unset, .unset, .unset, .unset, .unset] []))
  obtain ⟨T1, h1, X1, e1, E1, A1, D1, U1, st1⟩ := newO X0 hx hZ hown (hw _ (List.mem_of_getElem? (i := 0) rfl)) (hw _ (List.mem_of_getElem? (i := 1) rfl)) (hw _ (List.mem_of_getElem? (i := 2) rfl)) e0 (g := (mkF m 0 #[.val (.int i0), .val (.int i1), .val (.int i2), .val (.int i3), .val (.long i4), .second, .unset, .unset, .unset, .unset, .unset, .unset, .unset, .unset] [])) rfl (hb hby at_0) (by decide) (by decide)
  obtain ⟨b1, g1⟩ : ∃ z, z = h0.size := ⟨_, rfl⟩
  have g_b1 : n0 ≤ b1 := Nat.le_trans Z0 (Nat.le_of_eq g1.symm)
  rw [← g1] at A1 D1 U1 st1
  refine own_st st1 ?_
  have O0'1 := O0.ext E1
  have Z1 : n0 ≤ h1.size := Nat.le_trans Z0 E1.1
  have F_blocks_b1 : Fld Z h1 b1 "com/example/chiffchaff/chiffchaff/OpenElements" "blocks" "[Lcom/example/chiffchaff/chiffchaff/OpenElements$Block;" .null := D1 (Or.inl (hw _ (List.mem_of_getElem? (i := 33) rfl))) (ty := (.array (.object "com/example/chiffchaff/chiffchaff/OpenElements$Block"))) (by decide)
  have F_top_b1 : Fld Z h1 b1 "com/example/chiffchaff/chiffchaff/OpenElements" "top" "Lcom/example/chiffchaff/chiffchaff/OpenElements$Block;" .null := D1 (Or.inl (hw _ (List.mem_of_getElem? (i := 35) rfl))) (ty := (.object "com/example/chiffchaff/chiffchaff/OpenElements$Block")) (by decide)
  have F_topAt_b1 : Fld Z h1 b1 "com/example/chiffchaff/chiffchaff/OpenElements" "topAt" "I" (.int (0 : Int32)) := D1 (Or.inl (hw _ (List.mem_of_getElem? (i := 37) rfl))) (ty := .int) (by decide)
  have F_depth_b1 : Fld Z h1 b1 "com/example/chiffchaff/chiffchaff/OpenElements" "depth" "I" (.int (0 : Int32)) := D1 (Or.inl (hw _ (List.mem_of_getElem? (i := 57) rfl))) (ty := .int) (by decide)
  show own_Fin p.tables e below _ (T1.setTop (mkF m 3 #[.val (.int i0), .val (.int i1), .val (.int i2), .val (.int i3), .val (.long i4), .second, .unset, .unset, .unset, .unset, .unset, .unset, .unset, .unset] [(.ref b1)]))
  refine own_st (fun t k => XS.dup X1.here hx rfl (hb hby at_3) rfl rfl k) ?_
  show own_Fin p.tables e below _ (T1.setTop (mkF m 4 #[.val (.int i0), .val (.int i1), .val (.int i2), .val (.int i3), .val (.long i4), .second, .unset, .unset, .unset, .unset, .unset, .unset, .unset, .unset] [(.ref b1), (.ref b1)]))
  obtain ⟨_, _, ⟨T2, L2, k2, n2⟩, -, X2, ⟨Lc2, hQ2, l2, y2, z2⟩, st2⟩ := X1.specialBack hx (y := (⟨"com/example/chiffchaff/chiffchaff/OpenElements", "<init>", "()V"⟩ : MethodName)) rfl hown (mvT hZ (hw _ (List.mem_of_getElem? (i := 3) rfl))) (mvT hZ (hw _ (List.mem_of_getElem? (i := 4) rfl))) (mvT hZ (hw _ (List.mem_of_getElem? (i := 5) rfl))) (by decide) (backOf (W := 1) (rm1 l Z a0 hw [] b1 h1 n0 Z1 F_blocks_b1 F_top_b1 F_topAt_b1 F_depth_b1 A1 g_b1 O0'1) hZ (hw _ (List.mem_of_getElem? (i := 5) rfl)) (hw _ (List.mem_of_getElem? (i := 2) rfl)) (by decide) (by decide)) (g := (mkF m 4 #[.val (.int i0), .val (.int i1), .val (.int i2), .val (.int i3), .val (.long i4), .second, .unset, .unset, .unset, .unset, .unset, .unset, .unset, .unset] [(.ref b1), (.ref b1)])) rfl (by rw [hml]; rfl) (Steps.refl _) (a := b1) (argsL := []) (rest := [(.ref b1)]) (lenOf pd___V rfl) rfl (by show 2 * 0 + _ ≤ _; exact Nat.le_of_eq rfl) (hb hby at_4) (fun _ _ => ⟨rfl, e1, (by decide : 1 + 6 ≤ _), (by decide : 4 + 71 ≤ _)⟩)
  dsimp only [Pt.U, Pt.locs, Pt.cells, Pt.slots] at X2 l2 y2 z2 st2 hQ2
  subst l2 y2 z2
  obtain ⟨rfl, N2, O2, b, bl, nm, ur, lv, bd, kB, OE1⟩ := hQ2
  refine own_st (fun t k => st2.trans k) ?_
  have Z2 : n0 ≤ T2.heap.size := O2.1 ▸ O2.2.1
  have N2a := Fr.app N0 N2
  show own_Fin p.tables e below _ (T2.setTop (mkF m 7 #[.val (.int i0), .val (.int i1), .val (.int i2), .val (.int i3), .val (.long i4), .second, .unset, .unset, .unset, .unset, .unset, .unset, .unset, .unset] [(.ref b1)]))
  refine own_st (fun t k => XS.astore X2.here hx rfl (hb hby at_7) rfl rfl (l' := #[.val (.int i0), .val (.int i1), .val (.int i2), .val (.int i3), .val (.long i4), .second, .val (.ref b1), .unset, .unset, .unset, .unset, .unset, .unset, .unset]) rfl k) ?_
  show own_Fin p.tables e below _ (T2.setTop (mkF m 9 #[.val (.int i0), .val (.int i1), .val (.int i2), .val (.int i3), .val (.long i4), .second, .val (.ref b1), .unset, .unset, .unset, .unset, .unset, .unset, .unset] []))
  refine own_st (fun t k => XS.aload X2.here hx rfl (hb hby at_9) rfl rfl k) ?_
  show own_Fin p.tables e below _ (T2.setTop (mkF m 11 #[.val (.int i0), .val (.int i1), .val (.int i2), .val (.int i3), .val (.long i4), .second, .val (.ref b1), .unset, .unset, .unset, .unset, .unset, .unset, .unset] [(.ref b1)]))
  obtain ⟨cq3, kq3, qa3, qb3, qc3⟩ := isOf hZ rfl OE1.1.1
  obtain ⟨_, _, ⟨T3, L3, k3, n3⟩, -, X3, ⟨Lc3, hQ3, l3, y3, z3⟩, st3⟩ := X2.virtualBack hx (y := (⟨"com/example/chiffchaff/chiffchaff/OpenElements", "room", "()I"⟩ : MethodName)) (z := (⟨"com/example/chiffchaff/chiffchaff/OpenElements", "room", "()I"⟩ : MethodName)) hown (mvT hZ (hw _ (List.mem_of_getElem? (i := 38) rfl))) (mvT hZ (hw _ (List.mem_of_getElem? (i := 39) rfl))) (notFace_of_selects (args := #[]) (mvT hZ (hw _ (List.mem_of_getElem? (i := 41) rfl)))) (mvT hZ (hw _ (List.mem_of_getElem? (i := 41) rfl))) (mvT hZ (hw _ (List.mem_of_getElem? (i := 40) rfl))) (by decide) (backOf (W := 0) (rm4 l Z a0 hw [] b1 b bl nm ur lv bd kB .null 0 T2.heap n0 Z2 OE1) hZ (hw _ (List.mem_of_getElem? (i := 42) rfl)) (hw _ (List.mem_of_getElem? (i := 2) rfl)) (by decide) (by decide)) qa3 qc3 (g := (mkF m 11 #[.val (.int i0), .val (.int i1), .val (.int i2), .val (.int i3), .val (.long i4), .second, .val (.ref b1), .unset, .unset, .unset, .unset, .unset, .unset, .unset] [(.ref b1)])) rfl (by rw [hml]; rfl) (Steps.refl _) (argsL := []) (rest := []) (lenOf pd___I rfl) rfl (by show 2 * 0 + _ ≤ _; exact Nat.le_of_eq rfl) (hb hby at_11) (fun _ _ => ⟨rfl, rfl, (by decide : 7 + 0 ≤ _), (by decide : 75 + 0 ≤ _)⟩)
  dsimp only [Pt.U, Pt.locs, Pt.cells, Pt.slots] at X3 l3 y3 z3 st3 hQ3
  subst l3 y3 z3
  obtain ⟨rfl, N3, q3⟩ := hQ3
  refine own_st (fun t k => st3.trans k) ?_
  have N3a := Fr.app N2a N3
  show own_Fin p.tables e below _ (T3.setTop (mkF m 14 #[.val (.int i0), .val (.int i1), .val (.int i2), .val (.int i3), .val (.long i4), .second, .val (.ref b1), .unset, .unset, .unset, .unset, .unset, .unset, .unset] [(.int (16 : Int32))]))
  refine own_st (fun t k => XS.bipush X3.here hx rfl (hb hby at_14) k) ?_
  show own_Fin p.tables e below _ (T3.setTop (mkF m 16 #[.val (.int i0), .val (.int i1), .val (.int i2), .val (.int i3), .val (.long i4), .second, .val (.ref b1), .unset, .unset, .unset, .unset, .unset, .unset, .unset] [(.int (16 : Int32)), (.int (16 : Int32))]))
  refine own_st (fun t k => XS.icmpNo X3.here hx rfl (hb hby at_16) rfl (XT.ii_ne_f (by decide)) k) ?_
  show own_Fin p.tables e below _ (T3.setTop (mkF m 19 #[.val (.int i0), .val (.int i1), .val (.int i2), .val (.int i3), .val (.long i4), .second, .val (.ref b1), .unset, .unset, .unset, .unset, .unset, .unset, .unset] []))
  refine own_st (fun t k => XS.iconst X3.here hx rfl (hb hby at_19) k) ?_
  show own_Fin p.tables e below _ (T3.setTop (mkF m 20 #[.val (.int i0), .val (.int i1), .val (.int i2), .val (.int i3), .val (.long i4), .second, .val (.ref b1), .unset, .unset, .unset, .unset, .unset, .unset, .unset] [(.int (1 : Int32))]))
  refine own_st (fun t k => XS.goto X3.here hx rfl (pc0 := 20) (pc' := 24) rfl (hb hby at_20) (by decide) (by decide) k) ?_
  show own_Fin p.tables e below _ (T3.setTop (mkF m 24 #[.val (.int i0), .val (.int i1), .val (.int i2), .val (.int i3), .val (.long i4), .second, .val (.ref b1), .unset, .unset, .unset, .unset, .unset, .unset, .unset] [(.int (1 : Int32))]))
  refine own_st (fun t k => XS.istore X3.here hx rfl (hb hby at_24) rfl (l' := #[.val (.int i0), .val (.int i1), .val (.int i2), .val (.int i3), .val (.long i4), .second, .val (.ref b1), .val (.int (1 : Int32)), .unset, .unset, .unset, .unset, .unset, .unset]) rfl k) ?_
  show own_Fin p.tables e below _ (T3.setTop (mkF m 26 #[.val (.int i0), .val (.int i1), .val (.int i2), .val (.int i3), .val (.long i4), .second, .val (.ref b1), .val (.int (1 : Int32)), .unset, .unset, .unset, .unset, .unset, .unset] []))
  have t147 : ∀ (T : State) (h : Heap) (locs : List Loc) (cl sl : Nat) (X : Stand p l e room_1 s m #[(.int i0), (.int i1), (.int i2), (.int i3), (.long i4)] below meth c T locs cl sl) (eT : T.heap = h) (N : Fr n0 locs) (hcl : cl ≤ 14) (hsl : sl ≤ 160) (Zh : n0 ≤ h.size) (O : Old Z n0 h) (aT : Addr) (pp : Int32) (tv : Value) (d : Int32) (hd : (d = 0 ∨ d = 1 ∨ d = 2 ∨ d = 3)) (OE0 : own_OE Z h n0 b1 b bl nm ur lv bd kB tv d), own_Fin p.tables e below (fun s₂ o => ∃ v L, o = .returned v ∧ Q0 Z i0 i1 i2 i3 i4 aU aN bN kN h0 n0 v s₂.heap L ∧ FrameEnd s o s₂ L room_1.cells room_1.slots) (T.setTop (mkF m 147 #[.val (.int i0), .val (.int i1), .val (.int i2), .val (.int i3), .val (.long i4), .second, .val (.ref b1), .val (.int (1 : Int32)), .val (.int (i0 &&& (3 : Int32))), .val (.int pp), .val (.ref aT), .unset, .unset, .unset] [])) := by
    intro T h locs cl sl X eT N hcl hsl Zh O aT pp tv d hd OE0
    show own_Fin p.tables e below _ (T.setTop (mkF m 147 #[.val (.int i0), .val (.int i1), .val (.int i2), .val (.int i3), .val (.long i4), .second, .val (.ref b1), .val (.int (1 : Int32)), .val (.int (i0 &&& (3 : Int32))), .val (.int pp), .val (.ref aT), .unset, .unset, .unset] []))
    refine own_st (fun t k => XS.iloadN X.here hx rfl (hb hby at_147) rfl k) ?_
    show own_Fin p.tables e below _ (T.setTop (mkF m 148 #[.val (.int i0), .val (.int i1), .val (.int i2), .val (.int i3), .val (.long i4), .second, .val (.ref b1), .val (.int (1 : Int32)), .val (.int (i0 &&& (3 : Int32))), .val (.int pp), .val (.ref aT), .unset, .unset, .unset] [(.int i2)]))
    refine own_st (fun t k => XS.iconst X.here hx rfl (hb hby at_148) k) ?_
    show own_Fin p.tables e below _ (T.setTop (mkF m 149 #[.val (.int i0), .val (.int i1), .val (.int i2), .val (.int i3), .val (.long i4), .second, .val (.ref b1), .val (.int (1 : Int32)), .val (.int (i0 &&& (3 : Int32))), .val (.int pp), .val (.ref aT), .unset, .unset, .unset] [(.int (2 : Int32)), (.int i2)]))
    refine own_st (fun t k => XS.iand X.here hx rfl (hb hby at_149) rfl k) ?_
    show own_Fin p.tables e below _ (T.setTop (mkF m 150 #[.val (.int i0), .val (.int i1), .val (.int i2), .val (.int i3), .val (.long i4), .second, .val (.ref b1), .val (.int (1 : Int32)), .val (.int (i0 &&& (3 : Int32))), .val (.int pp), .val (.ref aT), .unset, .unset, .unset] [(.int (i2 &&& (2 : Int32)))]))
    rcases Decidable.em ((i2 &&& (2 : Int32)) = 0) with f2 | f2
    · have _ := f2
      refine own_st (fun t k => XS.ifYes X.here hx rfl (pc0 := 150) (pc' := 157) rfl (hb hby at_150) rfl (XT.i0_eq_t f2) (by decide) (by decide) k) ?_
      show own_Fin p.tables e below _ (T.setTop (mkF m 157 #[.val (.int i0), .val (.int i1), .val (.int i2), .val (.int i3), .val (.long i4), .second, .val (.ref b1), .val (.int (1 : Int32)), .val (.int (i0 &&& (3 : Int32))), .val (.int pp), .val (.ref aT), .unset, .unset, .unset] []))
      refine own_st (fun t k => XS.iconst X.here hx rfl (hb hby at_157) k) ?_
      show own_Fin p.tables e below _ (T.setTop (mkF m 158 #[.val (.int i0), .val (.int i1), .val (.int i2), .val (.int i3), .val (.long i4), .second, .val (.ref b1), .val (.int (1 : Int32)), .val (.int (i0 &&& (3 : Int32))), .val (.int pp), .val (.ref aT), .unset, .unset, .unset] [(.int (0 : Int32))]))
      refine own_st (fun t k => XS.istore X.here hx rfl (hb hby at_158) rfl (l' := #[.val (.int i0), .val (.int i1), .val (.int i2), .val (.int i3), .val (.long i4), .second, .val (.ref b1), .val (.int (1 : Int32)), .val (.int (i0 &&& (3 : Int32))), .val (.int pp), .val (.ref aT), .val (.int (0 : Int32)), .unset, .unset]) rfl k) ?_
      show own_Fin p.tables e below _ (T.setTop (mkF m 160 #[.val (.int i0), .val (.int i1), .val (.int i2), .val (.int i3), .val (.long i4), .second, .val (.ref b1), .val (.int (1 : Int32)), .val (.int (i0 &&& (3 : Int32))), .val (.int pp), .val (.ref aT), .val (.int (0 : Int32)), .unset, .unset] []))
      refine own_st (fun t k => XS.iloadN X.here hx rfl (hb hby at_160) rfl k) ?_
      show own_Fin p.tables e below _ (T.setTop (mkF m 161 #[.val (.int i0), .val (.int i1), .val (.int i2), .val (.int i3), .val (.long i4), .second, .val (.ref b1), .val (.int (1 : Int32)), .val (.int (i0 &&& (3 : Int32))), .val (.int pp), .val (.ref aT), .val (.int (0 : Int32)), .unset, .unset] [(.int i2)]))
      refine own_st (fun t k => XS.iconst X.here hx rfl (hb hby at_161) k) ?_
      show own_Fin p.tables e below _ (T.setTop (mkF m 162 #[.val (.int i0), .val (.int i1), .val (.int i2), .val (.int i3), .val (.long i4), .second, .val (.ref b1), .val (.int (1 : Int32)), .val (.int (i0 &&& (3 : Int32))), .val (.int pp), .val (.ref aT), .val (.int (0 : Int32)), .unset, .unset] [(.int (4 : Int32)), (.int i2)]))
      refine own_st (fun t k => XS.iand X.here hx rfl (hb hby at_162) rfl k) ?_
      show own_Fin p.tables e below _ (T.setTop (mkF m 163 #[.val (.int i0), .val (.int i1), .val (.int i2), .val (.int i3), .val (.long i4), .second, .val (.ref b1), .val (.int (1 : Int32)), .val (.int (i0 &&& (3 : Int32))), .val (.int pp), .val (.ref aT), .val (.int (0 : Int32)), .unset, .unset] [(.int (i2 &&& (4 : Int32)))]))
      rcases Decidable.em ((i2 &&& (4 : Int32)) = 0) with f4 | f4
      · have _ := f4
        refine own_st (fun t k => XS.ifYes X.here hx rfl (pc0 := 163) (pc' := 170) rfl (hb hby at_163) rfl (XT.i0_eq_t f4) (by decide) (by decide) k) ?_
        show own_Fin p.tables e below _ (T.setTop (mkF m 170 #[.val (.int i0), .val (.int i1), .val (.int i2), .val (.int i3), .val (.long i4), .second, .val (.ref b1), .val (.int (1 : Int32)), .val (.int (i0 &&& (3 : Int32))), .val (.int pp), .val (.ref aT), .val (.int (0 : Int32)), .unset, .unset] []))
        refine own_st (fun t k => XS.iconst X.here hx rfl (hb hby at_170) k) ?_
        show own_Fin p.tables e below _ (T.setTop (mkF m 171 #[.val (.int i0), .val (.int i1), .val (.int i2), .val (.int i3), .val (.long i4), .second, .val (.ref b1), .val (.int (1 : Int32)), .val (.int (i0 &&& (3 : Int32))), .val (.int pp), .val (.ref aT), .val (.int (0 : Int32)), .unset, .unset] [(.int (0 : Int32))]))
        refine own_st (fun t k => XS.istore X.here hx rfl (hb hby at_171) rfl (l' := #[.val (.int i0), .val (.int i1), .val (.int i2), .val (.int i3), .val (.long i4), .second, .val (.ref b1), .val (.int (1 : Int32)), .val (.int (i0 &&& (3 : Int32))), .val (.int pp), .val (.ref aT), .val (.int (0 : Int32)), .val (.int (0 : Int32)), .unset]) rfl k) ?_
        show own_Fin p.tables e below _ (T.setTop (mkF m 173 #[.val (.int i0), .val (.int i1), .val (.int i2), .val (.int i3), .val (.long i4), .second, .val (.ref b1), .val (.int (1 : Int32)), .val (.int (i0 &&& (3 : Int32))), .val (.int pp), .val (.ref aT), .val (.int (0 : Int32)), .val (.int (0 : Int32)), .unset] []))
        refine own_st (fun t k => XS.iload X.here hx rfl (hb hby at_173) rfl k) ?_
        show own_Fin p.tables e below _ (T.setTop (mkF m 175 #[.val (.int i0), .val (.int i1), .val (.int i2), .val (.int i3), .val (.long i4), .second, .val (.ref b1), .val (.int (1 : Int32)), .val (.int (i0 &&& (3 : Int32))), .val (.int pp), .val (.ref aT), .val (.int (0 : Int32)), .val (.int (0 : Int32)), .unset] [(.int (0 : Int32))]))
        refine own_st (fun t k => XS.ifYes X.here hx rfl (pc0 := 175) (pc' := 183) rfl (hb hby at_175) rfl (XT.i0_eq_t (by decide)) (by decide) (by decide) k) ?_
        show own_Fin p.tables e below _ (T.setTop (mkF m 183 #[.val (.int i0), .val (.int i1), .val (.int i2), .val (.int i3), .val (.long i4), .second, .val (.ref b1), .val (.int (1 : Int32)), .val (.int (i0 &&& (3 : Int32))), .val (.int pp), .val (.ref aT), .val (.int (0 : Int32)), .val (.int (0 : Int32)), .unset] []))
        refine own_st (fun t k => XS.iload X.here hx rfl (hb hby at_183) rfl k) ?_
        show own_Fin p.tables e below _ (T.setTop (mkF m 185 #[.val (.int i0), .val (.int i1), .val (.int i2), .val (.int i3), .val (.long i4), .second, .val (.ref b1), .val (.int (1 : Int32)), .val (.int (i0 &&& (3 : Int32))), .val (.int pp), .val (.ref aT), .val (.int (0 : Int32)), .val (.int (0 : Int32)), .unset] [(.int (0 : Int32))]))
        refine own_st (fun t k => XS.ifYes X.here hx rfl (pc0 := 185) (pc' := 193) rfl (hb hby at_185) rfl (XT.i0_eq_t (by decide)) (by decide) (by decide) k) ?_
        show own_Fin p.tables e below _ (T.setTop (mkF m 193 #[.val (.int i0), .val (.int i1), .val (.int i2), .val (.int i3), .val (.long i4), .second, .val (.ref b1), .val (.int (1 : Int32)), .val (.int (i0 &&& (3 : Int32))), .val (.int pp), .val (.ref aT), .val (.int (0 : Int32)), .val (.int (0 : Int32)), .unset] []))
        refine own_st (fun t k => XS.iload X.here hx rfl (hb hby at_193) rfl k) ?_
        show own_Fin p.tables e below _ (T.setTop (mkF m 195 #[.val (.int i0), .val (.int i1), .val (.int i2), .val (.int i3), .val (.long i4), .second, .val (.ref b1), .val (.int (1 : Int32)), .val (.int (i0 &&& (3 : Int32))), .val (.int pp), .val (.ref aT), .val (.int (0 : Int32)), .val (.int (0 : Int32)), .unset] [(.int (0 : Int32))]))
        refine own_st (fun t k => XS.ifYes X.here hx rfl (pc0 := 195) (pc' := 202) rfl (hb hby at_195) rfl (XT.i0_eq_t (by decide)) (by decide) (by decide) k) ?_
        show own_Fin p.tables e below _ (T.setTop (mkF m 202 #[.val (.int i0), .val (.int i1), .val (.int i2), .val (.int i3), .val (.long i4), .second, .val (.ref b1), .val (.int (1 : Int32)), .val (.int (i0 &&& (3 : Int32))), .val (.int pp), .val (.ref aT), .val (.int (0 : Int32)), .val (.int (0 : Int32)), .unset] []))
        refine own_st (fun t k => XS.bipush X.here hx rfl (hb hby at_202) k) ?_
        show own_Fin p.tables e below _ (T.setTop (mkF m 204 #[.val (.int i0), .val (.int i1), .val (.int i2), .val (.int i3), .val (.long i4), .second, .val (.ref b1), .val (.int (1 : Int32)), .val (.int (i0 &&& (3 : Int32))), .val (.int pp), .val (.ref aT), .val (.int (0 : Int32)), .val (.int (0 : Int32)), .unset] [(.int (16 : Int32))]))
        refine own_st (fun t k => XS.istore X.here hx rfl (hb hby at_204) rfl (l' := #[.val (.int i0), .val (.int i1), .val (.int i2), .val (.int i3), .val (.long i4), .second, .val (.ref b1), .val (.int (1 : Int32)), .val (.int (i0 &&& (3 : Int32))), .val (.int pp), .val (.ref aT), .val (.int (0 : Int32)), .val (.int (0 : Int32)), .val (.int (16 : Int32))]) rfl k) ?_
        show own_Fin p.tables e below _ (T.setTop (mkF m 206 #[.val (.int i0), .val (.int i1), .val (.int i2), .val (.int i3), .val (.long i4), .second, .val (.ref b1), .val (.int (1 : Int32)), .val (.int (i0 &&& (3 : Int32))), .val (.int pp), .val (.ref aT), .val (.int (0 : Int32)), .val (.int (0 : Int32)), .val (.int (16 : Int32))] []))
        refine own_st (fun t k => XS.iload X.here hx rfl (hb hby at_206) rfl k) ?_
        show own_Fin p.tables e below _ (T.setTop (mkF m 208 #[.val (.int i0), .val (.int i1), .val (.int i2), .val (.int i3), .val (.long i4), .second, .val (.ref b1), .val (.int (1 : Int32)), .val (.int (i0 &&& (3 : Int32))), .val (.int pp), .val (.ref aT), .val (.int (0 : Int32)), .val (.int (0 : Int32)), .val (.int (16 : Int32))] [(.int (1 : Int32))]))
        refine own_st (fun t k => XS.ifNo X.here hx rfl (hb hby at_208) rfl (XT.i0_eq_f (by decide)) k) ?_
        show own_Fin p.tables e below _ (T.setTop (mkF m 211 #[.val (.int i0), .val (.int i1), .val (.int i2), .val (.int i3), .val (.long i4), .second, .val (.ref b1), .val (.int (1 : Int32)), .val (.int (i0 &&& (3 : Int32))), .val (.int pp), .val (.ref aT), .val (.int (0 : Int32)), .val (.int (0 : Int32)), .val (.int (16 : Int32))] []))
        refine own_st (fun t k => XS.aload X.here hx rfl (hb hby at_211) rfl rfl k) ?_
        show own_Fin p.tables e below _ (T.setTop (mkF m 213 #[.val (.int i0), .val (.int i1), .val (.int i2), .val (.int i3), .val (.long i4), .second, .val (.ref b1), .val (.int (1 : Int32)), .val (.int (i0 &&& (3 : Int32))), .val (.int pp), .val (.ref aT), .val (.int (0 : Int32)), .val (.int (0 : Int32)), .val (.int (16 : Int32))] [(.ref b1)]))
        obtain ⟨cq4, kq4, qa4, qb4, qc4⟩ := isOf hZ eT OE0.1.1
        obtain ⟨_, _, ⟨T4, L4, k4, n4⟩, -, X4, ⟨Lc4, hQ4, l4, y4, z4⟩, st4⟩ := X.virtualBack hx (y := (⟨"com/example/chiffchaff/chiffchaff/OpenElements", "room", "()I"⟩ : MethodName)) (z := (⟨"com/example/chiffchaff/chiffchaff/OpenElements", "room", "()I"⟩ : MethodName)) hown (mvT hZ (hw _ (List.mem_of_getElem? (i := 38) rfl))) (mvT hZ (hw _ (List.mem_of_getElem? (i := 39) rfl))) (notFace_of_selects (args := #[]) (mvT hZ (hw _ (List.mem_of_getElem? (i := 41) rfl)))) (mvT hZ (hw _ (List.mem_of_getElem? (i := 41) rfl))) (mvT hZ (hw _ (List.mem_of_getElem? (i := 40) rfl))) (by decide) (backOf (W := 0) (rm4 l Z a0 hw [] b1 b bl nm ur lv bd kB _ _ h n0 Zh OE0) hZ (hw _ (List.mem_of_getElem? (i := 42) rfl)) (hw _ (List.mem_of_getElem? (i := 2) rfl)) (by decide) (by decide)) qa4 qc4 (g := (mkF m 213 #[.val (.int i0), .val (.int i1), .val (.int i2), .val (.int i3), .val (.long i4), .second, .val (.ref b1), .val (.int (1 : Int32)), .val (.int (i0 &&& (3 : Int32))), .val (.int pp), .val (.ref aT), .val (.int (0 : Int32)), .val (.int (0 : Int32)), .val (.int (16 : Int32))] [(.ref b1)])) rfl (by rw [hml]; rfl) (Steps.refl _) (argsL := []) (rest := []) (lenOf pd___I rfl) rfl (by show 2 * 0 + _ ≤ _; exact Nat.le_of_eq rfl) (hb hby at_213) (fun _ _ => ⟨rfl, eT, (by show cl + 0 ≤ 32; omega), (by show sl + 0 ≤ 256; omega)⟩)
        dsimp only [Pt.U, Pt.locs, Pt.cells, Pt.slots] at X4 l4 y4 z4 st4 hQ4
        have y4s := y4.symm; have z4s := z4.symm
        subst l4 y4s z4s
        obtain ⟨rfl, N4, q4⟩ := hQ4
        refine own_st (fun t k => st4.trans k) ?_
        have N4a := Fr.app N N4
        show own_Fin p.tables e below _ (T4.setTop (mkF m 216 #[.val (.int i0), .val (.int i1), .val (.int i2), .val (.int i3), .val (.long i4), .second, .val (.ref b1), .val (.int (1 : Int32)), .val (.int (i0 &&& (3 : Int32))), .val (.int pp), .val (.ref aT), .val (.int (0 : Int32)), .val (.int (0 : Int32)), .val (.int (16 : Int32))] [(.int (16 : Int32))]))
        refine own_st (fun t k => XS.iload X4.here hx rfl (hb hby at_216) rfl k) ?_
        show own_Fin p.tables e below _ (T4.setTop (mkF m 218 #[.val (.int i0), .val (.int i1), .val (.int i2), .val (.int i3), .val (.long i4), .second, .val (.ref b1), .val (.int (1 : Int32)), .val (.int (i0 &&& (3 : Int32))), .val (.int pp), .val (.ref aT), .val (.int (0 : Int32)), .val (.int (0 : Int32)), .val (.int (16 : Int32))] [(.int (16 : Int32)), (.int (16 : Int32))]))
        refine own_st (fun t k => XS.icmpNo X4.here hx rfl (hb hby at_218) rfl (XT.ii_ne_f (by decide)) k) ?_
        show own_Fin p.tables e below _ (T4.setTop (mkF m 221 #[.val (.int i0), .val (.int i1), .val (.int i2), .val (.int i3), .val (.long i4), .second, .val (.ref b1), .val (.int (1 : Int32)), .val (.int (i0 &&& (3 : Int32))), .val (.int pp), .val (.ref aT), .val (.int (0 : Int32)), .val (.int (0 : Int32)), .val (.int (16 : Int32))] []))
        refine own_st (fun t k => XS.iconst X4.here hx rfl (hb hby at_221) k) ?_
        show own_Fin p.tables e below _ (T4.setTop (mkF m 222 #[.val (.int i0), .val (.int i1), .val (.int i2), .val (.int i3), .val (.long i4), .second, .val (.ref b1), .val (.int (1 : Int32)), .val (.int (i0 &&& (3 : Int32))), .val (.int pp), .val (.ref aT), .val (.int (0 : Int32)), .val (.int (0 : Int32)), .val (.int (16 : Int32))] [(.int (1 : Int32))]))
        refine own_st (fun t k => XS.goto X4.here hx rfl (pc0 := 222) (pc' := 226) rfl (hb hby at_222) (by decide) (by decide) k) ?_
        show own_Fin p.tables e below _ (T4.setTop (mkF m 226 #[.val (.int i0), .val (.int i1), .val (.int i2), .val (.int i3), .val (.long i4), .second, .val (.ref b1), .val (.int (1 : Int32)), .val (.int (i0 &&& (3 : Int32))), .val (.int pp), .val (.ref aT), .val (.int (0 : Int32)), .val (.int (0 : Int32)), .val (.int (16 : Int32))] [(.int (1 : Int32))]))
        obtain ⟨fs, hr, hrun, hended, hW, hsame⟩ := X4.leave (v := (some (.int (1 : Int32)))) (fun h => by rw [Bd.returns] at h; cases h)
        refine ⟨_, _, retN X4 hx (t := .boolean) Bd.returns (by simp) (hb hby at_226) hr, hrun, hended, _, _, rfl, ?_, ⟨_, rfl⟩, hW, hsame.mono (by show cl + 0 ≤ 32; omega) (by show sl + 0 ≤ 256; omega)⟩
        show Q0 Z i0 i1 i2 i3 i4 aU aN bN kN h0 n0 _ T4.heap _
        rw [q4]
        exact ⟨rfl, N4a⟩
      · have _ := f4
        refine own_st (fun t k => XS.ifNo X.here hx rfl (hb hby at_163) rfl (XT.i0_eq_f f4) k) ?_
        show own_Fin p.tables e below _ (T.setTop (mkF m 166 #[.val (.int i0), .val (.int i1), .val (.int i2), .val (.int i3), .val (.long i4), .second, .val (.ref b1), .val (.int (1 : Int32)), .val (.int (i0 &&& (3 : Int32))), .val (.int pp), .val (.ref aT), .val (.int (0 : Int32)), .unset, .unset] []))
        refine own_st (fun t k => XS.iconst X.here hx rfl (hb hby at_166) k) ?_
        show own_Fin p.tables e below _ (T.setTop (mkF m 167 #[.val (.int i0), .val (.int i1), .val (.int i2), .val (.int i3), .val (.long i4), .second, .val (.ref b1), .val (.int (1 : Int32)), .val (.int (i0 &&& (3 : Int32))), .val (.int pp), .val (.ref aT), .val (.int (0 : Int32)), .unset, .unset] [(.int (1 : Int32))]))
        refine own_st (fun t k => XS.goto X.here hx rfl (pc0 := 167) (pc' := 171) rfl (hb hby at_167) (by decide) (by decide) k) ?_
        show own_Fin p.tables e below _ (T.setTop (mkF m 171 #[.val (.int i0), .val (.int i1), .val (.int i2), .val (.int i3), .val (.long i4), .second, .val (.ref b1), .val (.int (1 : Int32)), .val (.int (i0 &&& (3 : Int32))), .val (.int pp), .val (.ref aT), .val (.int (0 : Int32)), .unset, .unset] [(.int (1 : Int32))]))
        refine own_st (fun t k => XS.istore X.here hx rfl (hb hby at_171) rfl (l' := #[.val (.int i0), .val (.int i1), .val (.int i2), .val (.int i3), .val (.long i4), .second, .val (.ref b1), .val (.int (1 : Int32)), .val (.int (i0 &&& (3 : Int32))), .val (.int pp), .val (.ref aT), .val (.int (0 : Int32)), .val (.int (1 : Int32)), .unset]) rfl k) ?_
        show own_Fin p.tables e below _ (T.setTop (mkF m 173 #[.val (.int i0), .val (.int i1), .val (.int i2), .val (.int i3), .val (.long i4), .second, .val (.ref b1), .val (.int (1 : Int32)), .val (.int (i0 &&& (3 : Int32))), .val (.int pp), .val (.ref aT), .val (.int (0 : Int32)), .val (.int (1 : Int32)), .unset] []))
        refine own_st (fun t k => XS.iload X.here hx rfl (hb hby at_173) rfl k) ?_
        show own_Fin p.tables e below _ (T.setTop (mkF m 175 #[.val (.int i0), .val (.int i1), .val (.int i2), .val (.int i3), .val (.long i4), .second, .val (.ref b1), .val (.int (1 : Int32)), .val (.int (i0 &&& (3 : Int32))), .val (.int pp), .val (.ref aT), .val (.int (0 : Int32)), .val (.int (1 : Int32)), .unset] [(.int (0 : Int32))]))
        refine own_st (fun t k => XS.ifYes X.here hx rfl (pc0 := 175) (pc' := 183) rfl (hb hby at_175) rfl (XT.i0_eq_t (by decide)) (by decide) (by decide) k) ?_
        show own_Fin p.tables e below _ (T.setTop (mkF m 183 #[.val (.int i0), .val (.int i1), .val (.int i2), .val (.int i3), .val (.long i4), .second, .val (.ref b1), .val (.int (1 : Int32)), .val (.int (i0 &&& (3 : Int32))), .val (.int pp), .val (.ref aT), .val (.int (0 : Int32)), .val (.int (1 : Int32)), .unset] []))
        refine own_st (fun t k => XS.iload X.here hx rfl (hb hby at_183) rfl k) ?_
        show own_Fin p.tables e below _ (T.setTop (mkF m 185 #[.val (.int i0), .val (.int i1), .val (.int i2), .val (.int i3), .val (.long i4), .second, .val (.ref b1), .val (.int (1 : Int32)), .val (.int (i0 &&& (3 : Int32))), .val (.int pp), .val (.ref aT), .val (.int (0 : Int32)), .val (.int (1 : Int32)), .unset] [(.int (1 : Int32))]))
        refine own_st (fun t k => XS.ifNo X.here hx rfl (hb hby at_185) rfl (XT.i0_eq_f (by decide)) k) ?_
        show own_Fin p.tables e below _ (T.setTop (mkF m 188 #[.val (.int i0), .val (.int i1), .val (.int i2), .val (.int i3), .val (.long i4), .second, .val (.ref b1), .val (.int (1 : Int32)), .val (.int (i0 &&& (3 : Int32))), .val (.int pp), .val (.ref aT), .val (.int (0 : Int32)), .val (.int (1 : Int32)), .unset] []))
        refine own_st (fun t k => XS.aload X.here hx rfl (hb hby at_188) rfl rfl k) ?_
        show own_Fin p.tables e below _ (T.setTop (mkF m 190 #[.val (.int i0), .val (.int i1), .val (.int i2), .val (.int i3), .val (.long i4), .second, .val (.ref b1), .val (.int (1 : Int32)), .val (.int (i0 &&& (3 : Int32))), .val (.int pp), .val (.ref aT), .val (.int (0 : Int32)), .val (.int (1 : Int32)), .unset] [(.ref b1)]))
        obtain ⟨cq5, kq5, qa5, qb5, qc5⟩ := isOf hZ eT OE0.1.1
        obtain ⟨_, _, ⟨T5, L5, k5, n5⟩, -, X5, ⟨Lc5, hQ5, l5, y5, z5⟩, st5⟩ := X.virtualBack hx (y := (⟨"com/example/chiffchaff/chiffchaff/OpenElements", "release", "()V"⟩ : MethodName)) (z := (⟨"com/example/chiffchaff/chiffchaff/OpenElements", "release", "()V"⟩ : MethodName)) hown (mvT hZ (hw _ (List.mem_of_getElem? (i := 112) rfl))) (mvT hZ (hw _ (List.mem_of_getElem? (i := 113) rfl))) (notFace_of_selects (args := #[]) (mvT hZ (hw _ (List.mem_of_getElem? (i := 115) rfl)))) (mvT hZ (hw _ (List.mem_of_getElem? (i := 115) rfl))) (mvT hZ (hw _ (List.mem_of_getElem? (i := 114) rfl))) (by decide) (backOf (W := 0) (rm16 l Z a0 hw [] b1 b bl nm ur lv bd kB _ _ bN h n0 Zh OE0 O S_N) hZ (hw _ (List.mem_of_getElem? (i := 116) rfl)) (hw _ (List.mem_of_getElem? (i := 2) rfl)) (by decide) (by decide)) qa5 qc5 (g := (mkF m 190 #[.val (.int i0), .val (.int i1), .val (.int i2), .val (.int i3), .val (.long i4), .second, .val (.ref b1), .val (.int (1 : Int32)), .val (.int (i0 &&& (3 : Int32))), .val (.int pp), .val (.ref aT), .val (.int (0 : Int32)), .val (.int (1 : Int32)), .unset] [(.ref b1)])) rfl (by rw [hml]; rfl) (Steps.refl _) (argsL := []) (rest := []) (lenOf pd___V rfl) rfl (by show 2 * 0 + _ ≤ _; exact Nat.le_of_eq rfl) (hb hby at_190) (fun _ _ => ⟨rfl, eT, (by show cl + 0 ≤ 32; omega), (by show sl + 0 ≤ 256; omega)⟩)
        dsimp only [Pt.U, Pt.locs, Pt.cells, Pt.slots] at X5 l5 y5 z5 st5 hQ5
        have y5s := y5.symm; have z5s := z5.symm
        subst l5 y5s z5s
        obtain ⟨rfl, N5, O5, Ea5, Fb5⟩ := hQ5
        refine own_st (fun t k => st5.trans k) ?_
        have Z5 : n0 ≤ T5.heap.size := O5.1 ▸ O5.2.1
        have N5a := Fr.app N N5
        show own_Fin p.tables e below _ (T5.setTop (mkF m 193 #[.val (.int i0), .val (.int i1), .val (.int i2), .val (.int i3), .val (.long i4), .second, .val (.ref b1), .val (.int (1 : Int32)), .val (.int (i0 &&& (3 : Int32))), .val (.int pp), .val (.ref aT), .val (.int (0 : Int32)), .val (.int (1 : Int32)), .unset] []))
        refine own_st (fun t k => XS.iload X5.here hx rfl (hb hby at_193) rfl k) ?_
        show own_Fin p.tables e below _ (T5.setTop (mkF m 195 #[.val (.int i0), .val (.int i1), .val (.int i2), .val (.int i3), .val (.long i4), .second, .val (.ref b1), .val (.int (1 : Int32)), .val (.int (i0 &&& (3 : Int32))), .val (.int pp), .val (.ref aT), .val (.int (0 : Int32)), .val (.int (1 : Int32)), .unset] [(.int (1 : Int32))]))
        refine own_st (fun t k => XS.ifNo X5.here hx rfl (hb hby at_195) rfl (XT.i0_eq_f (by decide)) k) ?_
        show own_Fin p.tables e below _ (T5.setTop (mkF m 198 #[.val (.int i0), .val (.int i1), .val (.int i2), .val (.int i3), .val (.long i4), .second, .val (.ref b1), .val (.int (1 : Int32)), .val (.int (i0 &&& (3 : Int32))), .val (.int pp), .val (.ref aT), .val (.int (0 : Int32)), .val (.int (1 : Int32)), .unset] []))
        refine own_st (fun t k => XS.iconst X5.here hx rfl (hb hby at_198) k) ?_
        show own_Fin p.tables e below _ (T5.setTop (mkF m 199 #[.val (.int i0), .val (.int i1), .val (.int i2), .val (.int i3), .val (.long i4), .second, .val (.ref b1), .val (.int (1 : Int32)), .val (.int (i0 &&& (3 : Int32))), .val (.int pp), .val (.ref aT), .val (.int (0 : Int32)), .val (.int (1 : Int32)), .unset] [(.int (0 : Int32))]))
        refine own_st (fun t k => XS.goto X5.here hx rfl (pc0 := 199) (pc' := 204) rfl (hb hby at_199) (by decide) (by decide) k) ?_
        show own_Fin p.tables e below _ (T5.setTop (mkF m 204 #[.val (.int i0), .val (.int i1), .val (.int i2), .val (.int i3), .val (.long i4), .second, .val (.ref b1), .val (.int (1 : Int32)), .val (.int (i0 &&& (3 : Int32))), .val (.int pp), .val (.ref aT), .val (.int (0 : Int32)), .val (.int (1 : Int32)), .unset] [(.int (0 : Int32))]))
        refine own_st (fun t k => XS.istore X5.here hx rfl (hb hby at_204) rfl (l' := #[.val (.int i0), .val (.int i1), .val (.int i2), .val (.int i3), .val (.long i4), .second, .val (.ref b1), .val (.int (1 : Int32)), .val (.int (i0 &&& (3 : Int32))), .val (.int pp), .val (.ref aT), .val (.int (0 : Int32)), .val (.int (1 : Int32)), .val (.int (0 : Int32))]) rfl k) ?_
        show own_Fin p.tables e below _ (T5.setTop (mkF m 206 #[.val (.int i0), .val (.int i1), .val (.int i2), .val (.int i3), .val (.long i4), .second, .val (.ref b1), .val (.int (1 : Int32)), .val (.int (i0 &&& (3 : Int32))), .val (.int pp), .val (.ref aT), .val (.int (0 : Int32)), .val (.int (1 : Int32)), .val (.int (0 : Int32))] []))
        refine own_st (fun t k => XS.iload X5.here hx rfl (hb hby at_206) rfl k) ?_
        show own_Fin p.tables e below _ (T5.setTop (mkF m 208 #[.val (.int i0), .val (.int i1), .val (.int i2), .val (.int i3), .val (.long i4), .second, .val (.ref b1), .val (.int (1 : Int32)), .val (.int (i0 &&& (3 : Int32))), .val (.int pp), .val (.ref aT), .val (.int (0 : Int32)), .val (.int (1 : Int32)), .val (.int (0 : Int32))] [(.int (1 : Int32))]))
        refine own_st (fun t k => XS.ifNo X5.here hx rfl (hb hby at_208) rfl (XT.i0_eq_f (by decide)) k) ?_
        show own_Fin p.tables e below _ (T5.setTop (mkF m 211 #[.val (.int i0), .val (.int i1), .val (.int i2), .val (.int i3), .val (.long i4), .second, .val (.ref b1), .val (.int (1 : Int32)), .val (.int (i0 &&& (3 : Int32))), .val (.int pp), .val (.ref aT), .val (.int (0 : Int32)), .val (.int (1 : Int32)), .val (.int (0 : Int32))] []))
        refine own_st (fun t k => XS.aload X5.here hx rfl (hb hby at_211) rfl rfl k) ?_
        show own_Fin p.tables e below _ (T5.setTop (mkF m 213 #[.val (.int i0), .val (.int i1), .val (.int i2), .val (.int i3), .val (.long i4), .second, .val (.ref b1), .val (.int (1 : Int32)), .val (.int (i0 &&& (3 : Int32))), .val (.int pp), .val (.ref aT), .val (.int (0 : Int32)), .val (.int (1 : Int32)), .val (.int (0 : Int32))] [(.ref b1)]))
        obtain ⟨cq6, kq6, qa6, qb6, qc6⟩ := isOf hZ rfl Ea5
        obtain ⟨_, _, ⟨T6, L6, k6, n6⟩, -, X6, ⟨Lc6, hQ6, l6, y6, z6⟩, st6⟩ := X5.virtualBack hx (y := (⟨"com/example/chiffchaff/chiffchaff/OpenElements", "room", "()I"⟩ : MethodName)) (z := (⟨"com/example/chiffchaff/chiffchaff/OpenElements", "room", "()I"⟩ : MethodName)) hown (mvT hZ (hw _ (List.mem_of_getElem? (i := 38) rfl))) (mvT hZ (hw _ (List.mem_of_getElem? (i := 39) rfl))) (notFace_of_selects (args := #[]) (mvT hZ (hw _ (List.mem_of_getElem? (i := 41) rfl)))) (mvT hZ (hw _ (List.mem_of_getElem? (i := 41) rfl))) (mvT hZ (hw _ (List.mem_of_getElem? (i := 40) rfl))) (by decide) (backOf (W := 0) (rmR0 l Z a0 hw [] b1 bN kN T5.heap n0 Z5 Fb5 (V_N.ext O5.2)) hZ (hw _ (List.mem_of_getElem? (i := 42) rfl)) (hw _ (List.mem_of_getElem? (i := 2) rfl)) (by decide) (by decide)) qa6 qc6 (g := (mkF m 213 #[.val (.int i0), .val (.int i1), .val (.int i2), .val (.int i3), .val (.long i4), .second, .val (.ref b1), .val (.int (1 : Int32)), .val (.int (i0 &&& (3 : Int32))), .val (.int pp), .val (.ref aT), .val (.int (0 : Int32)), .val (.int (1 : Int32)), .val (.int (0 : Int32))] [(.ref b1)])) rfl (by rw [hml]; rfl) (Steps.refl _) (argsL := []) (rest := []) (lenOf pd___I rfl) rfl (by show 2 * 0 + _ ≤ _; exact Nat.le_of_eq rfl) (hb hby at_213) (fun _ _ => ⟨rfl, rfl, (by show cl + 0 + 0 ≤ 32; omega), (by show sl + 0 + 0 ≤ 256; omega)⟩)
        dsimp only [Pt.U, Pt.locs, Pt.cells, Pt.slots] at X6 l6 y6 z6 st6 hQ6
        have y6s := y6.symm; have z6s := z6.symm
        subst l6 y6s z6s
        obtain ⟨rfl, N6, q6⟩ := hQ6
        refine own_st (fun t k => st6.trans k) ?_
        have N6a := Fr.app N5a N6
        show own_Fin p.tables e below _ (T6.setTop (mkF m 216 #[.val (.int i0), .val (.int i1), .val (.int i2), .val (.int i3), .val (.long i4), .second, .val (.ref b1), .val (.int (1 : Int32)), .val (.int (i0 &&& (3 : Int32))), .val (.int pp), .val (.ref aT), .val (.int (0 : Int32)), .val (.int (1 : Int32)), .val (.int (0 : Int32))] [(.int (0 : Int32))]))
        refine own_st (fun t k => XS.iload X6.here hx rfl (hb hby at_216) rfl k) ?_
        show own_Fin p.tables e below _ (T6.setTop (mkF m 218 #[.val (.int i0), .val (.int i1), .val (.int i2), .val (.int i3), .val (.long i4), .second, .val (.ref b1), .val (.int (1 : Int32)), .val (.int (i0 &&& (3 : Int32))), .val (.int pp), .val (.ref aT), .val (.int (0 : Int32)), .val (.int (1 : Int32)), .val (.int (0 : Int32))] [(.int (0 : Int32)), (.int (0 : Int32))]))
        refine own_st (fun t k => XS.icmpNo X6.here hx rfl (hb hby at_218) rfl (XT.ii_ne_f (by decide)) k) ?_
        show own_Fin p.tables e below _ (T6.setTop (mkF m 221 #[.val (.int i0), .val (.int i1), .val (.int i2), .val (.int i3), .val (.long i4), .second, .val (.ref b1), .val (.int (1 : Int32)), .val (.int (i0 &&& (3 : Int32))), .val (.int pp), .val (.ref aT), .val (.int (0 : Int32)), .val (.int (1 : Int32)), .val (.int (0 : Int32))] []))
        refine own_st (fun t k => XS.iconst X6.here hx rfl (hb hby at_221) k) ?_
        show own_Fin p.tables e below _ (T6.setTop (mkF m 222 #[.val (.int i0), .val (.int i1), .val (.int i2), .val (.int i3), .val (.long i4), .second, .val (.ref b1), .val (.int (1 : Int32)), .val (.int (i0 &&& (3 : Int32))), .val (.int pp), .val (.ref aT), .val (.int (0 : Int32)), .val (.int (1 : Int32)), .val (.int (0 : Int32))] [(.int (1 : Int32))]))
        refine own_st (fun t k => XS.goto X6.here hx rfl (pc0 := 222) (pc' := 226) rfl (hb hby at_222) (by decide) (by decide) k) ?_
        show own_Fin p.tables e below _ (T6.setTop (mkF m 226 #[.val (.int i0), .val (.int i1), .val (.int i2), .val (.int i3), .val (.long i4), .second, .val (.ref b1), .val (.int (1 : Int32)), .val (.int (i0 &&& (3 : Int32))), .val (.int pp), .val (.ref aT), .val (.int (0 : Int32)), .val (.int (1 : Int32)), .val (.int (0 : Int32))] [(.int (1 : Int32))]))
        obtain ⟨fs, hr, hrun, hended, hW, hsame⟩ := X6.leave (v := (some (.int (1 : Int32)))) (fun h => by rw [Bd.returns] at h; cases h)
        refine ⟨_, _, retN X6 hx (t := .boolean) Bd.returns (by simp) (hb hby at_226) hr, hrun, hended, _, _, rfl, ?_, ⟨_, rfl⟩, hW, hsame.mono (by show cl + 0 + 0 ≤ 32; omega) (by show sl + 0 + 0 ≤ 256; omega)⟩
        show Q0 Z i0 i1 i2 i3 i4 aU aN bN kN h0 n0 _ T6.heap _
        rw [q6]
        exact ⟨rfl, N6a⟩
    · have _ := f2
      refine own_st (fun t k => XS.ifNo X.here hx rfl (hb hby at_150) rfl (XT.i0_eq_f f2) k) ?_
      show own_Fin p.tables e below _ (T.setTop (mkF m 153 #[.val (.int i0), .val (.int i1), .val (.int i2), .val (.int i3), .val (.long i4), .second, .val (.ref b1), .val (.int (1 : Int32)), .val (.int (i0 &&& (3 : Int32))), .val (.int pp), .val (.ref aT), .unset, .unset, .unset] []))
      refine own_st (fun t k => XS.iconst X.here hx rfl (hb hby at_153) k) ?_
      show own_Fin p.tables e below _ (T.setTop (mkF m 154 #[.val (.int i0), .val (.int i1), .val (.int i2), .val (.int i3), .val (.long i4), .second, .val (.ref b1), .val (.int (1 : Int32)), .val (.int (i0 &&& (3 : Int32))), .val (.int pp), .val (.ref aT), .unset, .unset, .unset] [(.int (1 : Int32))]))
      refine own_st (fun t k => XS.goto X.here hx rfl (pc0 := 154) (pc' := 158) rfl (hb hby at_154) (by decide) (by decide) k) ?_
      show own_Fin p.tables e below _ (T.setTop (mkF m 158 #[.val (.int i0), .val (.int i1), .val (.int i2), .val (.int i3), .val (.long i4), .second, .val (.ref b1), .val (.int (1 : Int32)), .val (.int (i0 &&& (3 : Int32))), .val (.int pp), .val (.ref aT), .unset, .unset, .unset] [(.int (1 : Int32))]))
      refine own_st (fun t k => XS.istore X.here hx rfl (hb hby at_158) rfl (l' := #[.val (.int i0), .val (.int i1), .val (.int i2), .val (.int i3), .val (.long i4), .second, .val (.ref b1), .val (.int (1 : Int32)), .val (.int (i0 &&& (3 : Int32))), .val (.int pp), .val (.ref aT), .val (.int (1 : Int32)), .unset, .unset]) rfl k) ?_
      show own_Fin p.tables e below _ (T.setTop (mkF m 160 #[.val (.int i0), .val (.int i1), .val (.int i2), .val (.int i3), .val (.long i4), .second, .val (.ref b1), .val (.int (1 : Int32)), .val (.int (i0 &&& (3 : Int32))), .val (.int pp), .val (.ref aT), .val (.int (1 : Int32)), .unset, .unset] []))
      refine own_st (fun t k => XS.iloadN X.here hx rfl (hb hby at_160) rfl k) ?_
      show own_Fin p.tables e below _ (T.setTop (mkF m 161 #[.val (.int i0), .val (.int i1), .val (.int i2), .val (.int i3), .val (.long i4), .second, .val (.ref b1), .val (.int (1 : Int32)), .val (.int (i0 &&& (3 : Int32))), .val (.int pp), .val (.ref aT), .val (.int (1 : Int32)), .unset, .unset] [(.int i2)]))
      refine own_st (fun t k => XS.iconst X.here hx rfl (hb hby at_161) k) ?_
      show own_Fin p.tables e below _ (T.setTop (mkF m 162 #[.val (.int i0), .val (.int i1), .val (.int i2), .val (.int i3), .val (.long i4), .second, .val (.ref b1), .val (.int (1 : Int32)), .val (.int (i0 &&& (3 : Int32))), .val (.int pp), .val (.ref aT), .val (.int (1 : Int32)), .unset, .unset] [(.int (4 : Int32)), (.int i2)]))
      refine own_st (fun t k => XS.iand X.here hx rfl (hb hby at_162) rfl k) ?_
      show own_Fin p.tables e below _ (T.setTop (mkF m 163 #[.val (.int i0), .val (.int i1), .val (.int i2), .val (.int i3), .val (.long i4), .second, .val (.ref b1), .val (.int (1 : Int32)), .val (.int (i0 &&& (3 : Int32))), .val (.int pp), .val (.ref aT), .val (.int (1 : Int32)), .unset, .unset] [(.int (i2 &&& (4 : Int32)))]))
      rcases Decidable.em ((i2 &&& (4 : Int32)) = 0) with f4 | f4
      · have _ := f4
        refine own_st (fun t k => XS.ifYes X.here hx rfl (pc0 := 163) (pc' := 170) rfl (hb hby at_163) rfl (XT.i0_eq_t f4) (by decide) (by decide) k) ?_
        show own_Fin p.tables e below _ (T.setTop (mkF m 170 #[.val (.int i0), .val (.int i1), .val (.int i2), .val (.int i3), .val (.long i4), .second, .val (.ref b1), .val (.int (1 : Int32)), .val (.int (i0 &&& (3 : Int32))), .val (.int pp), .val (.ref aT), .val (.int (1 : Int32)), .unset, .unset] []))
        refine own_st (fun t k => XS.iconst X.here hx rfl (hb hby at_170) k) ?_
        show own_Fin p.tables e below _ (T.setTop (mkF m 171 #[.val (.int i0), .val (.int i1), .val (.int i2), .val (.int i3), .val (.long i4), .second, .val (.ref b1), .val (.int (1 : Int32)), .val (.int (i0 &&& (3 : Int32))), .val (.int pp), .val (.ref aT), .val (.int (1 : Int32)), .unset, .unset] [(.int (0 : Int32))]))
        refine own_st (fun t k => XS.istore X.here hx rfl (hb hby at_171) rfl (l' := #[.val (.int i0), .val (.int i1), .val (.int i2), .val (.int i3), .val (.long i4), .second, .val (.ref b1), .val (.int (1 : Int32)), .val (.int (i0 &&& (3 : Int32))), .val (.int pp), .val (.ref aT), .val (.int (1 : Int32)), .val (.int (0 : Int32)), .unset]) rfl k) ?_
        show own_Fin p.tables e below _ (T.setTop (mkF m 173 #[.val (.int i0), .val (.int i1), .val (.int i2), .val (.int i3), .val (.long i4), .second, .val (.ref b1), .val (.int (1 : Int32)), .val (.int (i0 &&& (3 : Int32))), .val (.int pp), .val (.ref aT), .val (.int (1 : Int32)), .val (.int (0 : Int32)), .unset] []))
        refine own_st (fun t k => XS.iload X.here hx rfl (hb hby at_173) rfl k) ?_
        show own_Fin p.tables e below _ (T.setTop (mkF m 175 #[.val (.int i0), .val (.int i1), .val (.int i2), .val (.int i3), .val (.long i4), .second, .val (.ref b1), .val (.int (1 : Int32)), .val (.int (i0 &&& (3 : Int32))), .val (.int pp), .val (.ref aT), .val (.int (1 : Int32)), .val (.int (0 : Int32)), .unset] [(.int (1 : Int32))]))
        refine own_st (fun t k => XS.ifNo X.here hx rfl (hb hby at_175) rfl (XT.i0_eq_f (by decide)) k) ?_
        show own_Fin p.tables e below _ (T.setTop (mkF m 178 #[.val (.int i0), .val (.int i1), .val (.int i2), .val (.int i3), .val (.long i4), .second, .val (.ref b1), .val (.int (1 : Int32)), .val (.int (i0 &&& (3 : Int32))), .val (.int pp), .val (.ref aT), .val (.int (1 : Int32)), .val (.int (0 : Int32)), .unset] []))
        refine own_st (fun t k => XS.aload X.here hx rfl (hb hby at_178) rfl rfl k) ?_
        show own_Fin p.tables e below _ (T.setTop (mkF m 180 #[.val (.int i0), .val (.int i1), .val (.int i2), .val (.int i3), .val (.long i4), .second, .val (.ref b1), .val (.int (1 : Int32)), .val (.int (i0 &&& (3 : Int32))), .val (.int pp), .val (.ref aT), .val (.int (1 : Int32)), .val (.int (0 : Int32)), .unset] [(.ref b1)]))
        obtain ⟨cq7, kq7, qa7, qb7, qc7⟩ := isOf hZ eT OE0.1.1
        obtain ⟨_, _, ⟨T7, L7, k7, n7⟩, -, X7, ⟨Lc7, hQ7, l7, y7, z7⟩, st7⟩ := X.virtualBack hx (y := (⟨"com/example/chiffchaff/chiffchaff/OpenElements", "clear", "()V"⟩ : MethodName)) (z := (⟨"com/example/chiffchaff/chiffchaff/OpenElements", "clear", "()V"⟩ : MethodName)) hown (mvT hZ (hw _ (List.mem_of_getElem? (i := 51) rfl))) (mvT hZ (hw _ (List.mem_of_getElem? (i := 52) rfl))) (notFace_of_selects (args := #[]) (mvT hZ (hw _ (List.mem_of_getElem? (i := 54) rfl)))) (mvT hZ (hw _ (List.mem_of_getElem? (i := 54) rfl))) (mvT hZ (hw _ (List.mem_of_getElem? (i := 53) rfl))) (by decide) (backOf (W := 0) (rm6 l Z a0 hw [] b1 b bl nm ur lv bd kB _ _ h n0 Zh OE0 O hd) hZ (hw _ (List.mem_of_getElem? (i := 55) rfl)) (hw _ (List.mem_of_getElem? (i := 2) rfl)) (by decide) (by decide)) qa7 qc7 (g := (mkF m 180 #[.val (.int i0), .val (.int i1), .val (.int i2), .val (.int i3), .val (.long i4), .second, .val (.ref b1), .val (.int (1 : Int32)), .val (.int (i0 &&& (3 : Int32))), .val (.int pp), .val (.ref aT), .val (.int (1 : Int32)), .val (.int (0 : Int32)), .unset] [(.ref b1)])) rfl (by rw [hml]; rfl) (Steps.refl _) (argsL := []) (rest := []) (lenOf pd___V rfl) rfl (by show 2 * 0 + _ ≤ _; exact Nat.le_of_eq rfl) (hb hby at_180) (fun _ _ => ⟨rfl, eT, (by show cl + 0 ≤ 32; omega), (by show sl + 0 ≤ 256; omega)⟩)
        dsimp only [Pt.U, Pt.locs, Pt.cells, Pt.slots] at X7 l7 y7 z7 st7 hQ7
        have y7s := y7.symm; have z7s := z7.symm
        subst l7 y7s z7s
        obtain ⟨rfl, N7, O7, tv7, OE7⟩ := hQ7
        refine own_st (fun t k => st7.trans k) ?_
        have Z7 : n0 ≤ T7.heap.size := O7.1 ▸ O7.2.1
        have N7a := Fr.app N N7
        show own_Fin p.tables e below _ (T7.setTop (mkF m 183 #[.val (.int i0), .val (.int i1), .val (.int i2), .val (.int i3), .val (.long i4), .second, .val (.ref b1), .val (.int (1 : Int32)), .val (.int (i0 &&& (3 : Int32))), .val (.int pp), .val (.ref aT), .val (.int (1 : Int32)), .val (.int (0 : Int32)), .unset] []))
        refine own_st (fun t k => XS.iload X7.here hx rfl (hb hby at_183) rfl k) ?_
        show own_Fin p.tables e below _ (T7.setTop (mkF m 185 #[.val (.int i0), .val (.int i1), .val (.int i2), .val (.int i3), .val (.long i4), .second, .val (.ref b1), .val (.int (1 : Int32)), .val (.int (i0 &&& (3 : Int32))), .val (.int pp), .val (.ref aT), .val (.int (1 : Int32)), .val (.int (0 : Int32)), .unset] [(.int (0 : Int32))]))
        refine own_st (fun t k => XS.ifYes X7.here hx rfl (pc0 := 185) (pc' := 193) rfl (hb hby at_185) rfl (XT.i0_eq_t (by decide)) (by decide) (by decide) k) ?_
        show own_Fin p.tables e below _ (T7.setTop (mkF m 193 #[.val (.int i0), .val (.int i1), .val (.int i2), .val (.int i3), .val (.long i4), .second, .val (.ref b1), .val (.int (1 : Int32)), .val (.int (i0 &&& (3 : Int32))), .val (.int pp), .val (.ref aT), .val (.int (1 : Int32)), .val (.int (0 : Int32)), .unset] []))
        refine own_st (fun t k => XS.iload X7.here hx rfl (hb hby at_193) rfl k) ?_
        show own_Fin p.tables e below _ (T7.setTop (mkF m 195 #[.val (.int i0), .val (.int i1), .val (.int i2), .val (.int i3), .val (.long i4), .second, .val (.ref b1), .val (.int (1 : Int32)), .val (.int (i0 &&& (3 : Int32))), .val (.int pp), .val (.ref aT), .val (.int (1 : Int32)), .val (.int (0 : Int32)), .unset] [(.int (0 : Int32))]))
        refine own_st (fun t k => XS.ifYes X7.here hx rfl (pc0 := 195) (pc' := 202) rfl (hb hby at_195) rfl (XT.i0_eq_t (by decide)) (by decide) (by decide) k) ?_
        show own_Fin p.tables e below _ (T7.setTop (mkF m 202 #[.val (.int i0), .val (.int i1), .val (.int i2), .val (.int i3), .val (.long i4), .second, .val (.ref b1), .val (.int (1 : Int32)), .val (.int (i0 &&& (3 : Int32))), .val (.int pp), .val (.ref aT), .val (.int (1 : Int32)), .val (.int (0 : Int32)), .unset] []))
        refine own_st (fun t k => XS.bipush X7.here hx rfl (hb hby at_202) k) ?_
        show own_Fin p.tables e below _ (T7.setTop (mkF m 204 #[.val (.int i0), .val (.int i1), .val (.int i2), .val (.int i3), .val (.long i4), .second, .val (.ref b1), .val (.int (1 : Int32)), .val (.int (i0 &&& (3 : Int32))), .val (.int pp), .val (.ref aT), .val (.int (1 : Int32)), .val (.int (0 : Int32)), .unset] [(.int (16 : Int32))]))
        refine own_st (fun t k => XS.istore X7.here hx rfl (hb hby at_204) rfl (l' := #[.val (.int i0), .val (.int i1), .val (.int i2), .val (.int i3), .val (.long i4), .second, .val (.ref b1), .val (.int (1 : Int32)), .val (.int (i0 &&& (3 : Int32))), .val (.int pp), .val (.ref aT), .val (.int (1 : Int32)), .val (.int (0 : Int32)), .val (.int (16 : Int32))]) rfl k) ?_
        show own_Fin p.tables e below _ (T7.setTop (mkF m 206 #[.val (.int i0), .val (.int i1), .val (.int i2), .val (.int i3), .val (.long i4), .second, .val (.ref b1), .val (.int (1 : Int32)), .val (.int (i0 &&& (3 : Int32))), .val (.int pp), .val (.ref aT), .val (.int (1 : Int32)), .val (.int (0 : Int32)), .val (.int (16 : Int32))] []))
        refine own_st (fun t k => XS.iload X7.here hx rfl (hb hby at_206) rfl k) ?_
        show own_Fin p.tables e below _ (T7.setTop (mkF m 208 #[.val (.int i0), .val (.int i1), .val (.int i2), .val (.int i3), .val (.long i4), .second, .val (.ref b1), .val (.int (1 : Int32)), .val (.int (i0 &&& (3 : Int32))), .val (.int pp), .val (.ref aT), .val (.int (1 : Int32)), .val (.int (0 : Int32)), .val (.int (16 : Int32))] [(.int (1 : Int32))]))
        refine own_st (fun t k => XS.ifNo X7.here hx rfl (hb hby at_208) rfl (XT.i0_eq_f (by decide)) k) ?_
        show own_Fin p.tables e below _ (T7.setTop (mkF m 211 #[.val (.int i0), .val (.int i1), .val (.int i2), .val (.int i3), .val (.long i4), .second, .val (.ref b1), .val (.int (1 : Int32)), .val (.int (i0 &&& (3 : Int32))), .val (.int pp), .val (.ref aT), .val (.int (1 : Int32)), .val (.int (0 : Int32)), .val (.int (16 : Int32))] []))
        refine own_st (fun t k => XS.aload X7.here hx rfl (hb hby at_211) rfl rfl k) ?_
        show own_Fin p.tables e below _ (T7.setTop (mkF m 213 #[.val (.int i0), .val (.int i1), .val (.int i2), .val (.int i3), .val (.long i4), .second, .val (.ref b1), .val (.int (1 : Int32)), .val (.int (i0 &&& (3 : Int32))), .val (.int pp), .val (.ref aT), .val (.int (1 : Int32)), .val (.int (0 : Int32)), .val (.int (16 : Int32))] [(.ref b1)]))
        obtain ⟨cq8, kq8, qa8, qb8, qc8⟩ := isOf hZ rfl OE7.1.1
        obtain ⟨_, _, ⟨T8, L8, k8, n8⟩, -, X8, ⟨Lc8, hQ8, l8, y8, z8⟩, st8⟩ := X7.virtualBack hx (y := (⟨"com/example/chiffchaff/chiffchaff/OpenElements", "room", "()I"⟩ : MethodName)) (z := (⟨"com/example/chiffchaff/chiffchaff/OpenElements", "room", "()I"⟩ : MethodName)) hown (mvT hZ (hw _ (List.mem_of_getElem? (i := 38) rfl))) (mvT hZ (hw _ (List.mem_of_getElem? (i := 39) rfl))) (notFace_of_selects (args := #[]) (mvT hZ (hw _ (List.mem_of_getElem? (i := 41) rfl)))) (mvT hZ (hw _ (List.mem_of_getElem? (i := 41) rfl))) (mvT hZ (hw _ (List.mem_of_getElem? (i := 40) rfl))) (by decide) (backOf (W := 0) (rm4 l Z a0 hw [] b1 b bl nm ur lv bd kB _ _ T7.heap n0 Z7 OE7) hZ (hw _ (List.mem_of_getElem? (i := 42) rfl)) (hw _ (List.mem_of_getElem? (i := 2) rfl)) (by decide) (by decide)) qa8 qc8 (g := (mkF m 213 #[.val (.int i0), .val (.int i1), .val (.int i2), .val (.int i3), .val (.long i4), .second, .val (.ref b1), .val (.int (1 : Int32)), .val (.int (i0 &&& (3 : Int32))), .val (.int pp), .val (.ref aT), .val (.int (1 : Int32)), .val (.int (0 : Int32)), .val (.int (16 : Int32))] [(.ref b1)])) rfl (by rw [hml]; rfl) (Steps.refl _) (argsL := []) (rest := []) (lenOf pd___I rfl) rfl (by show 2 * 0 + _ ≤ _; exact Nat.le_of_eq rfl) (hb hby at_213) (fun _ _ => ⟨rfl, rfl, (by show cl + 0 + 0 ≤ 32; omega), (by show sl + 0 + 0 ≤ 256; omega)⟩)
        dsimp only [Pt.U, Pt.locs, Pt.cells, Pt.slots] at X8 l8 y8 z8 st8 hQ8
        have y8s := y8.symm; have z8s := z8.symm
        subst l8 y8s z8s
        obtain ⟨rfl, N8, q8⟩ := hQ8
        refine own_st (fun t k => st8.trans k) ?_
        have N8a := Fr.app N7a N8
        show own_Fin p.tables e below _ (T8.setTop (mkF m 216 #[.val (.int i0), .val (.int i1), .val (.int i2), .val (.int i3), .val (.long i4), .second, .val (.ref b1), .val (.int (1 : Int32)), .val (.int (i0 &&& (3 : Int32))), .val (.int pp), .val (.ref aT), .val (.int (1 : Int32)), .val (.int (0 : Int32)), .val (.int (16 : Int32))] [(.int (16 : Int32))]))
        refine own_st (fun t k => XS.iload X8.here hx rfl (hb hby at_216) rfl k) ?_
        show own_Fin p.tables e below _ (T8.setTop (mkF m 218 #[.val (.int i0), .val (.int i1), .val (.int i2), .val (.int i3), .val (.long i4), .second, .val (.ref b1), .val (.int (1 : Int32)), .val (.int (i0 &&& (3 : Int32))), .val (.int pp), .val (.ref aT), .val (.int (1 : Int32)), .val (.int (0 : Int32)), .val (.int (16 : Int32))] [(.int (16 : Int32)), (.int (16 : Int32))]))
        refine own_st (fun t k => XS.icmpNo X8.here hx rfl (hb hby at_218) rfl (XT.ii_ne_f (by decide)) k) ?_
        show own_Fin p.tables e below _ (T8.setTop (mkF m 221 #[.val (.int i0), .val (.int i1), .val (.int i2), .val (.int i3), .val (.long i4), .second, .val (.ref b1), .val (.int (1 : Int32)), .val (.int (i0 &&& (3 : Int32))), .val (.int pp), .val (.ref aT), .val (.int (1 : Int32)), .val (.int (0 : Int32)), .val (.int (16 : Int32))] []))
        refine own_st (fun t k => XS.iconst X8.here hx rfl (hb hby at_221) k) ?_
        show own_Fin p.tables e below _ (T8.setTop (mkF m 222 #[.val (.int i0), .val (.int i1), .val (.int i2), .val (.int i3), .val (.long i4), .second, .val (.ref b1), .val (.int (1 : Int32)), .val (.int (i0 &&& (3 : Int32))), .val (.int pp), .val (.ref aT), .val (.int (1 : Int32)), .val (.int (0 : Int32)), .val (.int (16 : Int32))] [(.int (1 : Int32))]))
        refine own_st (fun t k => XS.goto X8.here hx rfl (pc0 := 222) (pc' := 226) rfl (hb hby at_222) (by decide) (by decide) k) ?_
        show own_Fin p.tables e below _ (T8.setTop (mkF m 226 #[.val (.int i0), .val (.int i1), .val (.int i2), .val (.int i3), .val (.long i4), .second, .val (.ref b1), .val (.int (1 : Int32)), .val (.int (i0 &&& (3 : Int32))), .val (.int pp), .val (.ref aT), .val (.int (1 : Int32)), .val (.int (0 : Int32)), .val (.int (16 : Int32))] [(.int (1 : Int32))]))
        obtain ⟨fs, hr, hrun, hended, hW, hsame⟩ := X8.leave (v := (some (.int (1 : Int32)))) (fun h => by rw [Bd.returns] at h; cases h)
        refine ⟨_, _, retN X8 hx (t := .boolean) Bd.returns (by simp) (hb hby at_226) hr, hrun, hended, _, _, rfl, ?_, ⟨_, rfl⟩, hW, hsame.mono (by show cl + 0 + 0 ≤ 32; omega) (by show sl + 0 + 0 ≤ 256; omega)⟩
        show Q0 Z i0 i1 i2 i3 i4 aU aN bN kN h0 n0 _ T8.heap _
        rw [q8]
        exact ⟨rfl, N8a⟩
      · have _ := f4
        refine own_st (fun t k => XS.ifNo X.here hx rfl (hb hby at_163) rfl (XT.i0_eq_f f4) k) ?_
        show own_Fin p.tables e below _ (T.setTop (mkF m 166 #[.val (.int i0), .val (.int i1), .val (.int i2), .val (.int i3), .val (.long i4), .second, .val (.ref b1), .val (.int (1 : Int32)), .val (.int (i0 &&& (3 : Int32))), .val (.int pp), .val (.ref aT), .val (.int (1 : Int32)), .unset, .unset] []))
        refine own_st (fun t k => XS.iconst X.here hx rfl (hb hby at_166) k) ?_
        show own_Fin p.tables e below _ (T.setTop (mkF m 167 #[.val (.int i0), .val (.int i1), .val (.int i2), .val (.int i3), .val (.long i4), .second, .val (.ref b1), .val (.int (1 : Int32)), .val (.int (i0 &&& (3 : Int32))), .val (.int pp), .val (.ref aT), .val (.int (1 : Int32)), .unset, .unset] [(.int (1 : Int32))]))
        refine own_st (fun t k => XS.goto X.here hx rfl (pc0 := 167) (pc' := 171) rfl (hb hby at_167) (by decide) (by decide) k) ?_
        show own_Fin p.tables e below _ (T.setTop (mkF m 171 #[.val (.int i0), .val (.int i1), .val (.int i2), .val (.int i3), .val (.long i4), .second, .val (.ref b1), .val (.int (1 : Int32)), .val (.int (i0 &&& (3 : Int32))), .val (.int pp), .val (.ref aT), .val (.int (1 : Int32)), .unset, .unset] [(.int (1 : Int32))]))
        refine own_st (fun t k => XS.istore X.here hx rfl (hb hby at_171) rfl (l' := #[.val (.int i0), .val (.int i1), .val (.int i2), .val (.int i3), .val (.long i4), .second, .val (.ref b1), .val (.int (1 : Int32)), .val (.int (i0 &&& (3 : Int32))), .val (.int pp), .val (.ref aT), .val (.int (1 : Int32)), .val (.int (1 : Int32)), .unset]) rfl k) ?_
        show own_Fin p.tables e below _ (T.setTop (mkF m 173 #[.val (.int i0), .val (.int i1), .val (.int i2), .val (.int i3), .val (.long i4), .second, .val (.ref b1), .val (.int (1 : Int32)), .val (.int (i0 &&& (3 : Int32))), .val (.int pp), .val (.ref aT), .val (.int (1 : Int32)), .val (.int (1 : Int32)), .unset] []))
        refine own_st (fun t k => XS.iload X.here hx rfl (hb hby at_173) rfl k) ?_
        show own_Fin p.tables e below _ (T.setTop (mkF m 175 #[.val (.int i0), .val (.int i1), .val (.int i2), .val (.int i3), .val (.long i4), .second, .val (.ref b1), .val (.int (1 : Int32)), .val (.int (i0 &&& (3 : Int32))), .val (.int pp), .val (.ref aT), .val (.int (1 : Int32)), .val (.int (1 : Int32)), .unset] [(.int (1 : Int32))]))
        refine own_st (fun t k => XS.ifNo X.here hx rfl (hb hby at_175) rfl (XT.i0_eq_f (by decide)) k) ?_
        show own_Fin p.tables e below _ (T.setTop (mkF m 178 #[.val (.int i0), .val (.int i1), .val (.int i2), .val (.int i3), .val (.long i4), .second, .val (.ref b1), .val (.int (1 : Int32)), .val (.int (i0 &&& (3 : Int32))), .val (.int pp), .val (.ref aT), .val (.int (1 : Int32)), .val (.int (1 : Int32)), .unset] []))
        refine own_st (fun t k => XS.aload X.here hx rfl (hb hby at_178) rfl rfl k) ?_
        show own_Fin p.tables e below _ (T.setTop (mkF m 180 #[.val (.int i0), .val (.int i1), .val (.int i2), .val (.int i3), .val (.long i4), .second, .val (.ref b1), .val (.int (1 : Int32)), .val (.int (i0 &&& (3 : Int32))), .val (.int pp), .val (.ref aT), .val (.int (1 : Int32)), .val (.int (1 : Int32)), .unset] [(.ref b1)]))
        obtain ⟨cq9, kq9, qa9, qb9, qc9⟩ := isOf hZ eT OE0.1.1
        obtain ⟨_, _, ⟨T9, L9, k9, n9⟩, -, X9, ⟨Lc9, hQ9, l9, y9, z9⟩, st9⟩ := X.virtualBack hx (y := (⟨"com/example/chiffchaff/chiffchaff/OpenElements", "clear", "()V"⟩ : MethodName)) (z := (⟨"com/example/chiffchaff/chiffchaff/OpenElements", "clear", "()V"⟩ : MethodName)) hown (mvT hZ (hw _ (List.mem_of_getElem? (i := 51) rfl))) (mvT hZ (hw _ (List.mem_of_getElem? (i := 52) rfl))) (notFace_of_selects (args := #[]) (mvT hZ (hw _ (List.mem_of_getElem? (i := 54) rfl)))) (mvT hZ (hw _ (List.mem_of_getElem? (i := 54) rfl))) (mvT hZ (hw _ (List.mem_of_getElem? (i := 53) rfl))) (by decide) (backOf (W := 0) (rm6 l Z a0 hw [] b1 b bl nm ur lv bd kB _ _ h n0 Zh OE0 O hd) hZ (hw _ (List.mem_of_getElem? (i := 55) rfl)) (hw _ (List.mem_of_getElem? (i := 2) rfl)) (by decide) (by decide)) qa9 qc9 (g := (mkF m 180 #[.val (.int i0), .val (.int i1), .val (.int i2), .val (.int i3), .val (.long i4), .second, .val (.ref b1), .val (.int (1 : Int32)), .val (.int (i0 &&& (3 : Int32))), .val (.int pp), .val (.ref aT), .val (.int (1 : Int32)), .val (.int (1 : Int32)), .unset] [(.ref b1)])) rfl (by rw [hml]; rfl) (Steps.refl _) (argsL := []) (rest := []) (lenOf pd___V rfl) rfl (by show 2 * 0 + _ ≤ _; exact Nat.le_of_eq rfl) (hb hby at_180) (fun _ _ => ⟨rfl, eT, (by show cl + 0 ≤ 32; omega), (by show sl + 0 ≤ 256; omega)⟩)
        dsimp only [Pt.U, Pt.locs, Pt.cells, Pt.slots] at X9 l9 y9 z9 st9 hQ9
        have y9s := y9.symm; have z9s := z9.symm
        subst l9 y9s z9s
        obtain ⟨rfl, N9, O9, tv9, OE9⟩ := hQ9
        refine own_st (fun t k => st9.trans k) ?_
        have Z9 : n0 ≤ T9.heap.size := O9.1 ▸ O9.2.1
        have N9a := Fr.app N N9
        show own_Fin p.tables e below _ (T9.setTop (mkF m 183 #[.val (.int i0), .val (.int i1), .val (.int i2), .val (.int i3), .val (.long i4), .second, .val (.ref b1), .val (.int (1 : Int32)), .val (.int (i0 &&& (3 : Int32))), .val (.int pp), .val (.ref aT), .val (.int (1 : Int32)), .val (.int (1 : Int32)), .unset] []))
        refine own_st (fun t k => XS.iload X9.here hx rfl (hb hby at_183) rfl k) ?_
        show own_Fin p.tables e below _ (T9.setTop (mkF m 185 #[.val (.int i0), .val (.int i1), .val (.int i2), .val (.int i3), .val (.long i4), .second, .val (.ref b1), .val (.int (1 : Int32)), .val (.int (i0 &&& (3 : Int32))), .val (.int pp), .val (.ref aT), .val (.int (1 : Int32)), .val (.int (1 : Int32)), .unset] [(.int (1 : Int32))]))
        refine own_st (fun t k => XS.ifNo X9.here hx rfl (hb hby at_185) rfl (XT.i0_eq_f (by decide)) k) ?_
        show own_Fin p.tables e below _ (T9.setTop (mkF m 188 #[.val (.int i0), .val (.int i1), .val (.int i2), .val (.int i3), .val (.long i4), .second, .val (.ref b1), .val (.int (1 : Int32)), .val (.int (i0 &&& (3 : Int32))), .val (.int pp), .val (.ref aT), .val (.int (1 : Int32)), .val (.int (1 : Int32)), .unset] []))
        refine own_st (fun t k => XS.aload X9.here hx rfl (hb hby at_188) rfl rfl k) ?_
        show own_Fin p.tables e below _ (T9.setTop (mkF m 190 #[.val (.int i0), .val (.int i1), .val (.int i2), .val (.int i3), .val (.long i4), .second, .val (.ref b1), .val (.int (1 : Int32)), .val (.int (i0 &&& (3 : Int32))), .val (.int pp), .val (.ref aT), .val (.int (1 : Int32)), .val (.int (1 : Int32)), .unset] [(.ref b1)]))
        obtain ⟨cq10, kq10, qa10, qb10, qc10⟩ := isOf hZ rfl OE9.1.1
        obtain ⟨_, _, ⟨T10, L10, k10, n10⟩, -, X10, ⟨Lc10, hQ10, l10, y10, z10⟩, st10⟩ := X9.virtualBack hx (y := (⟨"com/example/chiffchaff/chiffchaff/OpenElements", "release", "()V"⟩ : MethodName)) (z := (⟨"com/example/chiffchaff/chiffchaff/OpenElements", "release", "()V"⟩ : MethodName)) hown (mvT hZ (hw _ (List.mem_of_getElem? (i := 112) rfl))) (mvT hZ (hw _ (List.mem_of_getElem? (i := 113) rfl))) (notFace_of_selects (args := #[]) (mvT hZ (hw _ (List.mem_of_getElem? (i := 115) rfl)))) (mvT hZ (hw _ (List.mem_of_getElem? (i := 115) rfl))) (mvT hZ (hw _ (List.mem_of_getElem? (i := 114) rfl))) (by decide) (backOf (W := 0) (rm16 l Z a0 hw [] b1 b bl nm ur lv bd kB _ _ bN T9.heap n0 Z9 OE9 O9 S_N) hZ (hw _ (List.mem_of_getElem? (i := 116) rfl)) (hw _ (List.mem_of_getElem? (i := 2) rfl)) (by decide) (by decide)) qa10 qc10 (g := (mkF m 190 #[.val (.int i0), .val (.int i1), .val (.int i2), .val (.int i3), .val (.long i4), .second, .val (.ref b1), .val (.int (1 : Int32)), .val (.int (i0 &&& (3 : Int32))), .val (.int pp), .val (.ref aT), .val (.int (1 : Int32)), .val (.int (1 : Int32)), .unset] [(.ref b1)])) rfl (by rw [hml]; rfl) (Steps.refl _) (argsL := []) (rest := []) (lenOf pd___V rfl) rfl (by show 2 * 0 + _ ≤ _; exact Nat.le_of_eq rfl) (hb hby at_190) (fun _ _ => ⟨rfl, rfl, (by show cl + 0 + 0 ≤ 32; omega), (by show sl + 0 + 0 ≤ 256; omega)⟩)
        dsimp only [Pt.U, Pt.locs, Pt.cells, Pt.slots] at X10 l10 y10 z10 st10 hQ10
        have y10s := y10.symm; have z10s := z10.symm
        subst l10 y10s z10s
        obtain ⟨rfl, N10, O10, Ea10, Fb10⟩ := hQ10
        refine own_st (fun t k => st10.trans k) ?_
        have Z10 : n0 ≤ T10.heap.size := O10.1 ▸ O10.2.1
        have N10a := Fr.app N9a N10
        show own_Fin p.tables e below _ (T10.setTop (mkF m 193 #[.val (.int i0), .val (.int i1), .val (.int i2), .val (.int i3), .val (.long i4), .second, .val (.ref b1), .val (.int (1 : Int32)), .val (.int (i0 &&& (3 : Int32))), .val (.int pp), .val (.ref aT), .val (.int (1 : Int32)), .val (.int (1 : Int32)), .unset] []))
        refine own_st (fun t k => XS.iload X10.here hx rfl (hb hby at_193) rfl k) ?_
        show own_Fin p.tables e below _ (T10.setTop (mkF m 195 #[.val (.int i0), .val (.int i1), .val (.int i2), .val (.int i3), .val (.long i4), .second, .val (.ref b1), .val (.int (1 : Int32)), .val (.int (i0 &&& (3 : Int32))), .val (.int pp), .val (.ref aT), .val (.int (1 : Int32)), .val (.int (1 : Int32)), .unset] [(.int (1 : Int32))]))
        refine own_st (fun t k => XS.ifNo X10.here hx rfl (hb hby at_195) rfl (XT.i0_eq_f (by decide)) k) ?_
        show own_Fin p.tables e below _ (T10.setTop (mkF m 198 #[.val (.int i0), .val (.int i1), .val (.int i2), .val (.int i3), .val (.long i4), .second, .val (.ref b1), .val (.int (1 : Int32)), .val (.int (i0 &&& (3 : Int32))), .val (.int pp), .val (.ref aT), .val (.int (1 : Int32)), .val (.int (1 : Int32)), .unset] []))
        refine own_st (fun t k => XS.iconst X10.here hx rfl (hb hby at_198) k) ?_
        show own_Fin p.tables e below _ (T10.setTop (mkF m 199 #[.val (.int i0), .val (.int i1), .val (.int i2), .val (.int i3), .val (.long i4), .second, .val (.ref b1), .val (.int (1 : Int32)), .val (.int (i0 &&& (3 : Int32))), .val (.int pp), .val (.ref aT), .val (.int (1 : Int32)), .val (.int (1 : Int32)), .unset] [(.int (0 : Int32))]))
        refine own_st (fun t k => XS.goto X10.here hx rfl (pc0 := 199) (pc' := 204) rfl (hb hby at_199) (by decide) (by decide) k) ?_
        show own_Fin p.tables e below _ (T10.setTop (mkF m 204 #[.val (.int i0), .val (.int i1), .val (.int i2), .val (.int i3), .val (.long i4), .second, .val (.ref b1), .val (.int (1 : Int32)), .val (.int (i0 &&& (3 : Int32))), .val (.int pp), .val (.ref aT), .val (.int (1 : Int32)), .val (.int (1 : Int32)), .unset] [(.int (0 : Int32))]))
        refine own_st (fun t k => XS.istore X10.here hx rfl (hb hby at_204) rfl (l' := #[.val (.int i0), .val (.int i1), .val (.int i2), .val (.int i3), .val (.long i4), .second, .val (.ref b1), .val (.int (1 : Int32)), .val (.int (i0 &&& (3 : Int32))), .val (.int pp), .val (.ref aT), .val (.int (1 : Int32)), .val (.int (1 : Int32)), .val (.int (0 : Int32))]) rfl k) ?_
        show own_Fin p.tables e below _ (T10.setTop (mkF m 206 #[.val (.int i0), .val (.int i1), .val (.int i2), .val (.int i3), .val (.long i4), .second, .val (.ref b1), .val (.int (1 : Int32)), .val (.int (i0 &&& (3 : Int32))), .val (.int pp), .val (.ref aT), .val (.int (1 : Int32)), .val (.int (1 : Int32)), .val (.int (0 : Int32))] []))
        refine own_st (fun t k => XS.iload X10.here hx rfl (hb hby at_206) rfl k) ?_
        show own_Fin p.tables e below _ (T10.setTop (mkF m 208 #[.val (.int i0), .val (.int i1), .val (.int i2), .val (.int i3), .val (.long i4), .second, .val (.ref b1), .val (.int (1 : Int32)), .val (.int (i0 &&& (3 : Int32))), .val (.int pp), .val (.ref aT), .val (.int (1 : Int32)), .val (.int (1 : Int32)), .val (.int (0 : Int32))] [(.int (1 : Int32))]))
        refine own_st (fun t k => XS.ifNo X10.here hx rfl (hb hby at_208) rfl (XT.i0_eq_f (by decide)) k) ?_
        show own_Fin p.tables e below _ (T10.setTop (mkF m 211 #[.val (.int i0), .val (.int i1), .val (.int i2), .val (.int i3), .val (.long i4), .second, .val (.ref b1), .val (.int (1 : Int32)), .val (.int (i0 &&& (3 : Int32))), .val (.int pp), .val (.ref aT), .val (.int (1 : Int32)), .val (.int (1 : Int32)), .val (.int (0 : Int32))] []))
        refine own_st (fun t k => XS.aload X10.here hx rfl (hb hby at_211) rfl rfl k) ?_
        show own_Fin p.tables e below _ (T10.setTop (mkF m 213 #[.val (.int i0), .val (.int i1), .val (.int i2), .val (.int i3), .val (.long i4), .second, .val (.ref b1), .val (.int (1 : Int32)), .val (.int (i0 &&& (3 : Int32))), .val (.int pp), .val (.ref aT), .val (.int (1 : Int32)), .val (.int (1 : Int32)), .val (.int (0 : Int32))] [(.ref b1)]))
        obtain ⟨cq11, kq11, qa11, qb11, qc11⟩ := isOf hZ rfl Ea10
        obtain ⟨_, _, ⟨T11, L11, k11, n11⟩, -, X11, ⟨Lc11, hQ11, l11, y11, z11⟩, st11⟩ := X10.virtualBack hx (y := (⟨"com/example/chiffchaff/chiffchaff/OpenElements", "room", "()I"⟩ : MethodName)) (z := (⟨"com/example/chiffchaff/chiffchaff/OpenElements", "room", "()I"⟩ : MethodName)) hown (mvT hZ (hw _ (List.mem_of_getElem? (i := 38) rfl))) (mvT hZ (hw _ (List.mem_of_getElem? (i := 39) rfl))) (notFace_of_selects (args := #[]) (mvT hZ (hw _ (List.mem_of_getElem? (i := 41) rfl)))) (mvT hZ (hw _ (List.mem_of_getElem? (i := 41) rfl))) (mvT hZ (hw _ (List.mem_of_getElem? (i := 40) rfl))) (by decide) (backOf (W := 0) (rmR0 l Z a0 hw [] b1 bN kN T10.heap n0 Z10 Fb10 (V_N.ext O10.2)) hZ (hw _ (List.mem_of_getElem? (i := 42) rfl)) (hw _ (List.mem_of_getElem? (i := 2) rfl)) (by decide) (by decide)) qa11 qc11 (g := (mkF m 213 #[.val (.int i0), .val (.int i1), .val (.int i2), .val (.int i3), .val (.long i4), .second, .val (.ref b1), .val (.int (1 : Int32)), .val (.int (i0 &&& (3 : Int32))), .val (.int pp), .val (.ref aT), .val (.int (1 : Int32)), .val (.int (1 : Int32)), .val (.int (0 : Int32))] [(.ref b1)])) rfl (by rw [hml]; rfl) (Steps.refl _) (argsL := []) (rest := []) (lenOf pd___I rfl) rfl (by show 2 * 0 + _ ≤ _; exact Nat.le_of_eq rfl) (hb hby at_213) (fun _ _ => ⟨rfl, rfl, (by show cl + 0 + 0 + 0 ≤ 32; omega), (by show sl + 0 + 0 + 0 ≤ 256; omega)⟩)
        dsimp only [Pt.U, Pt.locs, Pt.cells, Pt.slots] at X11 l11 y11 z11 st11 hQ11
        have y11s := y11.symm; have z11s := z11.symm
        subst l11 y11s z11s
        obtain ⟨rfl, N11, q11⟩ := hQ11
        refine own_st (fun t k => st11.trans k) ?_
        have N11a := Fr.app N10a N11
        show own_Fin p.tables e below _ (T11.setTop (mkF m 216 #[.val (.int i0), .val (.int i1), .val (.int i2), .val (.int i3), .val (.long i4), .second, .val (.ref b1), .val (.int (1 : Int32)), .val (.int (i0 &&& (3 : Int32))), .val (.int pp), .val (.ref aT), .val (.int (1 : Int32)), .val (.int (1 : Int32)), .val (.int (0 : Int32))] [(.int (0 : Int32))]))
        refine own_st (fun t k => XS.iload X11.here hx rfl (hb hby at_216) rfl k) ?_
        show own_Fin p.tables e below _ (T11.setTop (mkF m 218 #[.val (.int i0), .val (.int i1), .val (.int i2), .val (.int i3), .val (.long i4), .second, .val (.ref b1), .val (.int (1 : Int32)), .val (.int (i0 &&& (3 : Int32))), .val (.int pp), .val (.ref aT), .val (.int (1 : Int32)), .val (.int (1 : Int32)), .val (.int (0 : Int32))] [(.int (0 : Int32)), (.int (0 : Int32))]))
        refine own_st (fun t k => XS.icmpNo X11.here hx rfl (hb hby at_218) rfl (XT.ii_ne_f (by decide)) k) ?_
        show own_Fin p.tables e below _ (T11.setTop (mkF m 221 #[.val (.int i0), .val (.int i1), .val (.int i2), .val (.int i3), .val (.long i4), .second, .val (.ref b1), .val (.int (1 : Int32)), .val (.int (i0 &&& (3 : Int32))), .val (.int pp), .val (.ref aT), .val (.int (1 : Int32)), .val (.int (1 : Int32)), .val (.int (0 : Int32))] []))
        refine own_st (fun t k => XS.iconst X11.here hx rfl (hb hby at_221) k) ?_
        show own_Fin p.tables e below _ (T11.setTop (mkF m 222 #[.val (.int i0), .val (.int i1), .val (.int i2), .val (.int i3), .val (.long i4), .second, .val (.ref b1), .val (.int (1 : Int32)), .val (.int (i0 &&& (3 : Int32))), .val (.int pp), .val (.ref aT), .val (.int (1 : Int32)), .val (.int (1 : Int32)), .val (.int (0 : Int32))] [(.int (1 : Int32))]))
        refine own_st (fun t k => XS.goto X11.here hx rfl (pc0 := 222) (pc' := 226) rfl (hb hby at_222) (by decide) (by decide) k) ?_
        show own_Fin p.tables e below _ (T11.setTop (mkF m 226 #[.val (.int i0), .val (.int i1), .val (.int i2), .val (.int i3), .val (.long i4), .second, .val (.ref b1), .val (.int (1 : Int32)), .val (.int (i0 &&& (3 : Int32))), .val (.int pp), .val (.ref aT), .val (.int (1 : Int32)), .val (.int (1 : Int32)), .val (.int (0 : Int32))] [(.int (1 : Int32))]))
        obtain ⟨fs, hr, hrun, hended, hW, hsame⟩ := X11.leave (v := (some (.int (1 : Int32)))) (fun h => by rw [Bd.returns] at h; cases h)
        refine ⟨_, _, retN X11 hx (t := .boolean) Bd.returns (by simp) (hb hby at_226) hr, hrun, hended, _, _, rfl, ?_, ⟨_, rfl⟩, hW, hsame.mono (by show cl + 0 + 0 + 0 ≤ 32; omega) (by show sl + 0 + 0 + 0 ≤ 256; omega)⟩
        show Q0 Z i0 i1 i2 i3 i4 aU aN bN kN h0 n0 _ T11.heap _
        rw [q11]
        exact ⟨rfl, N11a⟩
  have t115 : ∀ (T : State) (h : Heap) (locs : List Loc) (cl sl : Nat) (X : Stand p l e room_1 s m #[(.int i0), (.int i1), (.int i2), (.int i3), (.long i4)] below meth c T locs cl sl) (eT : T.heap = h) (N : Fr n0 locs) (hcl : cl ≤ 14) (hsl : sl ≤ 160) (Zh : n0 ≤ h.size) (O : Old Z n0 h) (aT : Addr) (pp : Int32) (tv : Value) (d : Int32) (hd : (d = 0 ∨ d = 1 ∨ d = 2 ∨ d = 3)) (OE0 : own_OE Z h n0 b1 b bl nm ur lv bd kB tv d) (hdp : ¬ d < pp), own_Fin p.tables e below (fun s₂ o => ∃ v L, o = .returned v ∧ Q0 Z i0 i1 i2 i3 i4 aU aN bN kN h0 n0 v s₂.heap L ∧ FrameEnd s o s₂ L room_1.cells room_1.slots) (T.setTop (mkF m 115 #[.val (.int i0), .val (.int i1), .val (.int i2), .val (.int i3), .val (.long i4), .second, .val (.ref b1), .val (.int (1 : Int32)), .val (.int (i0 &&& (3 : Int32))), .val (.int pp), .val (.ref aT), .unset, .unset, .unset] [])) := by
    intro T h locs cl sl X eT N hcl hsl Zh O aT pp tv d hd OE0 hdp
    show own_Fin p.tables e below _ (T.setTop (mkF m 115 #[.val (.int i0), .val (.int i1), .val (.int i2), .val (.int i3), .val (.long i4), .second, .val (.ref b1), .val (.int (1 : Int32)), .val (.int (i0 &&& (3 : Int32))), .val (.int pp), .val (.ref aT), .unset, .unset, .unset] []))
    refine own_st (fun t k => XS.iload X.here hx rfl (hb hby at_115) rfl k) ?_
    show own_Fin p.tables e below _ (T.setTop (mkF m 117 #[.val (.int i0), .val (.int i1), .val (.int i2), .val (.int i3), .val (.long i4), .second, .val (.ref b1), .val (.int (1 : Int32)), .val (.int (i0 &&& (3 : Int32))), .val (.int pp), .val (.ref aT), .unset, .unset, .unset] [(.int pp)]))
    rcases Decidable.em (0 < pp) with c0 | c0
    · have _ := c0
      refine own_st (fun t k => XS.ifNo X.here hx rfl (hb hby at_117) rfl (XT.i0_le_f c0) k) ?_
      show own_Fin p.tables e below _ (T.setTop (mkF m 120 #[.val (.int i0), .val (.int i1), .val (.int i2), .val (.int i3), .val (.long i4), .second, .val (.ref b1), .val (.int (1 : Int32)), .val (.int (i0 &&& (3 : Int32))), .val (.int pp), .val (.ref aT), .unset, .unset, .unset] []))
      have hp0 : (d = 1 ∨ d = 2 ∨ d = 3) := own_p0 hd hdp c0
      refine own_st (fun t k => XS.aload X.here hx rfl (hb hby at_120) rfl rfl k) ?_
      show own_Fin p.tables e below _ (T.setTop (mkF m 122 #[.val (.int i0), .val (.int i1), .val (.int i2), .val (.int i3), .val (.long i4), .second, .val (.ref b1), .val (.int (1 : Int32)), .val (.int (i0 &&& (3 : Int32))), .val (.int pp), .val (.ref aT), .unset, .unset, .unset] [(.ref b1)]))
      obtain ⟨cq12, kq12, qa12, qb12, qc12⟩ := isOf hZ eT OE0.1.1
      obtain ⟨_, _, ⟨T12, L12, k12, n12⟩, -, X12, ⟨Lc12, hQ12, l12, y12, z12⟩, st12⟩ := X.virtualBack hx (y := (⟨"com/example/chiffchaff/chiffchaff/OpenElements", "pop", "()V"⟩ : MethodName)) (z := (⟨"com/example/chiffchaff/chiffchaff/OpenElements", "pop", "()V"⟩ : MethodName)) hown (mvT hZ (hw _ (List.mem_of_getElem? (i := 105) rfl))) (mvT hZ (hw _ (List.mem_of_getElem? (i := 106) rfl))) (notFace_of_selects (args := #[]) (mvT hZ (hw _ (List.mem_of_getElem? (i := 108) rfl)))) (mvT hZ (hw _ (List.mem_of_getElem? (i := 108) rfl))) (mvT hZ (hw _ (List.mem_of_getElem? (i := 107) rfl))) (by decide) (backOf (W := 0) (rm15 l Z a0 hw [] b1 b bl nm ur lv bd kB _ _ h n0 Zh OE0 O hp0) hZ (hw _ (List.mem_of_getElem? (i := 109) rfl)) (hw _ (List.mem_of_getElem? (i := 2) rfl)) (by decide) (by decide)) qa12 qc12 (g := (mkF m 122 #[.val (.int i0), .val (.int i1), .val (.int i2), .val (.int i3), .val (.long i4), .second, .val (.ref b1), .val (.int (1 : Int32)), .val (.int (i0 &&& (3 : Int32))), .val (.int pp), .val (.ref aT), .unset, .unset, .unset] [(.ref b1)])) rfl (by rw [hml]; rfl) (Steps.refl _) (argsL := []) (rest := []) (lenOf pd___V rfl) rfl (by show 2 * 0 + _ ≤ _; exact Nat.le_of_eq rfl) (hb hby at_122) (fun _ _ => ⟨rfl, eT, (by show cl + 0 ≤ 32; omega), (by show sl + 0 ≤ 256; omega)⟩)
      dsimp only [Pt.U, Pt.locs, Pt.cells, Pt.slots] at X12 l12 y12 z12 st12 hQ12
      have y12s := y12.symm; have z12s := z12.symm
      subst l12 y12s z12s
      obtain ⟨rfl, N12, O12, tv12, OE12⟩ := hQ12
      refine own_st (fun t k => st12.trans k) ?_
      have Z12 : n0 ≤ T12.heap.size := O12.1 ▸ O12.2.1
      have N12a := Fr.app N N12
      show own_Fin p.tables e below _ (T12.setTop (mkF m 125 #[.val (.int i0), .val (.int i1), .val (.int i2), .val (.int i3), .val (.long i4), .second, .val (.ref b1), .val (.int (1 : Int32)), .val (.int (i0 &&& (3 : Int32))), .val (.int pp), .val (.ref aT), .unset, .unset, .unset] []))
      refine own_st (fun t k => XS.iload X12.here hx rfl (hb hby at_125) rfl k) ?_
      show own_Fin p.tables e below _ (T12.setTop (mkF m 127 #[.val (.int i0), .val (.int i1), .val (.int i2), .val (.int i3), .val (.long i4), .second, .val (.ref b1), .val (.int (1 : Int32)), .val (.int (i0 &&& (3 : Int32))), .val (.int pp), .val (.ref aT), .unset, .unset, .unset] [(.int pp)]))
      refine own_st (fun t k => XS.iconst X12.here hx rfl (hb hby at_127) k) ?_
      show own_Fin p.tables e below _ (T12.setTop (mkF m 128 #[.val (.int i0), .val (.int i1), .val (.int i2), .val (.int i3), .val (.long i4), .second, .val (.ref b1), .val (.int (1 : Int32)), .val (.int (i0 &&& (3 : Int32))), .val (.int pp), .val (.ref aT), .unset, .unset, .unset] [(.int (1 : Int32)), (.int pp)]))
      rcases Decidable.em ((1 : Int32) < pp) with c1 | c1
      · have _ := c1
        refine own_st (fun t k => XS.icmpNo X12.here hx rfl (hb hby at_128) rfl (XT.ii_le_f c1) k) ?_
        show own_Fin p.tables e below _ (T12.setTop (mkF m 131 #[.val (.int i0), .val (.int i1), .val (.int i2), .val (.int i3), .val (.long i4), .second, .val (.ref b1), .val (.int (1 : Int32)), .val (.int (i0 &&& (3 : Int32))), .val (.int pp), .val (.ref aT), .unset, .unset, .unset] []))
        have hp1 : ((d - 1) = 1 ∨ (d - 1) = 2 ∨ (d - 1) = 3) := own_p1 hd hdp c1
        refine own_st (fun t k => XS.aload X12.here hx rfl (hb hby at_131) rfl rfl k) ?_
        show own_Fin p.tables e below _ (T12.setTop (mkF m 133 #[.val (.int i0), .val (.int i1), .val (.int i2), .val (.int i3), .val (.long i4), .second, .val (.ref b1), .val (.int (1 : Int32)), .val (.int (i0 &&& (3 : Int32))), .val (.int pp), .val (.ref aT), .unset, .unset, .unset] [(.ref b1)]))
        obtain ⟨cq13, kq13, qa13, qb13, qc13⟩ := isOf hZ rfl OE12.1.1
        obtain ⟨_, _, ⟨T13, L13, k13, n13⟩, -, X13, ⟨Lc13, hQ13, l13, y13, z13⟩, st13⟩ := X12.virtualBack hx (y := (⟨"com/example/chiffchaff/chiffchaff/OpenElements", "pop", "()V"⟩ : MethodName)) (z := (⟨"com/example/chiffchaff/chiffchaff/OpenElements", "pop", "()V"⟩ : MethodName)) hown (mvT hZ (hw _ (List.mem_of_getElem? (i := 105) rfl))) (mvT hZ (hw _ (List.mem_of_getElem? (i := 106) rfl))) (notFace_of_selects (args := #[]) (mvT hZ (hw _ (List.mem_of_getElem? (i := 108) rfl)))) (mvT hZ (hw _ (List.mem_of_getElem? (i := 108) rfl))) (mvT hZ (hw _ (List.mem_of_getElem? (i := 107) rfl))) (by decide) (backOf (W := 0) (rm15 l Z a0 hw [] b1 b bl nm ur lv bd kB _ _ T12.heap n0 Z12 OE12 O12 hp1) hZ (hw _ (List.mem_of_getElem? (i := 109) rfl)) (hw _ (List.mem_of_getElem? (i := 2) rfl)) (by decide) (by decide)) qa13 qc13 (g := (mkF m 133 #[.val (.int i0), .val (.int i1), .val (.int i2), .val (.int i3), .val (.long i4), .second, .val (.ref b1), .val (.int (1 : Int32)), .val (.int (i0 &&& (3 : Int32))), .val (.int pp), .val (.ref aT), .unset, .unset, .unset] [(.ref b1)])) rfl (by rw [hml]; rfl) (Steps.refl _) (argsL := []) (rest := []) (lenOf pd___V rfl) rfl (by show 2 * 0 + _ ≤ _; exact Nat.le_of_eq rfl) (hb hby at_133) (fun _ _ => ⟨rfl, rfl, (by show cl + 0 + 0 ≤ 32; omega), (by show sl + 0 + 0 ≤ 256; omega)⟩)
        dsimp only [Pt.U, Pt.locs, Pt.cells, Pt.slots] at X13 l13 y13 z13 st13 hQ13
        have y13s := y13.symm; have z13s := z13.symm
        subst l13 y13s z13s
        obtain ⟨rfl, N13, O13, tv13, OE13⟩ := hQ13
        refine own_st (fun t k => st13.trans k) ?_
        have Z13 : n0 ≤ T13.heap.size := O13.1 ▸ O13.2.1
        have N13a := Fr.app N12a N13
        show own_Fin p.tables e below _ (T13.setTop (mkF m 136 #[.val (.int i0), .val (.int i1), .val (.int i2), .val (.int i3), .val (.long i4), .second, .val (.ref b1), .val (.int (1 : Int32)), .val (.int (i0 &&& (3 : Int32))), .val (.int pp), .val (.ref aT), .unset, .unset, .unset] []))
        refine own_st (fun t k => XS.iload X13.here hx rfl (hb hby at_136) rfl k) ?_
        show own_Fin p.tables e below _ (T13.setTop (mkF m 138 #[.val (.int i0), .val (.int i1), .val (.int i2), .val (.int i3), .val (.long i4), .second, .val (.ref b1), .val (.int (1 : Int32)), .val (.int (i0 &&& (3 : Int32))), .val (.int pp), .val (.ref aT), .unset, .unset, .unset] [(.int pp)]))
        refine own_st (fun t k => XS.iconst X13.here hx rfl (hb hby at_138) k) ?_
        show own_Fin p.tables e below _ (T13.setTop (mkF m 139 #[.val (.int i0), .val (.int i1), .val (.int i2), .val (.int i3), .val (.long i4), .second, .val (.ref b1), .val (.int (1 : Int32)), .val (.int (i0 &&& (3 : Int32))), .val (.int pp), .val (.ref aT), .unset, .unset, .unset] [(.int (2 : Int32)), (.int pp)]))
        rcases Decidable.em ((2 : Int32) < pp) with c2 | c2
        · have _ := c2
          refine own_st (fun t k => XS.icmpNo X13.here hx rfl (hb hby at_139) rfl (XT.ii_le_f c2) k) ?_
          show own_Fin p.tables e below _ (T13.setTop (mkF m 142 #[.val (.int i0), .val (.int i1), .val (.int i2), .val (.int i3), .val (.long i4), .second, .val (.ref b1), .val (.int (1 : Int32)), .val (.int (i0 &&& (3 : Int32))), .val (.int pp), .val (.ref aT), .unset, .unset, .unset] []))
          have hp2 : (((d - 1) - 1) = 1 ∨ ((d - 1) - 1) = 2 ∨ ((d - 1) - 1) = 3) := own_p2 hd hdp c2
          refine own_st (fun t k => XS.aload X13.here hx rfl (hb hby at_142) rfl rfl k) ?_
          show own_Fin p.tables e below _ (T13.setTop (mkF m 144 #[.val (.int i0), .val (.int i1), .val (.int i2), .val (.int i3), .val (.long i4), .second, .val (.ref b1), .val (.int (1 : Int32)), .val (.int (i0 &&& (3 : Int32))), .val (.int pp), .val (.ref aT), .unset, .unset, .unset] [(.ref b1)]))
          obtain ⟨cq14, kq14, qa14, qb14, qc14⟩ := isOf hZ rfl OE13.1.1
          obtain ⟨_, _, ⟨T14, L14, k14, n14⟩, -, X14, ⟨Lc14, hQ14, l14, y14, z14⟩, st14⟩ := X13.virtualBack hx (y := (⟨"com/example/chiffchaff/chiffchaff/OpenElements", "pop", "()V"⟩ : MethodName)) (z := (⟨"com/example/chiffchaff/chiffchaff/OpenElements", "pop", "()V"⟩ : MethodName)) hown (mvT hZ (hw _ (List.mem_of_getElem? (i := 105) rfl))) (mvT hZ (hw _ (List.mem_of_getElem? (i := 106) rfl))) (notFace_of_selects (args := #[]) (mvT hZ (hw _ (List.mem_of_getElem? (i := 108) rfl)))) (mvT hZ (hw _ (List.mem_of_getElem? (i := 108) rfl))) (mvT hZ (hw _ (List.mem_of_getElem? (i := 107) rfl))) (by decide) (backOf (W := 0) (rm15 l Z a0 hw [] b1 b bl nm ur lv bd kB _ _ T13.heap n0 Z13 OE13 O13 hp2) hZ (hw _ (List.mem_of_getElem? (i := 109) rfl)) (hw _ (List.mem_of_getElem? (i := 2) rfl)) (by decide) (by decide)) qa14 qc14 (g := (mkF m 144 #[.val (.int i0), .val (.int i1), .val (.int i2), .val (.int i3), .val (.long i4), .second, .val (.ref b1), .val (.int (1 : Int32)), .val (.int (i0 &&& (3 : Int32))), .val (.int pp), .val (.ref aT), .unset, .unset, .unset] [(.ref b1)])) rfl (by rw [hml]; rfl) (Steps.refl _) (argsL := []) (rest := []) (lenOf pd___V rfl) rfl (by show 2 * 0 + _ ≤ _; exact Nat.le_of_eq rfl) (hb hby at_144) (fun _ _ => ⟨rfl, rfl, (by show cl + 0 + 0 + 0 ≤ 32; omega), (by show sl + 0 + 0 + 0 ≤ 256; omega)⟩)
          dsimp only [Pt.U, Pt.locs, Pt.cells, Pt.slots] at X14 l14 y14 z14 st14 hQ14
          have y14s := y14.symm; have z14s := z14.symm
          subst l14 y14s z14s
          obtain ⟨rfl, N14, O14, tv14, OE14⟩ := hQ14
          refine own_st (fun t k => st14.trans k) ?_
          have Z14 : n0 ≤ T14.heap.size := O14.1 ▸ O14.2.1
          have N14a := Fr.app N13a N14
          show own_Fin p.tables e below _ (T14.setTop (mkF m 147 #[.val (.int i0), .val (.int i1), .val (.int i2), .val (.int i3), .val (.long i4), .second, .val (.ref b1), .val (.int (1 : Int32)), .val (.int (i0 &&& (3 : Int32))), .val (.int pp), .val (.ref aT), .unset, .unset, .unset] []))
          have hd4 := own_pd hp2
          exact t147 _ _ _ _ _ X14 rfl N14a (by show cl + 0 + 0 + 0 ≤ 14; omega) (by show sl + 0 + 0 + 0 ≤ 160; omega) Z14 O14 aT pp _ _ hd4 OE14
        · have _ := c2
          refine own_st (fun t k => XS.icmpYes X13.here hx rfl (pc0 := 139) (pc' := 147) rfl (hb hby at_139) rfl (XT.ii_le_t c2) (by decide) (by decide) k) ?_
          show own_Fin p.tables e below _ (T13.setTop (mkF m 147 #[.val (.int i0), .val (.int i1), .val (.int i2), .val (.int i3), .val (.long i4), .second, .val (.ref b1), .val (.int (1 : Int32)), .val (.int (i0 &&& (3 : Int32))), .val (.int pp), .val (.ref aT), .unset, .unset, .unset] []))
          have hd4 := own_pd hp1
          exact t147 _ _ _ _ _ X13 rfl N13a (by show cl + 0 + 0 ≤ 14; omega) (by show sl + 0 + 0 ≤ 160; omega) Z13 O13 aT pp _ _ hd4 OE13
      · have _ := c1
        refine own_st (fun t k => XS.icmpYes X12.here hx rfl (pc0 := 128) (pc' := 136) rfl (hb hby at_128) rfl (XT.ii_le_t c1) (by decide) (by decide) k) ?_
        show own_Fin p.tables e below _ (T12.setTop (mkF m 136 #[.val (.int i0), .val (.int i1), .val (.int i2), .val (.int i3), .val (.long i4), .second, .val (.ref b1), .val (.int (1 : Int32)), .val (.int (i0 &&& (3 : Int32))), .val (.int pp), .val (.ref aT), .unset, .unset, .unset] []))
        refine own_st (fun t k => XS.iload X12.here hx rfl (hb hby at_136) rfl k) ?_
        show own_Fin p.tables e below _ (T12.setTop (mkF m 138 #[.val (.int i0), .val (.int i1), .val (.int i2), .val (.int i3), .val (.long i4), .second, .val (.ref b1), .val (.int (1 : Int32)), .val (.int (i0 &&& (3 : Int32))), .val (.int pp), .val (.ref aT), .unset, .unset, .unset] [(.int pp)]))
        refine own_st (fun t k => XS.iconst X12.here hx rfl (hb hby at_138) k) ?_
        show own_Fin p.tables e below _ (T12.setTop (mkF m 139 #[.val (.int i0), .val (.int i1), .val (.int i2), .val (.int i3), .val (.long i4), .second, .val (.ref b1), .val (.int (1 : Int32)), .val (.int (i0 &&& (3 : Int32))), .val (.int pp), .val (.ref aT), .unset, .unset, .unset] [(.int (2 : Int32)), (.int pp)]))
        refine own_st (fun t k => XS.icmpYes X12.here hx rfl (pc0 := 139) (pc' := 147) rfl (hb hby at_139) rfl (XT.ii_le_t (own_pn12 c1)) (by decide) (by decide) k) ?_
        show own_Fin p.tables e below _ (T12.setTop (mkF m 147 #[.val (.int i0), .val (.int i1), .val (.int i2), .val (.int i3), .val (.long i4), .second, .val (.ref b1), .val (.int (1 : Int32)), .val (.int (i0 &&& (3 : Int32))), .val (.int pp), .val (.ref aT), .unset, .unset, .unset] []))
        have hd4 := own_pd hp0
        exact t147 _ _ _ _ _ X12 rfl N12a (by show cl + 0 ≤ 14; omega) (by show sl + 0 ≤ 160; omega) Z12 O12 aT pp _ _ hd4 OE12
    · have _ := c0
      refine own_st (fun t k => XS.ifYes X.here hx rfl (pc0 := 117) (pc' := 125) rfl (hb hby at_117) rfl (XT.i0_le_t c0) (by decide) (by decide) k) ?_
      show own_Fin p.tables e below _ (T.setTop (mkF m 125 #[.val (.int i0), .val (.int i1), .val (.int i2), .val (.int i3), .val (.long i4), .second, .val (.ref b1), .val (.int (1 : Int32)), .val (.int (i0 &&& (3 : Int32))), .val (.int pp), .val (.ref aT), .unset, .unset, .unset] []))
      refine own_st (fun t k => XS.iload X.here hx rfl (hb hby at_125) rfl k) ?_
      show own_Fin p.tables e below _ (T.setTop (mkF m 127 #[.val (.int i0), .val (.int i1), .val (.int i2), .val (.int i3), .val (.long i4), .second, .val (.ref b1), .val (.int (1 : Int32)), .val (.int (i0 &&& (3 : Int32))), .val (.int pp), .val (.ref aT), .unset, .unset, .unset] [(.int pp)]))
      refine own_st (fun t k => XS.iconst X.here hx rfl (hb hby at_127) k) ?_
      show own_Fin p.tables e below _ (T.setTop (mkF m 128 #[.val (.int i0), .val (.int i1), .val (.int i2), .val (.int i3), .val (.long i4), .second, .val (.ref b1), .val (.int (1 : Int32)), .val (.int (i0 &&& (3 : Int32))), .val (.int pp), .val (.ref aT), .unset, .unset, .unset] [(.int (1 : Int32)), (.int pp)]))
      refine own_st (fun t k => XS.icmpYes X.here hx rfl (pc0 := 128) (pc' := 136) rfl (hb hby at_128) rfl (XT.ii_le_t (own_pn01 c0)) (by decide) (by decide) k) ?_
      show own_Fin p.tables e below _ (T.setTop (mkF m 136 #[.val (.int i0), .val (.int i1), .val (.int i2), .val (.int i3), .val (.long i4), .second, .val (.ref b1), .val (.int (1 : Int32)), .val (.int (i0 &&& (3 : Int32))), .val (.int pp), .val (.ref aT), .unset, .unset, .unset] []))
      refine own_st (fun t k => XS.iload X.here hx rfl (hb hby at_136) rfl k) ?_
      show own_Fin p.tables e below _ (T.setTop (mkF m 138 #[.val (.int i0), .val (.int i1), .val (.int i2), .val (.int i3), .val (.long i4), .second, .val (.ref b1), .val (.int (1 : Int32)), .val (.int (i0 &&& (3 : Int32))), .val (.int pp), .val (.ref aT), .unset, .unset, .unset] [(.int pp)]))
      refine own_st (fun t k => XS.iconst X.here hx rfl (hb hby at_138) k) ?_
      show own_Fin p.tables e below _ (T.setTop (mkF m 139 #[.val (.int i0), .val (.int i1), .val (.int i2), .val (.int i3), .val (.long i4), .second, .val (.ref b1), .val (.int (1 : Int32)), .val (.int (i0 &&& (3 : Int32))), .val (.int pp), .val (.ref aT), .unset, .unset, .unset] [(.int (2 : Int32)), (.int pp)]))
      refine own_st (fun t k => XS.icmpYes X.here hx rfl (pc0 := 139) (pc' := 147) rfl (hb hby at_139) rfl (XT.ii_le_t (own_pn02 c0)) (by decide) (by decide) k) ?_
      show own_Fin p.tables e below _ (T.setTop (mkF m 147 #[.val (.int i0), .val (.int i1), .val (.int i2), .val (.int i3), .val (.long i4), .second, .val (.ref b1), .val (.int (1 : Int32)), .val (.int (i0 &&& (3 : Int32))), .val (.int pp), .val (.ref aT), .unset, .unset, .unset] []))
      exact t147 _ _ _ _ _ X eT N (by show cl ≤ 14; omega) (by show sl ≤ 160; omega) Zh O aT pp _ _ hd OE0
  have t62 : ∀ (T : State) (h : Heap) (locs : List Loc) (cl sl : Nat) (X : Stand p l e room_1 s m #[(.int i0), (.int i1), (.int i2), (.int i3), (.long i4)] below meth c T locs cl sl) (eT : T.heap = h) (N : Fr n0 locs) (hcl : cl ≤ 11) (hsl : sl ≤ 100) (Zh : n0 ≤ h.size) (O : Old Z n0 h) (aT : Addr) (pp : Int32) (E_T : Exa Z h aT "com/example/chiffchaff/chiffchaff/ElementType") (OE0 : own_OE Z h n0 b1 b bl nm ur lv bd kB .null 0) (hpp : ¬ (i0 &&& (3 : Int32)) < pp), own_Fin p.tables e below (fun s₂ o => ∃ v L, o = .returned v ∧ Q0 Z i0 i1 i2 i3 i4 aU aN bN kN h0 n0 v s₂.heap L ∧ FrameEnd s o s₂ L room_1.cells room_1.slots) (T.setTop (mkF m 62 #[.val (.int i0), .val (.int i1), .val (.int i2), .val (.int i3), .val (.long i4), .second, .val (.ref b1), .val (.int (1 : Int32)), .val (.int (i0 &&& (3 : Int32))), .val (.int pp), .val (.ref aT), .unset, .unset, .unset] [])) := by
    intro T h locs cl sl X eT N hcl hsl Zh O aT pp E_T OE0 hpp
    show own_Fin p.tables e below _ (T.setTop (mkF m 62 #[.val (.int i0), .val (.int i1), .val (.int i2), .val (.int i3), .val (.long i4), .second, .val (.ref b1), .val (.int (1 : Int32)), .val (.int (i0 &&& (3 : Int32))), .val (.int pp), .val (.ref aT), .unset, .unset, .unset] []))
    refine own_st (fun t k => XS.iload X.here hx rfl (hb hby at_62) rfl k) ?_
    show own_Fin p.tables e below _ (T.setTop (mkF m 64 #[.val (.int i0), .val (.int i1), .val (.int i2), .val (.int i3), .val (.long i4), .second, .val (.ref b1), .val (.int (1 : Int32)), .val (.int (i0 &&& (3 : Int32))), .val (.int pp), .val (.ref aT), .unset, .unset, .unset] [(.int (i0 &&& (3 : Int32)))]))
    rcases Decidable.em (0 < (i0 &&& (3 : Int32))) with c0 | c0
    · have _ := c0
      refine own_st (fun t k => XS.ifNo X.here hx rfl (hb hby at_64) rfl (XT.i0_le_f c0) k) ?_
      show own_Fin p.tables e below _ (T.setTop (mkF m 67 #[.val (.int i0), .val (.int i1), .val (.int i2), .val (.int i3), .val (.long i4), .second, .val (.ref b1), .val (.int (1 : Int32)), .val (.int (i0 &&& (3 : Int32))), .val (.int pp), .val (.ref aT), .unset, .unset, .unset] []))
      refine own_st (fun t k => XS.aload X.here hx rfl (hb hby at_67) rfl rfl k) ?_
      show own_Fin p.tables e below _ (T.setTop (mkF m 69 #[.val (.int i0), .val (.int i1), .val (.int i2), .val (.int i3), .val (.long i4), .second, .val (.ref b1), .val (.int (1 : Int32)), .val (.int (i0 &&& (3 : Int32))), .val (.int pp), .val (.ref aT), .unset, .unset, .unset] [(.ref b1)]))
      refine own_st (fun t k => XS.aconstNull X.here hx rfl (hb hby at_69) k) ?_
      show own_Fin p.tables e below _ (T.setTop (mkF m 70 #[.val (.int i0), .val (.int i1), .val (.int i2), .val (.int i3), .val (.long i4), .second, .val (.ref b1), .val (.int (1 : Int32)), .val (.int (i0 &&& (3 : Int32))), .val (.int pp), .val (.ref aT), .unset, .unset, .unset] [.null, (.ref b1)]))
      refine own_st (fun t k => XS.aload X.here hx rfl (hb hby at_70) rfl rfl k) ?_
      show own_Fin p.tables e below _ (T.setTop (mkF m 72 #[.val (.int i0), .val (.int i1), .val (.int i2), .val (.int i3), .val (.long i4), .second, .val (.ref b1), .val (.int (1 : Int32)), .val (.int (i0 &&& (3 : Int32))), .val (.int pp), .val (.ref aT), .unset, .unset, .unset] [(.ref aT), .null, (.ref b1)]))
      refine own_st (fun t k => XS.aconstNull X.here hx rfl (hb hby at_72) k) ?_
      show own_Fin p.tables e below _ (T.setTop (mkF m 73 #[.val (.int i0), .val (.int i1), .val (.int i2), .val (.int i3), .val (.long i4), .second, .val (.ref b1), .val (.int (1 : Int32)), .val (.int (i0 &&& (3 : Int32))), .val (.int pp), .val (.ref aT), .unset, .unset, .unset] [.null, (.ref aT), .null, (.ref b1)]))
      refine own_st (fun t k => XS.iloadN X.here hx rfl (hb hby at_73) rfl k) ?_
      show own_Fin p.tables e below _ (T.setTop (mkF m 74 #[.val (.int i0), .val (.int i1), .val (.int i2), .val (.int i3), .val (.long i4), .second, .val (.ref b1), .val (.int (1 : Int32)), .val (.int (i0 &&& (3 : Int32))), .val (.int pp), .val (.ref aT), .unset, .unset, .unset] [(.int i3), .null, (.ref aT), .null, (.ref b1)]))
      refine own_st (fun t k => XS.lload X.here hx rfl (hb hby at_74) rfl k) ?_
      show own_Fin p.tables e below _ (T.setTop (mkF m 76 #[.val (.int i0), .val (.int i1), .val (.int i2), .val (.int i3), .val (.long i4), .second, .val (.ref b1), .val (.int (1 : Int32)), .val (.int (i0 &&& (3 : Int32))), .val (.int pp), .val (.ref aT), .unset, .unset, .unset] [(.long i4), (.int i3), .null, (.ref aT), .null, (.ref b1)]))
      obtain ⟨cq15, kq15, qa15, qb15, qc15⟩ := isOf hZ eT OE0.1.1
      obtain ⟨_, _, ⟨T15, L15, k15, n15⟩, -, X15, ⟨Lc15, hQ15, l15, y15, z15⟩, st15⟩ := X.virtualBack hx (y := (⟨"com/example/chiffchaff/chiffchaff/OpenElements", "push", "(Lcom/example/chiffchaff/chiffchaff/XmlName;Lcom/example/chiffchaff/chiffchaff/ElementType;Ljava/lang/String;IJ)V"⟩ : MethodName)) (z := (⟨"com/example/chiffchaff/chiffchaff/OpenElements", "push", "(Lcom/example/chiffchaff/chiffchaff/XmlName;Lcom/example/chiffchaff/chiffchaff/ElementType;Ljava/lang/String;IJ)V"⟩ : MethodName)) hown (mvT hZ (hw _ (List.mem_of_getElem? (i := 83) rfl))) (mvT hZ (hw _ (List.mem_of_getElem? (i := 84) rfl))) (notFace_of_selects (args := #[]) (mvT hZ (hw _ (List.mem_of_getElem? (i := 86) rfl)))) (mvT hZ (hw _ (List.mem_of_getElem? (i := 86) rfl))) (mvT hZ (hw _ (List.mem_of_getElem? (i := 85) rfl))) (by decide) (backOf (W := 0) (rm11 l Z a0 hw [] b1 b bl nm ur lv bd kB _ 0 aT aU i3 i4 h n0 Zh OE0 O E_T S_U (by decide)) hZ (hw _ (List.mem_of_getElem? (i := 87) rfl)) (hw _ (List.mem_of_getElem? (i := 2) rfl)) (by decide) (by decide)) qa15 qc15 (g := (mkF m 76 #[.val (.int i0), .val (.int i1), .val (.int i2), .val (.int i3), .val (.long i4), .second, .val (.ref b1), .val (.int (1 : Int32)), .val (.int (i0 &&& (3 : Int32))), .val (.int pp), .val (.ref aT), .unset, .unset, .unset] [(.long i4), (.int i3), .null, (.ref aT), .null, (.ref b1)])) rfl (by rw [hml]; rfl) (Steps.refl _) (argsL := [.null, (.ref aT), .null, (.int i3), (.long i4)]) (rest := []) (lenOf pd__Lcom_example_chiffchaff_chiffchaff_XmlName_Lcom_example_chiffchaff_chiffchaff_ElementType_Ljava_lang_String_IJ_V rfl) rfl (by show 2 * 0 + _ ≤ _; exact Nat.le_of_eq rfl) (hb hby at_76) (fun _ _ => ⟨rfl, eT, (by show cl + 1 ≤ 32; omega), (by show sl + 16 ≤ 256; omega)⟩)
      dsimp only [Pt.U, Pt.locs, Pt.cells, Pt.slots] at X15 l15 y15 z15 st15 hQ15
      have y15s := y15.symm; have z15s := z15.symm
      subst l15 y15s z15s
      obtain ⟨rfl, N15, O15, ET15, tv15, OE15⟩ := hQ15
      refine own_st (fun t k => st15.trans k) ?_
      have Z15 : n0 ≤ T15.heap.size := O15.1 ▸ O15.2.1
      have N15a := Fr.app N N15
      show own_Fin p.tables e below _ (T15.setTop (mkF m 79 #[.val (.int i0), .val (.int i1), .val (.int i2), .val (.int i3), .val (.long i4), .second, .val (.ref b1), .val (.int (1 : Int32)), .val (.int (i0 &&& (3 : Int32))), .val (.int pp), .val (.ref aT), .unset, .unset, .unset] []))
      have OE15b : own_OE Z T15.heap n0 b1 b bl nm ur lv bd kB tv15 1 := OE15
      refine own_st (fun t k => XS.iload X15.here hx rfl (hb hby at_79) rfl k) ?_
      show own_Fin p.tables e below _ (T15.setTop (mkF m 81 #[.val (.int i0), .val (.int i1), .val (.int i2), .val (.int i3), .val (.long i4), .second, .val (.ref b1), .val (.int (1 : Int32)), .val (.int (i0 &&& (3 : Int32))), .val (.int pp), .val (.ref aT), .unset, .unset, .unset] [(.int (i0 &&& (3 : Int32)))]))
      refine own_st (fun t k => XS.iconst X15.here hx rfl (hb hby at_81) k) ?_
      show own_Fin p.tables e below _ (T15.setTop (mkF m 82 #[.val (.int i0), .val (.int i1), .val (.int i2), .val (.int i3), .val (.long i4), .second, .val (.ref b1), .val (.int (1 : Int32)), .val (.int (i0 &&& (3 : Int32))), .val (.int pp), .val (.ref aT), .unset, .unset, .unset] [(.int (1 : Int32)), (.int (i0 &&& (3 : Int32)))]))
      rcases Decidable.em ((1 : Int32) < (i0 &&& (3 : Int32))) with c1 | c1
      · have _ := c1
        refine own_st (fun t k => XS.icmpNo X15.here hx rfl (hb hby at_82) rfl (XT.ii_le_f c1) k) ?_
        show own_Fin p.tables e below _ (T15.setTop (mkF m 85 #[.val (.int i0), .val (.int i1), .val (.int i2), .val (.int i3), .val (.long i4), .second, .val (.ref b1), .val (.int (1 : Int32)), .val (.int (i0 &&& (3 : Int32))), .val (.int pp), .val (.ref aT), .unset, .unset, .unset] []))
        refine own_st (fun t k => XS.aload X15.here hx rfl (hb hby at_85) rfl rfl k) ?_
        show own_Fin p.tables e below _ (T15.setTop (mkF m 87 #[.val (.int i0), .val (.int i1), .val (.int i2), .val (.int i3), .val (.long i4), .second, .val (.ref b1), .val (.int (1 : Int32)), .val (.int (i0 &&& (3 : Int32))), .val (.int pp), .val (.ref aT), .unset, .unset, .unset] [(.ref b1)]))
        refine own_st (fun t k => XS.aconstNull X15.here hx rfl (hb hby at_87) k) ?_
        show own_Fin p.tables e below _ (T15.setTop (mkF m 88 #[.val (.int i0), .val (.int i1), .val (.int i2), .val (.int i3), .val (.long i4), .second, .val (.ref b1), .val (.int (1 : Int32)), .val (.int (i0 &&& (3 : Int32))), .val (.int pp), .val (.ref aT), .unset, .unset, .unset] [.null, (.ref b1)]))
        refine own_st (fun t k => XS.aload X15.here hx rfl (hb hby at_88) rfl rfl k) ?_
        show own_Fin p.tables e below _ (T15.setTop (mkF m 90 #[.val (.int i0), .val (.int i1), .val (.int i2), .val (.int i3), .val (.long i4), .second, .val (.ref b1), .val (.int (1 : Int32)), .val (.int (i0 &&& (3 : Int32))), .val (.int pp), .val (.ref aT), .unset, .unset, .unset] [(.ref aT), .null, (.ref b1)]))
        refine own_st (fun t k => XS.aconstNull X15.here hx rfl (hb hby at_90) k) ?_
        show own_Fin p.tables e below _ (T15.setTop (mkF m 91 #[.val (.int i0), .val (.int i1), .val (.int i2), .val (.int i3), .val (.long i4), .second, .val (.ref b1), .val (.int (1 : Int32)), .val (.int (i0 &&& (3 : Int32))), .val (.int pp), .val (.ref aT), .unset, .unset, .unset] [.null, (.ref aT), .null, (.ref b1)]))
        refine own_st (fun t k => XS.iloadN X15.here hx rfl (hb hby at_91) rfl k) ?_
        show own_Fin p.tables e below _ (T15.setTop (mkF m 92 #[.val (.int i0), .val (.int i1), .val (.int i2), .val (.int i3), .val (.long i4), .second, .val (.ref b1), .val (.int (1 : Int32)), .val (.int (i0 &&& (3 : Int32))), .val (.int pp), .val (.ref aT), .unset, .unset, .unset] [(.int i3), .null, (.ref aT), .null, (.ref b1)]))
        refine own_st (fun t k => XS.lload X15.here hx rfl (hb hby at_92) rfl k) ?_
        show own_Fin p.tables e below _ (T15.setTop (mkF m 94 #[.val (.int i0), .val (.int i1), .val (.int i2), .val (.int i3), .val (.long i4), .second, .val (.ref b1), .val (.int (1 : Int32)), .val (.int (i0 &&& (3 : Int32))), .val (.int pp), .val (.ref aT), .unset, .unset, .unset] [(.long i4), (.int i3), .null, (.ref aT), .null, (.ref b1)]))
        obtain ⟨cq16, kq16, qa16, qb16, qc16⟩ := isOf hZ rfl OE15.1.1
        obtain ⟨_, _, ⟨T16, L16, k16, n16⟩, -, X16, ⟨Lc16, hQ16, l16, y16, z16⟩, st16⟩ := X15.virtualBack hx (y := (⟨"com/example/chiffchaff/chiffchaff/OpenElements", "push", "(Lcom/example/chiffchaff/chiffchaff/XmlName;Lcom/example/chiffchaff/chiffchaff/ElementType;Ljava/lang/String;IJ)V"⟩ : MethodName)) (z := (⟨"com/example/chiffchaff/chiffchaff/OpenElements", "push", "(Lcom/example/chiffchaff/chiffchaff/XmlName;Lcom/example/chiffchaff/chiffchaff/ElementType;Ljava/lang/String;IJ)V"⟩ : MethodName)) hown (mvT hZ (hw _ (List.mem_of_getElem? (i := 83) rfl))) (mvT hZ (hw _ (List.mem_of_getElem? (i := 84) rfl))) (notFace_of_selects (args := #[]) (mvT hZ (hw _ (List.mem_of_getElem? (i := 86) rfl)))) (mvT hZ (hw _ (List.mem_of_getElem? (i := 86) rfl))) (mvT hZ (hw _ (List.mem_of_getElem? (i := 85) rfl))) (by decide) (backOf (W := 0) (rm11 l Z a0 hw [] b1 b bl nm ur lv bd kB _ 1 aT aU i3 i4 T15.heap n0 Z15 OE15b O15 ET15 S_U (by decide)) hZ (hw _ (List.mem_of_getElem? (i := 87) rfl)) (hw _ (List.mem_of_getElem? (i := 2) rfl)) (by decide) (by decide)) qa16 qc16 (g := (mkF m 94 #[.val (.int i0), .val (.int i1), .val (.int i2), .val (.int i3), .val (.long i4), .second, .val (.ref b1), .val (.int (1 : Int32)), .val (.int (i0 &&& (3 : Int32))), .val (.int pp), .val (.ref aT), .unset, .unset, .unset] [(.long i4), (.int i3), .null, (.ref aT), .null, (.ref b1)])) rfl (by rw [hml]; rfl) (Steps.refl _) (argsL := [.null, (.ref aT), .null, (.int i3), (.long i4)]) (rest := []) (lenOf pd__Lcom_example_chiffchaff_chiffchaff_XmlName_Lcom_example_chiffchaff_chiffchaff_ElementType_Ljava_lang_String_IJ_V rfl) rfl (by show 2 * 0 + _ ≤ _; exact Nat.le_of_eq rfl) (hb hby at_94) (fun _ _ => ⟨rfl, rfl, (by show cl + 1 + 1 ≤ 32; omega), (by show sl + 16 + 16 ≤ 256; omega)⟩)
        dsimp only [Pt.U, Pt.locs, Pt.cells, Pt.slots] at X16 l16 y16 z16 st16 hQ16
        have y16s := y16.symm; have z16s := z16.symm
        subst l16 y16s z16s
        obtain ⟨rfl, N16, O16, ET16, tv16, OE16⟩ := hQ16
        refine own_st (fun t k => st16.trans k) ?_
        have Z16 : n0 ≤ T16.heap.size := O16.1 ▸ O16.2.1
        have N16a := Fr.app N15a N16
        show own_Fin p.tables e below _ (T16.setTop (mkF m 97 #[.val (.int i0), .val (.int i1), .val (.int i2), .val (.int i3), .val (.long i4), .second, .val (.ref b1), .val (.int (1 : Int32)), .val (.int (i0 &&& (3 : Int32))), .val (.int pp), .val (.ref aT), .unset, .unset, .unset] []))
        have OE16b : own_OE Z T16.heap n0 b1 b bl nm ur lv bd kB tv16 2 := OE16
        refine own_st (fun t k => XS.iload X16.here hx rfl (hb hby at_97) rfl k) ?_
        show own_Fin p.tables e below _ (T16.setTop (mkF m 99 #[.val (.int i0), .val (.int i1), .val (.int i2), .val (.int i3), .val (.long i4), .second, .val (.ref b1), .val (.int (1 : Int32)), .val (.int (i0 &&& (3 : Int32))), .val (.int pp), .val (.ref aT), .unset, .unset, .unset] [(.int (i0 &&& (3 : Int32)))]))
        refine own_st (fun t k => XS.iconst X16.here hx rfl (hb hby at_99) k) ?_
        show own_Fin p.tables e below _ (T16.setTop (mkF m 100 #[.val (.int i0), .val (.int i1), .val (.int i2), .val (.int i3), .val (.long i4), .second, .val (.ref b1), .val (.int (1 : Int32)), .val (.int (i0 &&& (3 : Int32))), .val (.int pp), .val (.ref aT), .unset, .unset, .unset] [(.int (2 : Int32)), (.int (i0 &&& (3 : Int32)))]))
        rcases Decidable.em ((2 : Int32) < (i0 &&& (3 : Int32))) with c2 | c2
        · have _ := c2
          refine own_st (fun t k => XS.icmpNo X16.here hx rfl (hb hby at_100) rfl (XT.ii_le_f c2) k) ?_
          show own_Fin p.tables e below _ (T16.setTop (mkF m 103 #[.val (.int i0), .val (.int i1), .val (.int i2), .val (.int i3), .val (.long i4), .second, .val (.ref b1), .val (.int (1 : Int32)), .val (.int (i0 &&& (3 : Int32))), .val (.int pp), .val (.ref aT), .unset, .unset, .unset] []))
          refine own_st (fun t k => XS.aload X16.here hx rfl (hb hby at_103) rfl rfl k) ?_
          show own_Fin p.tables e below _ (T16.setTop (mkF m 105 #[.val (.int i0), .val (.int i1), .val (.int i2), .val (.int i3), .val (.long i4), .second, .val (.ref b1), .val (.int (1 : Int32)), .val (.int (i0 &&& (3 : Int32))), .val (.int pp), .val (.ref aT), .unset, .unset, .unset] [(.ref b1)]))
          refine own_st (fun t k => XS.aconstNull X16.here hx rfl (hb hby at_105) k) ?_
          show own_Fin p.tables e below _ (T16.setTop (mkF m 106 #[.val (.int i0), .val (.int i1), .val (.int i2), .val (.int i3), .val (.long i4), .second, .val (.ref b1), .val (.int (1 : Int32)), .val (.int (i0 &&& (3 : Int32))), .val (.int pp), .val (.ref aT), .unset, .unset, .unset] [.null, (.ref b1)]))
          refine own_st (fun t k => XS.aload X16.here hx rfl (hb hby at_106) rfl rfl k) ?_
          show own_Fin p.tables e below _ (T16.setTop (mkF m 108 #[.val (.int i0), .val (.int i1), .val (.int i2), .val (.int i3), .val (.long i4), .second, .val (.ref b1), .val (.int (1 : Int32)), .val (.int (i0 &&& (3 : Int32))), .val (.int pp), .val (.ref aT), .unset, .unset, .unset] [(.ref aT), .null, (.ref b1)]))
          refine own_st (fun t k => XS.aconstNull X16.here hx rfl (hb hby at_108) k) ?_
          show own_Fin p.tables e below _ (T16.setTop (mkF m 109 #[.val (.int i0), .val (.int i1), .val (.int i2), .val (.int i3), .val (.long i4), .second, .val (.ref b1), .val (.int (1 : Int32)), .val (.int (i0 &&& (3 : Int32))), .val (.int pp), .val (.ref aT), .unset, .unset, .unset] [.null, (.ref aT), .null, (.ref b1)]))
          refine own_st (fun t k => XS.iloadN X16.here hx rfl (hb hby at_109) rfl k) ?_
          show own_Fin p.tables e below _ (T16.setTop (mkF m 110 #[.val (.int i0), .val (.int i1), .val (.int i2), .val (.int i3), .val (.long i4), .second, .val (.ref b1), .val (.int (1 : Int32)), .val (.int (i0 &&& (3 : Int32))), .val (.int pp), .val (.ref aT), .unset, .unset, .unset] [(.int i3), .null, (.ref aT), .null, (.ref b1)]))
          refine own_st (fun t k => XS.lload X16.here hx rfl (hb hby at_110) rfl k) ?_
          show own_Fin p.tables e below _ (T16.setTop (mkF m 112 #[.val (.int i0), .val (.int i1), .val (.int i2), .val (.int i3), .val (.long i4), .second, .val (.ref b1), .val (.int (1 : Int32)), .val (.int (i0 &&& (3 : Int32))), .val (.int pp), .val (.ref aT), .unset, .unset, .unset] [(.long i4), (.int i3), .null, (.ref aT), .null, (.ref b1)]))
          obtain ⟨cq17, kq17, qa17, qb17, qc17⟩ := isOf hZ rfl OE16.1.1
          obtain ⟨_, _, ⟨T17, L17, k17, n17⟩, -, X17, ⟨Lc17, hQ17, l17, y17, z17⟩, st17⟩ := X16.virtualBack hx (y := (⟨"com/example/chiffchaff/chiffchaff/OpenElements", "push", "(Lcom/example/chiffchaff/chiffchaff/XmlName;Lcom/example/chiffchaff/chiffchaff/ElementType;Ljava/lang/String;IJ)V"⟩ : MethodName)) (z := (⟨"com/example/chiffchaff/chiffchaff/OpenElements", "push", "(Lcom/example/chiffchaff/chiffchaff/XmlName;Lcom/example/chiffchaff/chiffchaff/ElementType;Ljava/lang/String;IJ)V"⟩ : MethodName)) hown (mvT hZ (hw _ (List.mem_of_getElem? (i := 83) rfl))) (mvT hZ (hw _ (List.mem_of_getElem? (i := 84) rfl))) (notFace_of_selects (args := #[]) (mvT hZ (hw _ (List.mem_of_getElem? (i := 86) rfl)))) (mvT hZ (hw _ (List.mem_of_getElem? (i := 86) rfl))) (mvT hZ (hw _ (List.mem_of_getElem? (i := 85) rfl))) (by decide) (backOf (W := 0) (rm11 l Z a0 hw [] b1 b bl nm ur lv bd kB _ 2 aT aU i3 i4 T16.heap n0 Z16 OE16b O16 ET16 S_U (by decide)) hZ (hw _ (List.mem_of_getElem? (i := 87) rfl)) (hw _ (List.mem_of_getElem? (i := 2) rfl)) (by decide) (by decide)) qa17 qc17 (g := (mkF m 112 #[.val (.int i0), .val (.int i1), .val (.int i2), .val (.int i3), .val (.long i4), .second, .val (.ref b1), .val (.int (1 : Int32)), .val (.int (i0 &&& (3 : Int32))), .val (.int pp), .val (.ref aT), .unset, .unset, .unset] [(.long i4), (.int i3), .null, (.ref aT), .null, (.ref b1)])) rfl (by rw [hml]; rfl) (Steps.refl _) (argsL := [.null, (.ref aT), .null, (.int i3), (.long i4)]) (rest := []) (lenOf pd__Lcom_example_chiffchaff_chiffchaff_XmlName_Lcom_example_chiffchaff_chiffchaff_ElementType_Ljava_lang_String_IJ_V rfl) rfl (by show 2 * 0 + _ ≤ _; exact Nat.le_of_eq rfl) (hb hby at_112) (fun _ _ => ⟨rfl, rfl, (by show cl + 1 + 1 + 1 ≤ 32; omega), (by show sl + 16 + 16 + 16 ≤ 256; omega)⟩)
          dsimp only [Pt.U, Pt.locs, Pt.cells, Pt.slots] at X17 l17 y17 z17 st17 hQ17
          have y17s := y17.symm; have z17s := z17.symm
          subst l17 y17s z17s
          obtain ⟨rfl, N17, O17, ET17, tv17, OE17⟩ := hQ17
          refine own_st (fun t k => st17.trans k) ?_
          have Z17 : n0 ≤ T17.heap.size := O17.1 ▸ O17.2.1
          have N17a := Fr.app N16a N17
          show own_Fin p.tables e below _ (T17.setTop (mkF m 115 #[.val (.int i0), .val (.int i1), .val (.int i2), .val (.int i3), .val (.long i4), .second, .val (.ref b1), .val (.int (1 : Int32)), .val (.int (i0 &&& (3 : Int32))), .val (.int pp), .val (.ref aT), .unset, .unset, .unset] []))
          have OE17b : own_OE Z T17.heap n0 b1 b bl nm ur lv bd kB tv17 3 := OE17
          exact t115 _ _ _ _ _ X17 rfl N17a (by show cl + 1 + 1 + 1 ≤ 14; omega) (by show sl + 16 + 16 + 16 ≤ 160; omega) Z17 O17 aT pp _ 3 (by decide) OE17b (own_l3 hpp)
        · have _ := c2
          refine own_st (fun t k => XS.icmpYes X16.here hx rfl (pc0 := 100) (pc' := 115) rfl (hb hby at_100) rfl (XT.ii_le_t c2) (by decide) (by decide) k) ?_
          show own_Fin p.tables e below _ (T16.setTop (mkF m 115 #[.val (.int i0), .val (.int i1), .val (.int i2), .val (.int i3), .val (.long i4), .second, .val (.ref b1), .val (.int (1 : Int32)), .val (.int (i0 &&& (3 : Int32))), .val (.int pp), .val (.ref aT), .unset, .unset, .unset] []))
          exact t115 _ _ _ _ _ X16 rfl N16a (by show cl + 1 + 1 ≤ 14; omega) (by show sl + 16 + 16 ≤ 160; omega) Z16 O16 aT pp _ 2 (by decide) OE16b (own_ln2 hpp c2)
      · have _ := c1
        refine own_st (fun t k => XS.icmpYes X15.here hx rfl (pc0 := 82) (pc' := 97) rfl (hb hby at_82) rfl (XT.ii_le_t c1) (by decide) (by decide) k) ?_
        show own_Fin p.tables e below _ (T15.setTop (mkF m 97 #[.val (.int i0), .val (.int i1), .val (.int i2), .val (.int i3), .val (.long i4), .second, .val (.ref b1), .val (.int (1 : Int32)), .val (.int (i0 &&& (3 : Int32))), .val (.int pp), .val (.ref aT), .unset, .unset, .unset] []))
        refine own_st (fun t k => XS.iload X15.here hx rfl (hb hby at_97) rfl k) ?_
        show own_Fin p.tables e below _ (T15.setTop (mkF m 99 #[.val (.int i0), .val (.int i1), .val (.int i2), .val (.int i3), .val (.long i4), .second, .val (.ref b1), .val (.int (1 : Int32)), .val (.int (i0 &&& (3 : Int32))), .val (.int pp), .val (.ref aT), .unset, .unset, .unset] [(.int (i0 &&& (3 : Int32)))]))
        refine own_st (fun t k => XS.iconst X15.here hx rfl (hb hby at_99) k) ?_
        show own_Fin p.tables e below _ (T15.setTop (mkF m 100 #[.val (.int i0), .val (.int i1), .val (.int i2), .val (.int i3), .val (.long i4), .second, .val (.ref b1), .val (.int (1 : Int32)), .val (.int (i0 &&& (3 : Int32))), .val (.int pp), .val (.ref aT), .unset, .unset, .unset] [(.int (2 : Int32)), (.int (i0 &&& (3 : Int32)))]))
        refine own_st (fun t k => XS.icmpYes X15.here hx rfl (pc0 := 100) (pc' := 115) rfl (hb hby at_100) rfl (XT.ii_le_t (own_nn12 c1)) (by decide) (by decide) k) ?_
        show own_Fin p.tables e below _ (T15.setTop (mkF m 115 #[.val (.int i0), .val (.int i1), .val (.int i2), .val (.int i3), .val (.long i4), .second, .val (.ref b1), .val (.int (1 : Int32)), .val (.int (i0 &&& (3 : Int32))), .val (.int pp), .val (.ref aT), .unset, .unset, .unset] []))
        exact t115 _ _ _ _ _ X15 rfl N15a (by show cl + 1 ≤ 14; omega) (by show sl + 16 ≤ 160; omega) Z15 O15 aT pp _ 1 (by decide) OE15b (own_ln1 hpp c1)
    · have _ := c0
      refine own_st (fun t k => XS.ifYes X.here hx rfl (pc0 := 64) (pc' := 79) rfl (hb hby at_64) rfl (XT.i0_le_t c0) (by decide) (by decide) k) ?_
      show own_Fin p.tables e below _ (T.setTop (mkF m 79 #[.val (.int i0), .val (.int i1), .val (.int i2), .val (.int i3), .val (.long i4), .second, .val (.ref b1), .val (.int (1 : Int32)), .val (.int (i0 &&& (3 : Int32))), .val (.int pp), .val (.ref aT), .unset, .unset, .unset] []))
      refine own_st (fun t k => XS.iload X.here hx rfl (hb hby at_79) rfl k) ?_
      show own_Fin p.tables e below _ (T.setTop (mkF m 81 #[.val (.int i0), .val (.int i1), .val (.int i2), .val (.int i3), .val (.long i4), .second, .val (.ref b1), .val (.int (1 : Int32)), .val (.int (i0 &&& (3 : Int32))), .val (.int pp), .val (.ref aT), .unset, .unset, .unset] [(.int (i0 &&& (3 : Int32)))]))
      refine own_st (fun t k => XS.iconst X.here hx rfl (hb hby at_81) k) ?_
      show own_Fin p.tables e below _ (T.setTop (mkF m 82 #[.val (.int i0), .val (.int i1), .val (.int i2), .val (.int i3), .val (.long i4), .second, .val (.ref b1), .val (.int (1 : Int32)), .val (.int (i0 &&& (3 : Int32))), .val (.int pp), .val (.ref aT), .unset, .unset, .unset] [(.int (1 : Int32)), (.int (i0 &&& (3 : Int32)))]))
      refine own_st (fun t k => XS.icmpYes X.here hx rfl (pc0 := 82) (pc' := 97) rfl (hb hby at_82) rfl (XT.ii_le_t (own_nn01 c0)) (by decide) (by decide) k) ?_
      show own_Fin p.tables e below _ (T.setTop (mkF m 97 #[.val (.int i0), .val (.int i1), .val (.int i2), .val (.int i3), .val (.long i4), .second, .val (.ref b1), .val (.int (1 : Int32)), .val (.int (i0 &&& (3 : Int32))), .val (.int pp), .val (.ref aT), .unset, .unset, .unset] []))
      refine own_st (fun t k => XS.iload X.here hx rfl (hb hby at_97) rfl k) ?_
      show own_Fin p.tables e below _ (T.setTop (mkF m 99 #[.val (.int i0), .val (.int i1), .val (.int i2), .val (.int i3), .val (.long i4), .second, .val (.ref b1), .val (.int (1 : Int32)), .val (.int (i0 &&& (3 : Int32))), .val (.int pp), .val (.ref aT), .unset, .unset, .unset] [(.int (i0 &&& (3 : Int32)))]))
      refine own_st (fun t k => XS.iconst X.here hx rfl (hb hby at_99) k) ?_
      show own_Fin p.tables e below _ (T.setTop (mkF m 100 #[.val (.int i0), .val (.int i1), .val (.int i2), .val (.int i3), .val (.long i4), .second, .val (.ref b1), .val (.int (1 : Int32)), .val (.int (i0 &&& (3 : Int32))), .val (.int pp), .val (.ref aT), .unset, .unset, .unset] [(.int (2 : Int32)), (.int (i0 &&& (3 : Int32)))]))
      refine own_st (fun t k => XS.icmpYes X.here hx rfl (pc0 := 100) (pc' := 115) rfl (hb hby at_100) rfl (XT.ii_le_t (own_nn02 c0)) (by decide) (by decide) k) ?_
      show own_Fin p.tables e below _ (T.setTop (mkF m 115 #[.val (.int i0), .val (.int i1), .val (.int i2), .val (.int i3), .val (.long i4), .second, .val (.ref b1), .val (.int (1 : Int32)), .val (.int (i0 &&& (3 : Int32))), .val (.int pp), .val (.ref aT), .unset, .unset, .unset] []))
      exact t115 _ _ _ _ _ X eT N (by show cl ≤ 14; omega) (by show sl ≤ 160; omega) Zh O aT pp _ 0 (by decide) OE0 (own_ln0 hpp c0)
  show own_Fin p.tables e below _ (T3.setTop (mkF m 26 #[.val (.int i0), .val (.int i1), .val (.int i2), .val (.int i3), .val (.long i4), .second, .val (.ref b1), .val (.int (1 : Int32)), .unset, .unset, .unset, .unset, .unset, .unset] []))
  refine own_st (fun t k => XS.iloadN X3.here hx rfl (hb hby at_26) rfl k) ?_
  show own_Fin p.tables e below _ (T3.setTop (mkF m 27 #[.val (.int i0), .val (.int i1), .val (.int i2), .val (.int i3), .val (.long i4), .second, .val (.ref b1), .val (.int (1 : Int32)), .unset, .unset, .unset, .unset, .unset, .unset] [(.int i0)]))
  refine own_st (fun t k => XS.iconst X3.here hx rfl (hb hby at_27) k) ?_
  show own_Fin p.tables e below _ (T3.setTop (mkF m 28 #[.val (.int i0), .val (.int i1), .val (.int i2), .val (.int i3), .val (.long i4), .second, .val (.ref b1), .val (.int (1 : Int32)), .unset, .unset, .unset, .unset, .unset, .unset] [(.int (3 : Int32)), (.int i0)]))
  refine own_st (fun t k => XS.iand X3.here hx rfl (hb hby at_28) rfl k) ?_
  show own_Fin p.tables e below _ (T3.setTop (mkF m 29 #[.val (.int i0), .val (.int i1), .val (.int i2), .val (.int i3), .val (.long i4), .second, .val (.ref b1), .val (.int (1 : Int32)), .unset, .unset, .unset, .unset, .unset, .unset] [(.int (i0 &&& (3 : Int32)))]))
  refine own_st (fun t k => XS.istore X3.here hx rfl (hb hby at_29) rfl (l' := #[.val (.int i0), .val (.int i1), .val (.int i2), .val (.int i3), .val (.long i4), .second, .val (.ref b1), .val (.int (1 : Int32)), .val (.int (i0 &&& (3 : Int32))), .unset, .unset, .unset, .unset, .unset]) rfl k) ?_
  show own_Fin p.tables e below _ (T3.setTop (mkF m 31 #[.val (.int i0), .val (.int i1), .val (.int i2), .val (.int i3), .val (.long i4), .second, .val (.ref b1), .val (.int (1 : Int32)), .val (.int (i0 &&& (3 : Int32))), .unset, .unset, .unset, .unset, .unset] []))
  refine own_st (fun t k => XS.iloadN X3.here hx rfl (hb hby at_31) rfl k) ?_
  show own_Fin p.tables e below _ (T3.setTop (mkF m 32 #[.val (.int i0), .val (.int i1), .val (.int i2), .val (.int i3), .val (.long i4), .second, .val (.ref b1), .val (.int (1 : Int32)), .val (.int (i0 &&& (3 : Int32))), .unset, .unset, .unset, .unset, .unset] [(.int i1)]))
  refine own_st (fun t k => XS.iconst X3.here hx rfl (hb hby at_32) k) ?_
  show own_Fin p.tables e below _ (T3.setTop (mkF m 33 #[.val (.int i0), .val (.int i1), .val (.int i2), .val (.int i3), .val (.long i4), .second, .val (.ref b1), .val (.int (1 : Int32)), .val (.int (i0 &&& (3 : Int32))), .unset, .unset, .unset, .unset, .unset] [(.int (3 : Int32)), (.int i1)]))
  refine own_st (fun t k => XS.iand X3.here hx rfl (hb hby at_33) rfl k) ?_
  show own_Fin p.tables e below _ (T3.setTop (mkF m 34 #[.val (.int i0), .val (.int i1), .val (.int i2), .val (.int i3), .val (.long i4), .second, .val (.ref b1), .val (.int (1 : Int32)), .val (.int (i0 &&& (3 : Int32))), .unset, .unset, .unset, .unset, .unset] [(.int (i1 &&& (3 : Int32)))]))
  refine own_st (fun t k => XS.iload X3.here hx rfl (hb hby at_34) rfl k) ?_
  show own_Fin p.tables e below _ (T3.setTop (mkF m 36 #[.val (.int i0), .val (.int i1), .val (.int i2), .val (.int i3), .val (.long i4), .second, .val (.ref b1), .val (.int (1 : Int32)), .val (.int (i0 &&& (3 : Int32))), .unset, .unset, .unset, .unset, .unset] [(.int (i0 &&& (3 : Int32))), (.int (i1 &&& (3 : Int32)))]))
  obtain ⟨_, _, ⟨T18, L18, k18, n18⟩, -, X18, ⟨Lc18, hQ18, l18, y18, z18⟩, st18⟩ := Jvm.LawKit.callS X3 hx (y := (⟨"java/lang/Math", "min", "(II)I"⟩ : MethodName)) hown (mvT hZ (hw _ (List.mem_of_getElem? (i := 44) rfl))) (mvT hZ (hw _ (List.mem_of_getElem? (i := 45) rfl))) (mvT hZ (hw _ (List.mem_of_getElem? (i := 46) rfl))) (mvT hZ (hw _ (List.mem_of_getElem? (i := 47) rfl))) (by decide) (backOf (W := 0) (rm5 l Z a0 hw [] (i1 &&& (3 : Int32)) (i0 &&& (3 : Int32)) T2.heap n0 Z2) hZ (hw _ (List.mem_of_getElem? (i := 47) rfl)) (hw _ (List.mem_of_getElem? (i := 46) rfl)) (by decide) (by decide)) (g := (mkF m 36 #[.val (.int i0), .val (.int i1), .val (.int i2), .val (.int i3), .val (.long i4), .second, .val (.ref b1), .val (.int (1 : Int32)), .val (.int (i0 &&& (3 : Int32))), .unset, .unset, .unset, .unset, .unset] [(.int (i0 &&& (3 : Int32))), (.int (i1 &&& (3 : Int32)))])) rfl (by rw [hml]; rfl) (argsL := [(.int (i1 &&& (3 : Int32))), (.int (i0 &&& (3 : Int32)))]) (rest := []) (lenOf pd__II_I rfl) rfl (by show 2 * 0 + _ ≤ _; exact Nat.le_of_eq rfl) (hb hby at_36) (fun _ _ => ⟨rfl, q3, (by decide : 7 + 0 ≤ _), (by decide : 75 + 0 ≤ _)⟩)
  dsimp only [Pt.U, Pt.locs, Pt.cells, Pt.slots] at X18 l18 y18 z18 st18 hQ18
  subst l18 y18 z18
  obtain ⟨pp, rfl, hpp, N18, q18⟩ := hQ18
  refine own_st (st18) ?_
  have N18a := Fr.app N3a N18
  show own_Fin p.tables e below _ (T18.setTop (mkF m 39 #[.val (.int i0), .val (.int i1), .val (.int i2), .val (.int i3), .val (.long i4), .second, .val (.ref b1), .val (.int (1 : Int32)), .val (.int (i0 &&& (3 : Int32))), .unset, .unset, .unset, .unset, .unset] [(.int pp)]))
  refine own_st (fun t k => XS.istore X18.here hx rfl (hb hby at_39) rfl (l' := #[.val (.int i0), .val (.int i1), .val (.int i2), .val (.int i3), .val (.long i4), .second, .val (.ref b1), .val (.int (1 : Int32)), .val (.int (i0 &&& (3 : Int32))), .val (.int pp), .unset, .unset, .unset, .unset]) rfl k) ?_
  show own_Fin p.tables e below _ (T18.setTop (mkF m 41 #[.val (.int i0), .val (.int i1), .val (.int i2), .val (.int i3), .val (.long i4), .second, .val (.ref b1), .val (.int (1 : Int32)), .val (.int (i0 &&& (3 : Int32))), .val (.int pp), .unset, .unset, .unset, .unset] []))
  refine own_st (fun t k => XS.iloadN X18.here hx rfl (hb hby at_41) rfl k) ?_
  show own_Fin p.tables e below _ (T18.setTop (mkF m 42 #[.val (.int i0), .val (.int i1), .val (.int i2), .val (.int i3), .val (.long i4), .second, .val (.ref b1), .val (.int (1 : Int32)), .val (.int (i0 &&& (3 : Int32))), .val (.int pp), .unset, .unset, .unset, .unset] [(.int i2)]))
  refine own_st (fun t k => XS.iconst X18.here hx rfl (hb hby at_42) k) ?_
  show own_Fin p.tables e below _ (T18.setTop (mkF m 43 #[.val (.int i0), .val (.int i1), .val (.int i2), .val (.int i3), .val (.long i4), .second, .val (.ref b1), .val (.int (1 : Int32)), .val (.int (i0 &&& (3 : Int32))), .val (.int pp), .unset, .unset, .unset, .unset] [(.int (1 : Int32)), (.int i2)]))
  refine own_st (fun t k => XS.iand X18.here hx rfl (hb hby at_43) rfl k) ?_
  show own_Fin p.tables e below _ (T18.setTop (mkF m 44 #[.val (.int i0), .val (.int i1), .val (.int i2), .val (.int i3), .val (.long i4), .second, .val (.ref b1), .val (.int (1 : Int32)), .val (.int (i0 &&& (3 : Int32))), .val (.int pp), .unset, .unset, .unset, .unset] [(.int (i2 &&& (1 : Int32)))]))
  rcases Decidable.em ((i2 &&& (1 : Int32)) = 0) with ft | ft
  · have _ := ft
    refine own_st (fun t k => XS.ifYes X18.here hx rfl (pc0 := 44) (pc' := 57) rfl (hb hby at_44) rfl (XT.i0_eq_t ft) (by decide) (by decide) k) ?_
    show own_Fin p.tables e below _ (T18.setTop (mkF m 57 #[.val (.int i0), .val (.int i1), .val (.int i2), .val (.int i3), .val (.long i4), .second, .val (.ref b1), .val (.int (1 : Int32)), .val (.int (i0 &&& (3 : Int32))), .val (.int pp), .unset, .unset, .unset, .unset] []))
    obtain ⟨T19, X19, e19, st19⟩ := getS (host := "") X18 hx hZ hown (hw _ (List.mem_of_getElem? (i := 48) rfl)) Via.refl q18 (Sta.ext O2.2 S_U) (g := (mkF m 57 #[.val (.int i0), .val (.int i1), .val (.int i2), .val (.int i3), .val (.long i4), .second, .val (.ref b1), .val (.int (1 : Int32)), .val (.int (i0 &&& (3 : Int32))), .val (.int pp), .unset, .unset, .unset, .unset] [])) rfl (hb hby at_57)
    refine own_st st19 ?_
    show own_Fin p.tables e below _ (T19.setTop (mkF m 60 #[.val (.int i0), .val (.int i1), .val (.int i2), .val (.int i3), .val (.long i4), .second, .val (.ref b1), .val (.int (1 : Int32)), .val (.int (i0 &&& (3 : Int32))), .val (.int pp), .unset, .unset, .unset, .unset] [(.ref aU)]))
    refine own_st (fun t k => XS.astore X19.here hx rfl (hb hby at_60) rfl rfl (l' := #[.val (.int i0), .val (.int i1), .val (.int i2), .val (.int i3), .val (.long i4), .second, .val (.ref b1), .val (.int (1 : Int32)), .val (.int (i0 &&& (3 : Int32))), .val (.int pp), .val (.ref aU), .unset, .unset, .unset]) rfl k) ?_
    show own_Fin p.tables e below _ (T19.setTop (mkF m 62 #[.val (.int i0), .val (.int i1), .val (.int i2), .val (.int i3), .val (.long i4), .second, .val (.ref b1), .val (.int (1 : Int32)), .val (.int (i0 &&& (3 : Int32))), .val (.int pp), .val (.ref aU), .unset, .unset, .unset] []))
    exact t62 _ _ _ _ _ X19 e19 N18a (by decide) (by decide) Z2 O2 aU pp (E_U.ext O2.2) OE1 hpp
  · have _ := ft
    refine own_st (fun t k => XS.ifNo X18.here hx rfl (hb hby at_44) rfl (XT.i0_eq_f ft) k) ?_
    show own_Fin p.tables e below _ (T18.setTop (mkF m 47 #[.val (.int i0), .val (.int i1), .val (.int i2), .val (.int i3), .val (.long i4), .second, .val (.ref b1), .val (.int (1 : Int32)), .val (.int (i0 &&& (3 : Int32))), .val (.int pp), .unset, .unset, .unset, .unset] []))
    obtain ⟨T20, h20, X20, e20, E20, A20, D20, U20, st20⟩ := newO X18 hx hZ hown (hw _ (List.mem_of_getElem? (i := 73) rfl)) (hw _ (List.mem_of_getElem? (i := 74) rfl)) (hw _ (List.mem_of_getElem? (i := 49) rfl)) q18 (g := (mkF m 47 #[.val (.int i0), .val (.int i1), .val (.int i2), .val (.int i3), .val (.long i4), .second, .val (.ref b1), .val (.int (1 : Int32)), .val (.int (i0 &&& (3 : Int32))), .val (.int pp), .unset, .unset, .unset, .unset] [])) rfl (hb hby at_47) (by decide) (by decide)
    obtain ⟨b20, g20⟩ : ∃ z, z = T2.heap.size := ⟨_, rfl⟩
    have ne_b1_b20 : b1 ≠ b20 := Nat.ne_of_lt (Nat.lt_of_lt_of_le OE1.1.1.lt (Nat.le_of_eq g20.symm))
    have g_b20 : n0 ≤ b20 := Nat.le_trans Z2 (Nat.le_of_eq g20.symm)
    rw [← g20] at A20 D20 U20 st20
    refine own_st st20 ?_
    have O2'20 := O2.ext E20
    have OE1_1_1'20 := OE1.1.1.ext E20
    have Z20 : n0 ≤ h20.size := Nat.le_trans Z2 E20.1
    have F_attributes_b20 : Fld Z h20 b20 "com/example/chiffchaff/chiffchaff/ElementType" "attributes" "Lcom/example/chiffchaff/chiffchaff/DeclaredAttributes;" .null := D20 (Or.inl (hw _ (List.mem_of_getElem? (i := 82) rfl))) (ty := (.object "com/example/chiffchaff/chiffchaff/DeclaredAttributes")) (by decide)
    show own_Fin p.tables e below _ (T20.setTop (mkF m 50 #[.val (.int i0), .val (.int i1), .val (.int i2), .val (.int i3), .val (.long i4), .second, .val (.ref b1), .val (.int (1 : Int32)), .val (.int (i0 &&& (3 : Int32))), .val (.int pp), .unset, .unset, .unset, .unset] [(.ref b20)]))
    refine own_st (fun t k => XS.dup X20.here hx rfl (hb hby at_50) rfl rfl k) ?_
    show own_Fin p.tables e below _ (T20.setTop (mkF m 51 #[.val (.int i0), .val (.int i1), .val (.int i2), .val (.int i3), .val (.long i4), .second, .val (.ref b1), .val (.int (1 : Int32)), .val (.int (i0 &&& (3 : Int32))), .val (.int pp), .unset, .unset, .unset, .unset] [(.ref b20), (.ref b20)]))
    obtain ⟨_, _, ⟨T21, L21, k21, n21⟩, -, X21, ⟨Lc21, hQ21, l21, y21, z21⟩, st21⟩ := X20.specialBack hx (y := (⟨"com/example/chiffchaff/chiffchaff/ElementType", "<init>", "()V"⟩ : MethodName)) rfl hown (mvT hZ (hw _ (List.mem_of_getElem? (i := 75) rfl))) (mvT hZ (hw _ (List.mem_of_getElem? (i := 76) rfl))) (mvT hZ (hw _ (List.mem_of_getElem? (i := 77) rfl))) (by decide) (backOf (W := 1) (rm10 l Z a0 hw [] b20 aN h20 n0 Z20 F_attributes_b20 A20 g_b20 O2'20 S_A) hZ (hw _ (List.mem_of_getElem? (i := 77) rfl)) (hw _ (List.mem_of_getElem? (i := 49) rfl)) (by decide) (by decide)) (g := (mkF m 51 #[.val (.int i0), .val (.int i1), .val (.int i2), .val (.int i3), .val (.long i4), .second, .val (.ref b1), .val (.int (1 : Int32)), .val (.int (i0 &&& (3 : Int32))), .val (.int pp), .unset, .unset, .unset, .unset] [(.ref b20), (.ref b20)])) rfl (by rw [hml]; rfl) (Steps.refl _) (a := b20) (argsL := []) (rest := [(.ref b20)]) (lenOf pd___V rfl) rfl (by show 2 * 0 + _ ≤ _; exact Nat.le_of_eq rfl) (hb hby at_51) (fun _ _ => ⟨rfl, e20, (by decide : 8 + 0 ≤ _), (by decide : 77 + 0 ≤ _)⟩)
    dsimp only [Pt.U, Pt.locs, Pt.cells, Pt.slots] at X21 l21 y21 z21 st21 hQ21
    subst l21 y21 z21
    obtain ⟨rfl, N21, K21⟩ := hQ21
    refine own_st (fun t k => st21.trans k) ?_
    have O2'21 := O2'20.keep K21 (allS g_b20 all0)
    have OE1_1_1'21 := OE1_1_1'20.keep K21
    have A20'21 := A20.keep K21
    have Z21 : n0 ≤ T21.heap.size := Nat.le_trans Z20 K21.1
    have N21a := Fr.app N18a N21
    show own_Fin p.tables e below _ (T21.setTop (mkF m 54 #[.val (.int i0), .val (.int i1), .val (.int i2), .val (.int i3), .val (.long i4), .second, .val (.ref b1), .val (.int (1 : Int32)), .val (.int (i0 &&& (3 : Int32))), .val (.int pp), .unset, .unset, .unset, .unset] [(.ref b20)]))
    have OE2 := own_OE.keep (own_OE.ext OE1 E20) K21 (ninS (fun q => ne_exa (OE1.1.1.ext E20) A20 (by decide) q) nin0) (ninS (fun q => ne_exa (OE1.1.2.1.ext E20) A20 (by decide) q) nin0) (ninS (Ne.symm (own_neEA A20 (hw _ (List.mem_of_getElem? (i := 74) rfl)) (own_Arv (OE1.1.2.2.2.2.2.2.ext E20)))) nin0)
    refine own_st (fun t k => XS.goto X21.here hx rfl (pc0 := 54) (pc' := 60) rfl (hb hby at_54) (by decide) (by decide) k) ?_
    show own_Fin p.tables e below _ (T21.setTop (mkF m 60 #[.val (.int i0), .val (.int i1), .val (.int i2), .val (.int i3), .val (.long i4), .second, .val (.ref b1), .val (.int (1 : Int32)), .val (.int (i0 &&& (3 : Int32))), .val (.int pp), .unset, .unset, .unset, .unset] [(.ref b20)]))
    refine own_st (fun t k => XS.astore X21.here hx rfl (hb hby at_60) rfl rfl (l' := #[.val (.int i0), .val (.int i1), .val (.int i2), .val (.int i3), .val (.long i4), .second, .val (.ref b1), .val (.int (1 : Int32)), .val (.int (i0 &&& (3 : Int32))), .val (.int pp), .val (.ref b20), .unset, .unset, .unset]) rfl k) ?_
    show own_Fin p.tables e below _ (T21.setTop (mkF m 62 #[.val (.int i0), .val (.int i1), .val (.int i2), .val (.int i3), .val (.long i4), .second, .val (.ref b1), .val (.int (1 : Int32)), .val (.int (i0 &&& (3 : Int32))), .val (.int pp), .val (.ref b20), .unset, .unset, .unset] []))
    exact t62 _ _ _ _ _ X21 rfl N21a (by decide) (by decide) Z21 O2'21 b20 pp A20'21 OE2 hpp
set_option maxRecDepth 65536 in
set_option maxHeartbeats 40000000 in
theorem comes_1 {Post : Tables → Env → Array Value → State → Outcome → State → Prop} (hpost : ∀ tb e args s v u, (limb_1_1.after args s (.returned v) u = true ∧ limb_1_2.after args s (.returned v) u = true ∧ True) → FrameEnd s (.returned v) u (Jvm.fieldLocs frame_1_writes args s ++ Jvm.arrayLocs frame_1_arrays args s ++ Jvm.staticLocs frame_1_statics s) 32 256 → Post tb e args s (.returned v) u) :
    ArmFor flags0 classFile x code maxLocals ret World_1 tables_1 room_1 Calls_1 rest_1 Pre_1 Post := by
  intro l hfl _ _ p e ha hc hk s m args below hf hA hF happ hP
  obtain ⟨hcalls, hrest, hpre⟩ := hP
  obtain ⟨-, -, -, hnamed, -, -, -, hat⟩ := (Spec.applies_iff hf).mp happ
  obtain ⟨hg, hn⟩ := and_e (Cond.before_iff.mp (show (Jvm.Cond.and given_1 narrow_1).before args s = true from hpre))
  obtain ⟨g0, gr0⟩ := and_e hg
  obtain ⟨w0, w1, w2, w3, w4, rfl⟩ : ∃ w0 w1 w2 w3 w4 : Value, args = #[w0, w1, w2, w3, w4] := by
    have hs : args.size = 5 := by simpa [Cond.value, given_1] using g0
    obtain ⟨L⟩ := args
    match L, hs with
    | [w0, w1, w2, w3, w4], _ => exact ⟨w0, w1, w2, w3, w4, rfl⟩
  have hw := fun d (hd : d ∈ tables_1) => atoms_spec (ws := Jvm.Cond.code x code maxLocals ret :: tables_1) hat d (List.mem_cons_of_mem _ hd)
  have hfit : Fit s := fun {y c} hc i hi => by
    obtain ⟨ha, rfl⟩ := Array.getElem?_eq_some_iff.mp hc
    have q := List.all_eq_true.mp ((Array.all_eq_true_iff_forall_mem.mp hF) _ (Array.getElem_mem ha)) i (List.mem_range.mpr hi)
    simpa [Array.getElem?_eq_getElem hi] using q
  obtain ⟨ga0, gr1⟩ := and_e gr0
  obtain ⟨i0, ei0⟩ := is_v ga0
  obtain rfl : w0 = (.int i0) := Option.some.inj ei0
  obtain ⟨ga1, gr2⟩ := and_e gr1
  obtain ⟨i1, ei1⟩ := is_v ga1
  obtain rfl : w1 = (.int i1) := Option.some.inj ei1
  obtain ⟨ga2, gr3⟩ := and_e gr2
  obtain ⟨i2, ei2⟩ := is_v ga2
  obtain rfl : w2 = (.int i2) := Option.some.inj ei2
  obtain ⟨ga3, gr4⟩ := and_e gr3
  obtain ⟨i3, ei3⟩ := is_v ga3
  obtain rfl : w3 = (.int i3) := Option.some.inj ei3
  obtain ⟨i4, ei4⟩ := isL_v gr4
  obtain rfl : w4 = (.long i4) := Option.some.inj ei4
  obtain ⟨x_U, hn_r0⟩ := and_e hn
  obtain ⟨x_N, hn_r1⟩ := and_e hn_r0
  obtain ⟨a_B, l_B⟩ := and_e hn_r1
  obtain ⟨aU, ev_U⟩ := exa_v x_U
  have S_U := Sta.start ev_U (Or.inr ⟨(hw _ (List.mem_of_getElem? (i := 49) rfl)), (hw _ (List.mem_of_getElem? (i := 50) rfl))⟩)
  have E_U := Exa.start ev_U x_U
  obtain ⟨aN, ev_N⟩ := exa_v x_N
  have S_A := Sta.start ev_N (Or.inr ⟨(hw _ (List.mem_of_getElem? (i := 49) rfl)), (hw _ (List.mem_of_getElem? (i := 80) rfl))⟩)
  obtain ⟨bN, clB, ev_B, A_B, le_B, lt_B⟩ := own_len a_B l_B
  have S_N := Sta.start ev_B (Or.inr ⟨(hw _ (List.mem_of_getElem? (i := 2) rfl)), (hw _ (List.mem_of_getElem? (i := 118) rfl))⟩)
  obtain ⟨n, o, h1, h2, h3, _, L, rfl, ⟨rfl, N⟩, hq⟩ := rm0 l s _ hw tables_1 i0 i1 i2 i3 i4 aU aN bN _ s.heap s.heap.size (Nat.le_refl _) (Old.start s) S_U E_U S_A S_N (own_arv0 hfit A_B le_B lt_B) p e ha hc hk s m _ below hf ((Spec.applies_iff_loose hf).mp happ).1 ⟨rfl, State.Warmed39.refl s, rfl⟩ trivial
  refine ⟨n, _, h1, h2, h3, hpost _ _ _ _ _ _ ⟨Cond.after_iff.mpr rfl, Cond.after_iff.mpr (eq_i res_at (Term.int_eval (1)) rfl), trivial⟩ ⟨hq.1, hq.2.1, (hq.2.2.sift fun y hy => Or.inr (N y hy)).mono (by decide) (by decide)⟩⟩
theorem main_1_1 : Claimed_1_1 := comes_1 fun _ _ _ _ _ _ h hF => ⟨h.1, hF⟩
theorem main_1_2 : Claimed_1_2 := comes_1 fun _ _ _ _ _ _ h hF => ⟨h.2.1, hF⟩
end Jvm.Pilot.@@N@@
namespace Jvm.Pilot.@@N@@
open Jvm Jvm.ClassFile Sem Op Lib Jvm.Free Jvm.Stand Jvm.Pilot.@@N@@.Jvm.D
/-! MADE BY PROGRAM (witnessworld.py) out of the Statement's table words and the real class files: 26 classes; the members and pool entries that the words name. The judged class is class 1, her method 1. -/
namespace start1
open Jvm.ClassFile
def u (s : String) : CpInfo := .utf8 (stringToUtf16 s)
/-- a pool by its gaps: so many unusable entries, then the entry; so many at the end -/
def gap : Nat → List CpInfo → List CpInfo
  | 0, r => r
  | n + 1, r => .unusable :: gap n r
def poolList (es : List (Nat × CpInfo)) (last : Nat) : List CpInfo := es.foldr (fun e r => gap e.1 (e.2 :: r)) (gap last [])
def pool (es : List (Nat × CpInfo)) (last : Nat) : Array CpInfo := ⟨poolList es last⟩
def fileOf (pool : Array CpInfo) (this : Nat) (attrs : Array Attribute := #[]) (ms : Array MethodInfo := #[]) (fl : Nat := 33) (sup : Nat := 0) (ifs : Array Nat := #[]) (fds : Array FieldInfo := #[]) : ClassFile where
  minorVersion := 0
  majorVersion := 65
  constantPool := pool
  accessFlags := fl
  thisClass := this
  superClass := sup
  interfaces := ifs
  fields := fds
  methods := ms
  attributes := attrs
def plain (name : String) (sup : Option ClassId) : Class where
  name := name
  kind := .ordinary
  loader := none
  accessFlags := 33
  super := sup
  interfaces := #[]
  cf := none
  fields := #[]
  methods := #[]
  instanceTypes := #[]
  staticTypes := #[]
  resolved := #[]
  callSites := []
  init := .initialized
  statics := none
  mirror := none

def pool0 : Array CpInfo := pool [(5, u "<init>"), (0, u "()V"), (1, .class_ 10), (1, u "java/lang/Object")] 113

def k0c0 : Code := { maxStack := 0, maxLocals := 1, code := object_method_1_code, exceptionTable := #[], attributes := #[] }
def k0m0 : Method := { name := "<init>", desc := "()V", sig := { parameters := [], returnType := none }, accessFlags := 1, code := some k0c0 }
/-- java/lang/Object -/
def k0 : Class := { plain "java/lang/Object" none with
  accessFlags := 33
  interfaces := #[]
  cf := some (fileOf pool0 8 #[] #[{ accessFlags := 1, nameIndex := 5, descriptorIndex := 6, attributes := #[] }] 33 0 #[] #[])
  fields := #[]
  methods := #[k0m0]
  instanceTypes := #[]
  staticTypes := #[]
  resolved := Array.replicate 124 none
  statics := none }

def pool1 : Array CpInfo := pool [(2, .class_ 4), (0, .nameAndType 5 6), (0, u "java/lang/Object"), (0, u "<init>"), (0, u "()V"), (0, .class_ 8), (0, u "com/example/chiffchaff/chiffchaff/OpenElements"), (0, .methodref 7 3), (0, .methodref 7 11), (0, .nameAndType 12 13), (0, u "room"), (0, u "()I"), (0, .methodref 15 16), (0, .class_ 17), (0, .nameAndType 18 19), (0, u "java/lang/Math"), (0, u "min"), (0, u "(II)I"), (0, .class_ 21), (0, u "com/example/chiffchaff/chiffchaff/ElementType"), (0, .methodref 20 3), (0, .fieldref 20 24), (0, .nameAndType 25 26), (0, u "UNDECLARED"), (0, u "Lcom/example/chiffchaff/chiffchaff/ElementType;"), (0, .methodref 7 28), (0, .nameAndType 29 30), (0, u "push"), (0, u "(Lcom/example/chiffchaff/chiffchaff/XmlName;Lcom/example/chiffchaff/chiffchaff/ElementType;Ljava/lang/String;IJ)V"), (0, .methodref 7 32), (0, .nameAndType 33 6), (0, u "pop"), (0, .methodref 7 35), (0, .nameAndType 36 6), (0, u "clear"), (0, .methodref 7 38), (0, .nameAndType 39 6), (0, u "release"), (0, .class_ 41), (0, u "com/example/chiffchaff/chiffchaff/OpenElementsRoomPinLaw"), (2, u "law"), (0, u "(IIIIJ)Z")] 3

def k1m0 : Method := { name := "<init>", desc := "()V", sig := { parameters := [], returnType := none }, accessFlags := 1, code := none }
def k1c1 : Code := { maxStack := 7, maxLocals := 14, code := code, exceptionTable := #[], attributes := #[] }
def k1m1 : Method := { name := "law", desc := "(IIIIJ)Z", sig := { parameters := [.int, .int, .int, .int, .long], returnType := some .boolean }, accessFlags := 9, code := some k1c1 }
/-- com/example/chiffchaff/chiffchaff/OpenElementsRoomPinLaw -/
def k1 : Class := { plain "com/example/chiffchaff/chiffchaff/OpenElementsRoomPinLaw" (some 0) with
  accessFlags := 49
  interfaces := #[]
  cf := some (fileOf pool1 40 #[] #[{ accessFlags := 1, nameIndex := 5, descriptorIndex := 6, attributes := #[] }, { accessFlags := 9, nameIndex := 44, descriptorIndex := 45, attributes := #[] }] 49 2 #[] #[])
  fields := #[]
  methods := #[k1m0, k1m1]
  instanceTypes := #[]
  staticTypes := #[]
  resolved := Array.replicate 49 none
  statics := none }

def pool2 : Array CpInfo := pool [(1, .class_ 2), (0, u "com/example/chiffchaff/chiffchaff/OpenElements"), (0, .methodref 4 5), (0, .class_ 6), (0, .nameAndType 7 8), (0, u "java/lang/Object"), (0, u "<init>"), (0, u "()V"), (0, .class_ 10), (0, u "com/example/chiffchaff/chiffchaff/OpenElements$Block"), (0, .methodref 9 12), (0, .nameAndType 7 13), (0, u "(I)V"), (0, .fieldref 1 15), (0, .nameAndType 16 17), (0, u "blocks"), (0, u "[Lcom/example/chiffchaff/chiffchaff/OpenElements$Block;"), (0, .fieldref 1 19), (0, .nameAndType 20 21), (0, u "top"), (0, u "Lcom/example/chiffchaff/chiffchaff/OpenElements$Block;"), (0, .fieldref 1 23), (0, .nameAndType 24 25), (0, u "topAt"), (0, u "I"), (0, .fieldref 1 27), (0, .nameAndType 28 25), (0, u "depth"), (0, .methodref 1 30), (0, .nameAndType 31 32), (0, u "block"), (0, u "(I)I"), (0, .methodref 1 34), (0, .nameAndType 35 32), (0, u "slot"), (7, .fieldref 9 44), (0, .nameAndType 45 46), (0, u "names"), (0, u "[Lcom/example/chiffchaff/chiffchaff/XmlName;"), (3, .fieldref 51 52), (0, .class_ 53), (0, .nameAndType 54 55), (0, u "com/example/chiffchaff/chiffchaff/ElementType"), (0, u "UNDECLARED"), (0, u "Lcom/example/chiffchaff/chiffchaff/ElementType;"), (0, .methodref 9 57), (0, .nameAndType 58 59), (0, u "typed"), (0, u "()[Lcom/example/chiffchaff/chiffchaff/ElementType;"), (0, .fieldref 9 61), (0, .nameAndType 62 63), (0, u "uris"), (0, u "[Ljava/lang/String;"), (0, .fieldref 9 65), (0, .nameAndType 66 67), (0, u "levels"), (0, u "[I"), (0, .fieldref 9 69), (0, .nameAndType 70 71), (0, u "bindings"), (0, u "[J"), (0, .fieldref 1 73), (0, .nameAndType 74 17), (0, u "NO_BLOCKS"), (0, .methodref 9 76), (0, .nameAndType 77 13), (0, u "free"), (0, .fieldref 9 79), (0, .nameAndType 80 81), (0, u "types"), (0, u "[Lcom/example/chiffchaff/chiffchaff/ElementType;"), (0, .fieldref 9 83), (0, .nameAndType 84 85), (0, u "states"), (0, u "[Ljava/lang/Object;"), (0, u "BLOCK_BITS"), (2, u "BLOCK_SIZE"), (1, u "IN_BLOCK"), (1, u "FIRST_SIZE"), (3, u "()I"), (0, u "push"), (0, u "(Lcom/example/chiffchaff/chiffchaff/XmlName;Lcom/example/chiffchaff/chiffchaff/ElementType;Ljava/lang/String;IJ)V"), (1, u "release"), (0, u "clear"), (0, u "room"), (0, u "pop")] 20

def k2c0 : Code := { maxStack := 7, maxLocals := 1, code := prog_52_method_1_code, exceptionTable := #[], attributes := #[] }
def k2m0 : Method := { name := "<init>", desc := "()V", sig := { parameters := [], returnType := none }, accessFlags := 0, code := some k2c0 }
def k2c1 : Code := { maxStack := 7, maxLocals := 10, code := prog_52_method_3_code, exceptionTable := #[], attributes := #[] }
def k2m1 : Method := { name := "push", desc := "(Lcom/example/chiffchaff/chiffchaff/XmlName;Lcom/example/chiffchaff/chiffchaff/ElementType;Ljava/lang/String;IJ)V", sig := { parameters := [(.object "com/example/chiffchaff/chiffchaff/XmlName"), (.object "com/example/chiffchaff/chiffchaff/ElementType"), (.object "java/lang/String"), .int, .long], returnType := none }, accessFlags := 0, code := some k2c1 }
def k2c2 : Code := { maxStack := 2, maxLocals := 1, code := prog_52_method_4_code, exceptionTable := #[], attributes := #[] }
def k2m2 : Method := { name := "release", desc := "()V", sig := { parameters := [], returnType := none }, accessFlags := 0, code := some k2c2 }
def k2c3 : Code := { maxStack := 3, maxLocals := 1, code := prog_52_method_5_code, exceptionTable := #[], attributes := #[] }
def k2m3 : Method := { name := "clear", desc := "()V", sig := { parameters := [], returnType := none }, accessFlags := 0, code := some k2c3 }
def k2c4 : Code := { maxStack := 2, maxLocals := 6, code := prog_52_method_6_code, exceptionTable := #[], attributes := #[] }
def k2m4 : Method := { name := "room", desc := "()I", sig := { parameters := [], returnType := some .int }, accessFlags := 0, code := some k2c4 }
def k2c5 : Code := { maxStack := 4, maxLocals := 1, code := prog_52_method_7_code, exceptionTable := #[], attributes := #[] }
def k2m5 : Method := { name := "pop", desc := "()V", sig := { parameters := [], returnType := none }, accessFlags := 0, code := some k2c5 }
def k2c6 : Code := { maxStack := 2, maxLocals := 1, code := prog_52_method_15_code, exceptionTable := #[], attributes := #[] }
def k2m6 : Method := { name := "block", desc := "(I)I", sig := { parameters := [.int], returnType := some .int }, accessFlags := 10, code := some k2c6 }
def k2c7 : Code := { maxStack := 2, maxLocals := 1, code := prog_52_method_16_code, exceptionTable := #[], attributes := #[] }
def k2m7 : Method := { name := "slot", desc := "(I)I", sig := { parameters := [.int], returnType := some .int }, accessFlags := 10, code := some k2c7 }
/-- com/example/chiffchaff/chiffchaff/OpenElements -/
def k2 : Class := { plain "com/example/chiffchaff/chiffchaff/OpenElements" (some 0) with
  accessFlags := 48
  interfaces := #[]
  cf := some (fileOf pool2 1 #[.nestMembers #[9]] #[{ accessFlags := 0, nameIndex := 7, descriptorIndex := 8, attributes := #[] }, { accessFlags := 0, nameIndex := 98, descriptorIndex := 99, attributes := #[] }, { accessFlags := 0, nameIndex := 101, descriptorIndex := 8, attributes := #[] }, { accessFlags := 0, nameIndex := 102, descriptorIndex := 8, attributes := #[] }, { accessFlags := 0, nameIndex := 103, descriptorIndex := 97, attributes := #[] }, { accessFlags := 0, nameIndex := 104, descriptorIndex := 8, attributes := #[] }, { accessFlags := 10, nameIndex := 31, descriptorIndex := 32, attributes := #[] }, { accessFlags := 10, nameIndex := 35, descriptorIndex := 32, attributes := #[] }] 48 4 #[] #[{ accessFlags := 26, nameIndex := 86, descriptorIndex := 25, attributes := #[] }, { accessFlags := 26, nameIndex := 89, descriptorIndex := 25, attributes := #[] }, { accessFlags := 26, nameIndex := 91, descriptorIndex := 25, attributes := #[] }, { accessFlags := 26, nameIndex := 93, descriptorIndex := 25, attributes := #[] }, { accessFlags := 26, nameIndex := 74, descriptorIndex := 17, attributes := #[] }, { accessFlags := 2, nameIndex := 16, descriptorIndex := 17, attributes := #[] }, { accessFlags := 2, nameIndex := 28, descriptorIndex := 25, attributes := #[] }, { accessFlags := 2, nameIndex := 20, descriptorIndex := 21, attributes := #[] }, { accessFlags := 2, nameIndex := 24, descriptorIndex := 25, attributes := #[] }])
  fields := #[{ name := "BLOCK_BITS", type := .int, accessFlags := 26, slot := 0, constantValue := 0 }, { name := "BLOCK_SIZE", type := .int, accessFlags := 26, slot := 1, constantValue := 0 }, { name := "IN_BLOCK", type := .int, accessFlags := 26, slot := 2, constantValue := 0 }, { name := "FIRST_SIZE", type := .int, accessFlags := 26, slot := 3, constantValue := 0 }, { name := "NO_BLOCKS", type := (.array (.object "com/example/chiffchaff/chiffchaff/OpenElements$Block")), accessFlags := 26, slot := 4, constantValue := 0 }, { name := "blocks", type := (.array (.object "com/example/chiffchaff/chiffchaff/OpenElements$Block")), accessFlags := 2, slot := 0, constantValue := 0 }, { name := "depth", type := .int, accessFlags := 2, slot := 1, constantValue := 0 }, { name := "top", type := (.object "com/example/chiffchaff/chiffchaff/OpenElements$Block"), accessFlags := 2, slot := 2, constantValue := 0 }, { name := "topAt", type := .int, accessFlags := 2, slot := 3, constantValue := 0 }]
  methods := #[k2m0, k2m1, k2m2, k2m3, k2m4, k2m5, k2m6, k2m7]
  instanceTypes := #[(.array (.object "com/example/chiffchaff/chiffchaff/OpenElements$Block")), .int, (.object "com/example/chiffchaff/chiffchaff/OpenElements$Block"), .int]
  staticTypes := #[.int, .int, .int, .int, (.array (.object "com/example/chiffchaff/chiffchaff/OpenElements$Block"))]
  resolved := (((((((((((Array.replicate 125 (none : Option Resolved)).setIfInBounds 9 (some (.cls 3))).setIfInBounds 11 (some (.method ⟨3, 0⟩))).setIfInBounds 43 (some (.field 3 0))).setIfInBounds 56 (some (.method ⟨3, 1⟩))).setIfInBounds 60 (some (.field 3 3))).setIfInBounds 64 (some (.field 3 4))).setIfInBounds 68 (some (.field 3 5))).setIfInBounds 75 (some (.method ⟨3, 2⟩))).setIfInBounds 78 (some (.field 3 1))).setIfInBounds 82 (some (.field 3 2)))
  statics := some 0 }

def pool3 : Array CpInfo := pool [(1, .methodref 2 3), (0, .class_ 4), (0, .nameAndType 5 6), (0, u "java/lang/Object"), (0, u "<init>"), (0, u "()V"), (0, .class_ 8), (0, u "com/example/chiffchaff/chiffchaff/XmlName"), (0, .fieldref 10 11), (0, .class_ 12), (0, .nameAndType 13 14), (0, u "com/example/chiffchaff/chiffchaff/OpenElements$Block"), (0, u "names"), (0, u "[Lcom/example/chiffchaff/chiffchaff/XmlName;"), (0, .class_ 16), (0, u "java/lang/String"), (0, .fieldref 10 18), (0, .nameAndType 19 20), (0, u "uris"), (0, u "[Ljava/lang/String;"), (0, .fieldref 10 22), (0, .nameAndType 23 24), (0, u "levels"), (0, u "[I"), (0, .fieldref 10 26), (0, .nameAndType 27 28), (0, u "bindings"), (0, u "[J"), (1, .class_ 32), (1, u "java/util/Arrays"), (3, .fieldref 10 37), (0, .nameAndType 38 39), (0, u "types"), (0, u "[Lcom/example/chiffchaff/chiffchaff/ElementType;"), (1, .fieldref 10 42), (0, .nameAndType 43 44), (0, u "states"), (0, u "[Ljava/lang/Object;"), (7, .class_ 53), (0, u "com/example/chiffchaff/chiffchaff/ElementType"), (0, .methodref 30 55), (0, .nameAndType 56 57), (0, u "fill"), (0, u "([Ljava/lang/Object;IILjava/lang/Object;)V"), (0, u "(I)V"), (5, u "typed"), (0, u "()[Lcom/example/chiffchaff/chiffchaff/ElementType;"), (0, u "free"), (3, .class_ 71), (0, u "com/example/chiffchaff/chiffchaff/OpenElements")] 2

def k3c0 : Code := { maxStack := 2, maxLocals := 2, code := prog_53_method_1_code, exceptionTable := #[], attributes := #[] }
def k3m0 : Method := { name := "<init>", desc := "(I)V", sig := { parameters := [.int], returnType := none }, accessFlags := 2, code := some k3c0 }
def k3c1 : Code := { maxStack := 2, maxLocals := 1, code := prog_53_method_3_code, exceptionTable := #[], attributes := #[] }
def k3m1 : Method := { name := "typed", desc := "()[Lcom/example/chiffchaff/chiffchaff/ElementType;", sig := { parameters := [], returnType := some (.array (.object "com/example/chiffchaff/chiffchaff/ElementType")) }, accessFlags := 2, code := some k3c1 }
def k3c2 : Code := { maxStack := 4, maxLocals := 2, code := prog_53_method_4_code, exceptionTable := #[], attributes := #[] }
def k3m2 : Method := { name := "free", desc := "(I)V", sig := { parameters := [.int], returnType := none }, accessFlags := 2, code := some k3c2 }
/-- com/example/chiffchaff/chiffchaff/OpenElements$Block -/
def k3 : Class := { plain "com/example/chiffchaff/chiffchaff/OpenElements$Block" (some 0) with
  accessFlags := 48
  interfaces := #[]
  cf := some (fileOf pool3 10 #[.nestHost 70] #[{ accessFlags := 2, nameIndex := 5, descriptorIndex := 58, attributes := #[] }, { accessFlags := 2, nameIndex := 64, descriptorIndex := 65, attributes := #[] }, { accessFlags := 2, nameIndex := 66, descriptorIndex := 58, attributes := #[] }] 48 2 #[] #[{ accessFlags := 18, nameIndex := 13, descriptorIndex := 14, attributes := #[] }, { accessFlags := 2, nameIndex := 38, descriptorIndex := 39, attributes := #[] }, { accessFlags := 2, nameIndex := 43, descriptorIndex := 44, attributes := #[] }, { accessFlags := 18, nameIndex := 19, descriptorIndex := 20, attributes := #[] }, { accessFlags := 18, nameIndex := 23, descriptorIndex := 24, attributes := #[] }, { accessFlags := 18, nameIndex := 27, descriptorIndex := 28, attributes := #[] }])
  fields := #[{ name := "names", type := (.array (.object "com/example/chiffchaff/chiffchaff/XmlName")), accessFlags := 18, slot := 0, constantValue := 0 }, { name := "types", type := (.array (.object "com/example/chiffchaff/chiffchaff/ElementType")), accessFlags := 2, slot := 1, constantValue := 0 }, { name := "states", type := (.array (.object "java/lang/Object")), accessFlags := 2, slot := 2, constantValue := 0 }, { name := "uris", type := (.array (.object "java/lang/String")), accessFlags := 18, slot := 3, constantValue := 0 }, { name := "levels", type := (.array .int), accessFlags := 18, slot := 4, constantValue := 0 }, { name := "bindings", type := (.array .long), accessFlags := 18, slot := 5, constantValue := 0 }]
  methods := #[k3m0, k3m1, k3m2]
  instanceTypes := #[(.array (.object "com/example/chiffchaff/chiffchaff/XmlName")), (.array (.object "com/example/chiffchaff/chiffchaff/ElementType")), (.array (.object "java/lang/Object")), (.array (.object "java/lang/String")), (.array .int), (.array .long)]
  staticTypes := #[]
  resolved := Array.replicate 74 none
  statics := none }

def pool4 : Array CpInfo := pool [(2, .class_ 4), (1, u "java/lang/Object"), (9, .class_ 16), (1, u "com/example/chiffchaff/chiffchaff/XmlName"), (0, u "qName"), (0, u "Ljava/lang/String;"), (2, u "length"), (3, u "I"), (2, u "packed"), (3, u "J"), (2, u "prefixName"), (0, u "Lcom/example/chiffchaff/chiffchaff/XmlName;"), (2, u "localPart"), (4, u "prefix"), (2, u "localName"), (16, u "isQName"), (0, u "Z"), (8, u "declaresNamespace"), (15, u "NOT_PACKED"), (1, u "PACKED_LENGTH")] 9

/-- com/example/chiffchaff/chiffchaff/XmlName -/
def k4 : Class := { plain "com/example/chiffchaff/chiffchaff/XmlName" (some 0) with
  accessFlags := 48
  interfaces := #[]
  cf := some (fileOf pool4 14 #[] #[] 48 2 #[] #[{ accessFlags := 16, nameIndex := 17, descriptorIndex := 18, attributes := #[] }, { accessFlags := 16, nameIndex := 44, descriptorIndex := 18, attributes := #[] }, { accessFlags := 16, nameIndex := 47, descriptorIndex := 18, attributes := #[] }, { accessFlags := 16, nameIndex := 64, descriptorIndex := 65, attributes := #[] }, { accessFlags := 16, nameIndex := 74, descriptorIndex := 65, attributes := #[] }, { accessFlags := 16, nameIndex := 35, descriptorIndex := 36, attributes := #[] }, { accessFlags := 16, nameIndex := 39, descriptorIndex := 36, attributes := #[] }, { accessFlags := 24, nameIndex := 90, descriptorIndex := 32, attributes := #[] }, { accessFlags := 26, nameIndex := 92, descriptorIndex := 25, attributes := #[] }, { accessFlags := 18, nameIndex := 21, descriptorIndex := 25, attributes := #[] }, { accessFlags := 18, nameIndex := 28, descriptorIndex := 32, attributes := #[] }])
  fields := #[{ name := "qName", type := (.object "java/lang/String"), accessFlags := 16, slot := 0, constantValue := 0 }, { name := "prefix", type := (.object "java/lang/String"), accessFlags := 16, slot := 1, constantValue := 0 }, { name := "localName", type := (.object "java/lang/String"), accessFlags := 16, slot := 2, constantValue := 0 }, { name := "isQName", type := .boolean, accessFlags := 16, slot := 3, constantValue := 0 }, { name := "declaresNamespace", type := .boolean, accessFlags := 16, slot := 4, constantValue := 0 }, { name := "prefixName", type := (.object "com/example/chiffchaff/chiffchaff/XmlName"), accessFlags := 16, slot := 5, constantValue := 0 }, { name := "localPart", type := (.object "com/example/chiffchaff/chiffchaff/XmlName"), accessFlags := 16, slot := 6, constantValue := 0 }, { name := "NOT_PACKED", type := .long, accessFlags := 24, slot := 0, constantValue := 0 }, { name := "PACKED_LENGTH", type := .int, accessFlags := 26, slot := 1, constantValue := 0 }, { name := "length", type := .int, accessFlags := 18, slot := 7, constantValue := 0 }, { name := "packed", type := .long, accessFlags := 18, slot := 8, constantValue := 0 }]
  methods := #[]
  instanceTypes := #[(.object "java/lang/String"), (.object "java/lang/String"), (.object "java/lang/String"), .boolean, .boolean, (.object "com/example/chiffchaff/chiffchaff/XmlName"), (.object "com/example/chiffchaff/chiffchaff/XmlName"), .int, .long]
  staticTypes := #[.long, .int]
  resolved := Array.replicate 102 none
  statics := none }

def pool5 : Array CpInfo := pool [(1, .class_ 2), (0, u "java/io/Serializable"), (0, .class_ 4), (0, u "java/lang/Object")] 2

/-- java/io/Serializable -/
def k5 : Class := { plain "java/io/Serializable" (some 0) with
  accessFlags := 1537
  interfaces := #[]
  cf := some (fileOf pool5 1 #[] #[] 1537 3 #[] #[])
  fields := #[]
  methods := #[]
  instanceTypes := #[]
  staticTypes := #[]
  resolved := Array.replicate 7 none
  statics := none }

def pool6 : Array CpInfo := pool [(1, .class_ 2), (0, u "java/lang/Comparable"), (0, .class_ 4), (0, u "java/lang/Object")] 7

/-- java/lang/Comparable -/
def k6 : Class := { plain "java/lang/Comparable" (some 0) with
  accessFlags := 1537
  interfaces := #[]
  cf := some (fileOf pool6 1 #[] #[] 1537 3 #[] #[])
  fields := #[]
  methods := #[]
  instanceTypes := #[]
  staticTypes := #[]
  resolved := Array.replicate 12 none
  statics := none }

def pool7 : Array CpInfo := pool [(2, .class_ 4), (1, u "java/lang/CharSequence"), (42, .class_ 48), (0, u "java/lang/CharSequence$1CodePointIterator"), (10, .class_ 60), (0, u "java/lang/CharSequence$1CharIterator"), (5, .class_ 67), (0, u "java/lang/Object")] 63

/-- java/lang/CharSequence -/
def k7 : Class := { plain "java/lang/CharSequence" (some 0) with
  accessFlags := 1537
  interfaces := #[]
  cf := some (fileOf pool7 2 #[.nestMembers #[47, 59]] #[] 1537 66 #[] #[])
  fields := #[]
  methods := #[]
  instanceTypes := #[]
  staticTypes := #[]
  resolved := Array.replicate 131 none
  statics := none }

def pool8 : Array CpInfo := pool [(1, .class_ 2), (0, u "java/lang/constant/Constable"), (0, .class_ 4), (0, u "java/lang/Object")] 6

/-- java/lang/constant/Constable -/
def k8 : Class := { plain "java/lang/constant/Constable" (some 0) with
  accessFlags := 1537
  interfaces := #[]
  cf := some (fileOf pool8 1 #[] #[] 1537 3 #[] #[])
  fields := #[]
  methods := #[]
  instanceTypes := #[]
  staticTypes := #[]
  resolved := Array.replicate 11 none
  statics := none }

def pool9 : Array CpInfo := pool [(1, .class_ 2), (0, u "java/lang/constant/ConstantDesc"), (0, .class_ 4), (0, u "java/lang/Object")] 32

/-- java/lang/constant/ConstantDesc -/
def k9 : Class := { plain "java/lang/constant/ConstantDesc" (some 0) with
  accessFlags := 1537
  interfaces := #[]
  cf := some (fileOf pool9 1 #[] #[] 1537 3 #[] #[])
  fields := #[]
  methods := #[]
  instanceTypes := #[]
  staticTypes := #[]
  resolved := Array.replicate 37 none
  statics := none }

def pool10 : Array CpInfo := pool [(2, .class_ 4), (1, u "java/lang/Object"), (0, u "<init>"), (0, u "()V"), (3, .class_ 12), (1, u "java/lang/String"), (0, u "value"), (0, u "[B"), (2, u "coder"), (0, u "B"), (2, u "hash"), (0, u "I"), (2, u "hashIsZero"), (0, u "Z"), (13, u "COMPACT_STRINGS"), (534, .class_ 576), (0, u "java/lang/CharSequence"), (22, u "CASE_INSENSITIVE_ORDER"), (0, u "Ljava/util/Comparator;"), (500, u "serialPersistentFields"), (0, u "[Ljava/io/ObjectStreamField;"), (0, .class_ 1104), (0, u "java/lang/String$CaseInsensitiveComparator"), (1, .class_ 1107), (0, u "java/io/Serializable"), (0, .class_ 1109), (0, u "java/lang/Comparable"), (0, .class_ 1111), (0, u "java/lang/constant/Constable"), (0, .class_ 1113), (0, u "java/lang/constant/ConstantDesc"), (2, u "serialVersionUID"), (0, u "J"), (3, u "REPL"), (0, u "C"), (2, u "LATIN1"), (1, u "UTF16")] 323

def k10m0 : Method := { name := "<init>", desc := "()V", sig := { parameters := [], returnType := none }, accessFlags := 1, code := none }
/-- java/lang/String -/
def k10 : Class := { plain "java/lang/String" (some 0) with
  accessFlags := 49
  interfaces := #[5, 6, 7, 8, 9]
  cf := some (fileOf pool10 10 #[.nestMembers #[1103]] #[{ accessFlags := 1, nameIndex := 5, descriptorIndex := 6, attributes := #[] }] 49 2 #[1106, 1108, 575, 1110, 1112] #[{ accessFlags := 18, nameIndex := 13, descriptorIndex := 14, attributes := #[] }, { accessFlags := 18, nameIndex := 17, descriptorIndex := 18, attributes := #[] }, { accessFlags := 2, nameIndex := 21, descriptorIndex := 22, attributes := #[] }, { accessFlags := 2, nameIndex := 25, descriptorIndex := 26, attributes := #[] }, { accessFlags := 26, nameIndex := 1116, descriptorIndex := 1117, attributes := #[] }, { accessFlags := 24, nameIndex := 40, descriptorIndex := 26, attributes := #[] }, { accessFlags := 26, nameIndex := 1101, descriptorIndex := 1102, attributes := #[] }, { accessFlags := 26, nameIndex := 1121, descriptorIndex := 1122, attributes := #[] }, { accessFlags := 25, nameIndex := 599, descriptorIndex := 600, attributes := #[] }, { accessFlags := 24, nameIndex := 1125, descriptorIndex := 18, attributes := #[] }, { accessFlags := 24, nameIndex := 1127, descriptorIndex := 18, attributes := #[] }])
  fields := #[{ name := "value", type := (.array .byte), accessFlags := 18, slot := 0, constantValue := 0 }, { name := "coder", type := .byte, accessFlags := 18, slot := 1, constantValue := 0 }, { name := "hash", type := .int, accessFlags := 2, slot := 2, constantValue := 0 }, { name := "hashIsZero", type := .boolean, accessFlags := 2, slot := 3, constantValue := 0 }, { name := "serialVersionUID", type := .long, accessFlags := 26, slot := 0, constantValue := 0 }, { name := "COMPACT_STRINGS", type := .boolean, accessFlags := 24, slot := 1, constantValue := 0 }, { name := "serialPersistentFields", type := (.array (.object "java/io/ObjectStreamField")), accessFlags := 26, slot := 2, constantValue := 0 }, { name := "REPL", type := .char, accessFlags := 26, slot := 3, constantValue := 0 }, { name := "CASE_INSENSITIVE_ORDER", type := (.object "java/util/Comparator"), accessFlags := 25, slot := 4, constantValue := 0 }, { name := "LATIN1", type := .byte, accessFlags := 24, slot := 5, constantValue := 0 }, { name := "UTF16", type := .byte, accessFlags := 24, slot := 6, constantValue := 0 }]
  methods := #[k10m0]
  instanceTypes := #[(.array .byte), .byte, .int, .boolean]
  staticTypes := #[.long, .boolean, (.array (.object "java/io/ObjectStreamField")), .char, (.object "java/util/Comparator"), .byte, .byte]
  resolved := Array.replicate 1451 none
  statics := none }

def pool11 : Array CpInfo := pool [(1, .class_ 2), (0, u "java/lang/Math"), (1, .class_ 6), (1, u "java/lang/Object"), (0, u "<init>"), (0, u "()V"), (89, .class_ 100), (1, u "java/lang/Math$RandomNumberGeneratorHolder"), (71, u "negativeZeroFloatBits"), (0, u "J"), (2, u "negativeZeroDoubleBits"), (24, u "min"), (43, u "$assertionsDisabled"), (0, u "Z"), (88, u "(II)I"), (2, u "twoToTheDoubleScaleDown"), (0, u "D"), (4, u "twoToTheDoubleScaleUp"), (9, u "E"), (3, u "PI"), (2, u "TAU"), (2, u "DEGREES_TO_RADIANS"), (0, u "RADIANS_TO_DEGREES")] 94

def k11m0 : Method := { name := "<init>", desc := "()V", sig := { parameters := [], returnType := none }, accessFlags := 2, code := none }
def k11c1 : Code := { maxStack := 2, maxLocals := 2, code := jdk_29_method_69_code, exceptionTable := #[], attributes := #[] }
def k11m1 : Method := { name := "min", desc := "(II)I", sig := { parameters := [.int, .int], returnType := some .int }, accessFlags := 9, code := some k11c1 }
/-- java/lang/Math -/
def k11 : Class := { plain "java/lang/Math" (some 0) with
  accessFlags := 49
  interfaces := #[]
  cf := some (fileOf pool11 1 #[.nestMembers #[98]] #[{ accessFlags := 2, nameIndex := 7, descriptorIndex := 8, attributes := #[] }, { accessFlags := 9, nameIndex := 201, descriptorIndex := 335, attributes := #[] }] 49 4 #[] #[{ accessFlags := 25, nameIndex := 354, descriptorIndex := 339, attributes := #[] }, { accessFlags := 25, nameIndex := 358, descriptorIndex := 339, attributes := #[] }, { accessFlags := 25, nameIndex := 361, descriptorIndex := 339, attributes := #[] }, { accessFlags := 26, nameIndex := 364, descriptorIndex := 339, attributes := #[] }, { accessFlags := 26, nameIndex := 365, descriptorIndex := 339, attributes := #[] }, { accessFlags := 26, nameIndex := 172, descriptorIndex := 173, attributes := #[] }, { accessFlags := 26, nameIndex := 176, descriptorIndex := 173, attributes := #[] }, { accessFlags := 8, nameIndex := 344, descriptorIndex := 339, attributes := #[] }, { accessFlags := 8, nameIndex := 338, descriptorIndex := 339, attributes := #[] }, { accessFlags := 4120, nameIndex := 245, descriptorIndex := 246, attributes := #[] }])
  fields := #[{ name := "E", type := .double, accessFlags := 25, slot := 0, constantValue := 0 }, { name := "PI", type := .double, accessFlags := 25, slot := 1, constantValue := 0 }, { name := "TAU", type := .double, accessFlags := 25, slot := 2, constantValue := 0 }, { name := "DEGREES_TO_RADIANS", type := .double, accessFlags := 26, slot := 3, constantValue := 0 }, { name := "RADIANS_TO_DEGREES", type := .double, accessFlags := 26, slot := 4, constantValue := 0 }, { name := "negativeZeroFloatBits", type := .long, accessFlags := 26, slot := 5, constantValue := 0 }, { name := "negativeZeroDoubleBits", type := .long, accessFlags := 26, slot := 6, constantValue := 0 }, { name := "twoToTheDoubleScaleUp", type := .double, accessFlags := 8, slot := 7, constantValue := 0 }, { name := "twoToTheDoubleScaleDown", type := .double, accessFlags := 8, slot := 8, constantValue := 0 }, { name := "$assertionsDisabled", type := .boolean, accessFlags := 4120, slot := 9, constantValue := 0 }]
  methods := #[k11m0, k11m1]
  instanceTypes := #[]
  staticTypes := #[.double, .double, .double, .double, .double, .long, .long, .double, .double, .boolean]
  resolved := Array.replicate 460 none
  statics := none }

def pool12 : Array CpInfo := pool [(1, .methodref 2 3), (0, .class_ 4), (0, .nameAndType 5 6), (0, u "java/lang/Object"), (0, u "<init>"), (0, u "()V"), (0, .fieldref 8 9), (0, .class_ 10), (0, .nameAndType 11 12), (0, u "com/example/chiffchaff/chiffchaff/ElementType"), (0, u "NO_ATTRIBUTES"), (0, u "Lcom/example/chiffchaff/chiffchaff/DeclaredAttributes;"), (0, .fieldref 8 14), (0, .nameAndType 15 12), (0, u "attributes"), (9, u "content"), (0, u "Lcom/example/chiffchaff/chiffchaff/ContentModel;"), (14, u "UNDECLARED"), (0, u "Lcom/example/chiffchaff/chiffchaff/ElementType;")] 15

def k12c0 : Code := { maxStack := 2, maxLocals := 1, code := prog_28_method_1_code, exceptionTable := #[], attributes := #[] }
def k12m0 : Method := { name := "<init>", desc := "()V", sig := { parameters := [], returnType := none }, accessFlags := 0, code := some k12c0 }
/-- com/example/chiffchaff/chiffchaff/ElementType -/
def k12 : Class := { plain "com/example/chiffchaff/chiffchaff/ElementType" (some 0) with
  accessFlags := 48
  interfaces := #[]
  cf := some (fileOf pool12 8 #[] #[{ accessFlags := 0, nameIndex := 5, descriptorIndex := 6, attributes := #[] }] 48 2 #[] #[{ accessFlags := 26, nameIndex := 11, descriptorIndex := 12, attributes := #[] }, { accessFlags := 24, nameIndex := 41, descriptorIndex := 42, attributes := #[] }, { accessFlags := 2, nameIndex := 15, descriptorIndex := 12, attributes := #[] }, { accessFlags := 2, nameIndex := 25, descriptorIndex := 26, attributes := #[] }])
  fields := #[{ name := "NO_ATTRIBUTES", type := (.object "com/example/chiffchaff/chiffchaff/DeclaredAttributes"), accessFlags := 26, slot := 0, constantValue := 0 }, { name := "UNDECLARED", type := (.object "com/example/chiffchaff/chiffchaff/ElementType"), accessFlags := 24, slot := 1, constantValue := 0 }, { name := "attributes", type := (.object "com/example/chiffchaff/chiffchaff/DeclaredAttributes"), accessFlags := 2, slot := 0, constantValue := 0 }, { name := "content", type := (.object "com/example/chiffchaff/chiffchaff/ContentModel"), accessFlags := 2, slot := 1, constantValue := 0 }]
  methods := #[k12m0]
  instanceTypes := #[(.object "com/example/chiffchaff/chiffchaff/DeclaredAttributes"), (.object "com/example/chiffchaff/chiffchaff/ContentModel")]
  staticTypes := #[(.object "com/example/chiffchaff/chiffchaff/DeclaredAttributes"), (.object "com/example/chiffchaff/chiffchaff/ElementType")]
  resolved := Array.replicate 58 none
  statics := some 1 }

def pool13 : Array CpInfo := pool [(2, .class_ 4), (1, u "java/lang/Object"), (0, u "<init>"), (0, u "()V"), (6, .methodref 14 15), (0, .class_ 16), (0, .nameAndType 17 18), (0, u "java/util/Arrays"), (0, u "rangeCheck"), (0, u "(III)V"), (55, .class_ 76), (1, u "java/util/Arrays$NaturalOrder"), (36, .class_ 115), (1, u "java/util/Arrays$LegacyMergeSort"), (1, u "Z"), (257, .class_ 376), (0, u "java/util/Arrays$ArrayList"), (68, u "$assertionsDisabled"), (269, u "MIN_ARRAY_SORT_GRAN"), (0, u "I"), (2, u "INSERTIONSORT_THRESHOLD"), (120, u "fill"), (18, u "([Ljava/lang/Object;IILjava/lang/Object;)V"), (115, .class_ 976), (0, u "java/util/Arrays$ArrayItr")] 52

def k13m0 : Method := { name := "<init>", desc := "()V", sig := { parameters := [], returnType := none }, accessFlags := 2, code := none }
def k13c1 : Code := { maxStack := 4, maxLocals := 3, code := jdk_65_method_30_code, exceptionTable := #[], attributes := #[] }
def k13m1 : Method := { name := "rangeCheck", desc := "(III)V", sig := { parameters := [.int, .int, .int], returnType := none }, accessFlags := 8, code := some k13c1 }
def k13c2 : Code := { maxStack := 3, maxLocals := 5, code := jdk_65_method_118_code, exceptionTable := #[], attributes := #[] }
def k13m2 : Method := { name := "fill", desc := "([Ljava/lang/Object;IILjava/lang/Object;)V", sig := { parameters := [(.array (.object "java/lang/Object")), .int, .int, (.object "java/lang/Object")], returnType := none }, accessFlags := 9, code := some k13c2 }
/-- java/util/Arrays -/
def k13 : Class := { plain "java/util/Arrays" (some 0) with
  accessFlags := 49
  interfaces := #[]
  cf := some (fileOf pool13 14 #[.nestMembers #[975, 375, 113, 74]] #[{ accessFlags := 2, nameIndex := 5, descriptorIndex := 6, attributes := #[] }, { accessFlags := 8, nameIndex := 17, descriptorIndex := 18, attributes := #[] }, { accessFlags := 9, nameIndex := 840, descriptorIndex := 859, attributes := #[] }] 49 2 #[] #[{ accessFlags := 26, nameIndex := 715, descriptorIndex := 716, attributes := #[] }, { accessFlags := 26, nameIndex := 719, descriptorIndex := 716, attributes := #[] }, { accessFlags := 4120, nameIndex := 445, descriptorIndex := 117, attributes := #[] }])
  fields := #[{ name := "MIN_ARRAY_SORT_GRAN", type := .int, accessFlags := 26, slot := 0, constantValue := 0 }, { name := "INSERTIONSORT_THRESHOLD", type := .int, accessFlags := 26, slot := 1, constantValue := 0 }, { name := "$assertionsDisabled", type := .boolean, accessFlags := 4120, slot := 2, constantValue := 0 }]
  methods := #[k13m0, k13m1, k13m2]
  instanceTypes := #[]
  staticTypes := #[.int, .int, .boolean]
  resolved := Array.replicate 1029 none
  statics := none }

def pool14 : Array CpInfo := pool [(2, .class_ 4), (1, u "java/lang/Object"), (0, u "<init>"), (0, u "()V"), (4, .class_ 13), (1, u "com/example/chiffchaff/chiffchaff/DeclaredAttributes"), (0, u "byName"), (0, u "Ljava/util/Map;"), (5, u "defaulted"), (0, u "Ljava/util/List;")] 51

def k14m0 : Method := { name := "<init>", desc := "()V", sig := { parameters := [], returnType := none }, accessFlags := 0, code := none }
/-- com/example/chiffchaff/chiffchaff/DeclaredAttributes -/
def k14 : Class := { plain "com/example/chiffchaff/chiffchaff/DeclaredAttributes" (some 0) with
  accessFlags := 48
  interfaces := #[]
  cf := some (fileOf pool14 11 #[] #[{ accessFlags := 0, nameIndex := 5, descriptorIndex := 6, attributes := #[] }] 48 2 #[] #[{ accessFlags := 18, nameIndex := 14, descriptorIndex := 15, attributes := #[] }, { accessFlags := 18, nameIndex := 21, descriptorIndex := 22, attributes := #[] }])
  fields := #[{ name := "byName", type := (.object "java/util/Map"), accessFlags := 18, slot := 0, constantValue := 0 }, { name := "defaulted", type := (.object "java/util/List"), accessFlags := 18, slot := 1, constantValue := 0 }]
  methods := #[k14m0]
  instanceTypes := #[(.object "java/util/Map"), (.object "java/util/List")]
  staticTypes := #[]
  resolved := Array.replicate 74 none
  statics := none }

def pool15 : Array CpInfo := pool [(1, u "java/lang/Cloneable"), (0, .class_ 1), (0, u "java/lang/Object"), (0, .class_ 3)] 3

/-- java/lang/Cloneable -/
def k15 : Class := { plain "java/lang/Cloneable" (some 0) with
  accessFlags := 1537
  interfaces := #[]
  cf := some (fileOf pool15 2 #[] #[] 1537 4 #[] #[])
  fields := #[]
  methods := #[]
  instanceTypes := #[]
  staticTypes := #[]
  resolved := Array.replicate 8 none
  statics := none }

/-- the primitive byte -/
def k16 : Class := { plain "byte" none with kind := .primitive 'B', accessFlags := 0x411 }
/-- [B -/
def k17 : Class := { plain "[B" (some 0) with kind := .array 16 .byte, interfaces := #[15, 5], accessFlags := 1041 }

/-- the primitive int -/
def k18 : Class := { plain "int" none with kind := .primitive 'I', accessFlags := 0x411 }
/-- [I -/
def k19 : Class := { plain "[I" (some 0) with kind := .array 18 .int, interfaces := #[15, 5], accessFlags := 1041 }

/-- the primitive long -/
def k20 : Class := { plain "long" none with kind := .primitive 'J', accessFlags := 0x411 }
/-- [J -/
def k21 : Class := { plain "[J" (some 0) with kind := .array 20 .long, interfaces := #[15, 5], accessFlags := 1041 }

/-- [Lcom/example/chiffchaff/chiffchaff/ElementType; -/
def k22 : Class := { plain "[Lcom/example/chiffchaff/chiffchaff/ElementType;" (some 0) with kind := .array 12 (.object "com/example/chiffchaff/chiffchaff/ElementType"), interfaces := #[15, 5], accessFlags := 1041 }

/-- [Lcom/example/chiffchaff/chiffchaff/OpenElements$Block; -/
def k23 : Class := { plain "[Lcom/example/chiffchaff/chiffchaff/OpenElements$Block;" (some 0) with kind := .array 3 (.object "com/example/chiffchaff/chiffchaff/OpenElements$Block"), interfaces := #[15, 5], accessFlags := 1041 }

/-- [Lcom/example/chiffchaff/chiffchaff/XmlName; -/
def k24 : Class := { plain "[Lcom/example/chiffchaff/chiffchaff/XmlName;" (some 0) with kind := .array 4 (.object "com/example/chiffchaff/chiffchaff/XmlName"), interfaces := #[15, 5], accessFlags := 1041 }

/-- [Ljava/lang/String; -/
def k25 : Class := { plain "[Ljava/lang/String;" (some 0) with kind := .array 10 (.object "java/lang/String"), interfaces := #[15, 5], accessFlags := 1041 }

def heap : Heap := #[{ cls := 2, slots := #[.int 0, .int 0, .int 0, .int 0, .ref 2], vm := .statics 2 },
  { cls := 12, slots := #[.ref 4, .ref 3], vm := .statics 12 },
  { cls := 23, slots := #[], vm := .none },
  { cls := 12, slots := #[.null, .null], vm := .none },
  { cls := 14, slots := #[.null, .null], vm := .none }]
def classes : Array Class := #[k0, k1, k2, k3, k4, k5, k6, k7, k8, k9, k10, k11, k12, k13, k14, k15, k16, k17, k18, k19, k20, k21, k22, k23, k24, k25]
def interned : List (Array UInt16 × Addr) := []
def slotsUsed : Nat := 11
def theMethod : MethodId := ⟨1, 1⟩
def args0 : Array Value := #[.int 2, .int 1, .int 1, .int 5, .long 5]
def aboutOver (below : List Frame) : State where
  vm := { classes := classes, interned := interned.toArray }
  heap := heap
  slotsUsed := slotsUsed
  threads := #[{ frames := .invoking theMethod args0 :: below }]
def below0 : List Frame := [.native { method := ⟨0, 0⟩, args := #[] }]
def about1 : State := aboutOver below0
def p0 : Program := .bare "" "" ""
def e0 : Env := launch0.env 0 0 0
theorem w_frames : about1.frames = Frame.invoking theMethod args0 :: below0 := rfl
set_option maxRecDepth 65536 in
theorem w_args : argsFit about1.vm theMethod args0 = true := by decide +kernel
set_option maxRecDepth 65536 in
theorem w_heap : heapFits about1 = true := by decide +kernel
set_option maxRecDepth 65536 in
theorem w_runnable : about1.curStatus? = some .runnable := by decide +kernel
set_option maxRecDepth 65536 in
theorem w_alone : about1.alone = true := by decide +kernel
set_option maxRecDepth 65536 in
theorem w_named : about1.methodNamed? x = some theMethod := by decide +kernel
set_option maxRecDepth 65536 in
theorem w_hears : about1.hears theMethod below0 = true := by decide +kernel
set_option maxRecDepth 65536 in
theorem w_ripe : about1.ripe theMethod args0 below0 = true := by decide +kernel
theorem w_running : about1.status = .running := rfl
set_option maxRecDepth 65536 in
theorem w_room : about1.hasRoom e0.platform room_1 = true :=
  launch0.hasRoom_least _ room_1 (by decide +kernel) (by decide +kernel) (by decide +kernel) (by decide +kernel) (by decide +kernel) (by decide +kernel)
theorem allAtoms_all (ts : List Jvm.Cond) (a : Array Jvm.Value) (st : Jvm.State) : (allAtoms ts).before a st = ts.all (fun c => c.before a st) := by
  induction ts with
  | nil => rfl
  | cons c t ih =>
    show (Jvm.Cond.and c (allAtoms t)).before a st = _
    rw [Jvm.Cond.before_and, ih, List.all_cons]
def words1 : List Jvm.Cond := Jvm.Cond.code x code maxLocals ret :: tables_1
/-- a 'code' word, met by the world's own term for the bytes: nothing is compared byte by byte -/
theorem code_word {y : MethodName} {bytes : ByteArray} {mx : Nat} {rt : Option FieldType} {a : Array Value} {s : State} {m : MethodId} {meth : Method} {c : Code} (h1 : s.methodNamed? y = some m) (h2 : s.vm.method? m = some meth) (h3 : meth.code = some c) (h4 : c.code = bytes)
    (h5 : (c.maxLocals == mx && c.exceptionTable.isEmpty && decide (c.maxStack ≤ mostOperands) && decide (meth.sig.returnType = rt) && !meth.locks && decide (parseMethodDescriptor y.desc = some meth.sig)) = true) : (Jvm.Cond.code y bytes mx rt).before a s = true := by
  simp only [Bool.and_eq_true, beq_iff_eq, Bool.not_eq_true', decide_eq_true_eq] at h5
  obtain ⟨⟨⟨⟨⟨g1, g2⟩, g3⟩, g4⟩, g5⟩, g6⟩ := h5
  simp [Cond.before, Cond.holds, Cond.value, h1, h2, h3, h4, g1, g2, g3, g4, g5, g6]
def isCode : Jvm.Cond → Bool
  | .code _ _ _ _ => true
  | _ => false
theorem all_split {L : List Jvm.Cond} {P : Jvm.Cond → Bool} (h1 : L.all (fun c => isCode c || P c) = true) (h2 : ∀ c ∈ L.filter isCode, P c = true) : L.all P = true := by
  refine List.all_eq_true.mpr fun c hc => ?_
  have h := List.all_eq_true.mp h1 c hc
  rcases Bool.eq_false_or_eq_true (isCode c) with hi | hi
  · exact h2 c (List.mem_filter.mpr ⟨hc, hi⟩)
  · simpa [hi] using h
set_option maxRecDepth 65536 in
theorem w_c0 : (Jvm.Cond.code x code maxLocals ret).before args0 about1 = true := code_word (m := ⟨1, 1⟩) (meth := k1m1) (c := k1c1) (by decide +kernel) rfl rfl rfl (by decide +kernel)
set_option maxRecDepth 65536 in
theorem w_c1 : (Jvm.Cond.code ({ cls := "com/example/chiffchaff/chiffchaff/OpenElements", name := "<init>", desc := "()V" } : Jvm.MethodName) prog_52_method_1_code (1 : Nat) (Option.none : Option Jvm.ClassFile.FieldType)).before args0 about1 = true := code_word (m := ⟨2, 0⟩) (meth := k2m0) (c := k2c0) (by decide +kernel) rfl rfl rfl (by decide +kernel)
set_option maxRecDepth 65536 in
theorem w_c2 : (Jvm.Cond.code ({ cls := "java/lang/Object", name := "<init>", desc := "()V" } : Jvm.MethodName) object_method_1_code (1 : Nat) (Option.none : Option Jvm.ClassFile.FieldType)).before args0 about1 = true := code_word (m := ⟨0, 0⟩) (meth := k0m0) (c := k0c0) (by decide +kernel) rfl rfl rfl (by decide +kernel)
set_option maxRecDepth 65536 in
theorem w_c3 : (Jvm.Cond.code ({ cls := "com/example/chiffchaff/chiffchaff/OpenElements$Block", name := "<init>", desc := "(I)V" } : Jvm.MethodName) prog_53_method_1_code (2 : Nat) (Option.none : Option Jvm.ClassFile.FieldType)).before args0 about1 = true := code_word (m := ⟨3, 0⟩) (meth := k3m0) (c := k3c0) (by decide +kernel) rfl rfl rfl (by decide +kernel)
set_option maxRecDepth 65536 in
theorem w_c4 : (Jvm.Cond.code ({ cls := "com/example/chiffchaff/chiffchaff/OpenElements", name := "room", desc := "()I" } : Jvm.MethodName) prog_52_method_6_code (6 : Nat) (Option.some Jvm.ClassFile.FieldType.int)).before args0 about1 = true := code_word (m := ⟨2, 4⟩) (meth := k2m4) (c := k2c4) (by decide +kernel) rfl rfl rfl (by decide +kernel)
set_option maxRecDepth 65536 in
theorem w_c5 : (Jvm.Cond.code ({ cls := "java/lang/Math", name := "min", desc := "(II)I" } : Jvm.MethodName) jdk_29_method_69_code (2 : Nat) (Option.some Jvm.ClassFile.FieldType.int)).before args0 about1 = true := code_word (m := ⟨11, 1⟩) (meth := k11m1) (c := k11c1) (by decide +kernel) rfl rfl rfl (by decide +kernel)
set_option maxRecDepth 65536 in
theorem w_c6 : (Jvm.Cond.code ({ cls := "com/example/chiffchaff/chiffchaff/OpenElements", name := "clear", desc := "()V" } : Jvm.MethodName) prog_52_method_5_code (1 : Nat) (Option.none : Option Jvm.ClassFile.FieldType)).before args0 about1 = true := code_word (m := ⟨2, 3⟩) (meth := k2m3) (c := k2c3) (by decide +kernel) rfl rfl rfl (by decide +kernel)
set_option maxRecDepth 65536 in
theorem w_c7 : (Jvm.Cond.code ({ cls := "com/example/chiffchaff/chiffchaff/OpenElements$Block", name := "free", desc := "(I)V" } : Jvm.MethodName) prog_53_method_4_code (2 : Nat) (Option.none : Option Jvm.ClassFile.FieldType)).before args0 about1 = true := code_word (m := ⟨3, 2⟩) (meth := k3m2) (c := k3c2) (by decide +kernel) rfl rfl rfl (by decide +kernel)
set_option maxRecDepth 65536 in
theorem w_c8 : (Jvm.Cond.code ({ cls := "java/util/Arrays", name := "fill", desc := "([Ljava/lang/Object;IILjava/lang/Object;)V" } : Jvm.MethodName) jdk_65_method_118_code (5 : Nat) (Option.none : Option Jvm.ClassFile.FieldType)).before args0 about1 = true := code_word (m := ⟨13, 2⟩) (meth := k13m2) (c := k13c2) (by decide +kernel) rfl rfl rfl (by decide +kernel)
set_option maxRecDepth 65536 in
theorem w_c9 : (Jvm.Cond.code ({ cls := "java/util/Arrays", name := "rangeCheck", desc := "(III)V" } : Jvm.MethodName) jdk_65_method_30_code (3 : Nat) (Option.none : Option Jvm.ClassFile.FieldType)).before args0 about1 = true := code_word (m := ⟨13, 1⟩) (meth := k13m1) (c := k13c1) (by decide +kernel) rfl rfl rfl (by decide +kernel)
set_option maxRecDepth 65536 in
theorem w_c10 : (Jvm.Cond.code ({ cls := "com/example/chiffchaff/chiffchaff/ElementType", name := "<init>", desc := "()V" } : Jvm.MethodName) prog_28_method_1_code (1 : Nat) (Option.none : Option Jvm.ClassFile.FieldType)).before args0 about1 = true := code_word (m := ⟨12, 0⟩) (meth := k12m0) (c := k12c0) (by decide +kernel) rfl rfl rfl (by decide +kernel)
set_option maxRecDepth 65536 in
theorem w_c11 : (Jvm.Cond.code ({ cls := "com/example/chiffchaff/chiffchaff/OpenElements", name := "push", desc := "(Lcom/example/chiffchaff/chiffchaff/XmlName;Lcom/example/chiffchaff/chiffchaff/ElementType;Ljava/lang/String;IJ)V" } : Jvm.MethodName) prog_52_method_3_code (10 : Nat) (Option.none : Option Jvm.ClassFile.FieldType)).before args0 about1 = true := code_word (m := ⟨2, 1⟩) (meth := k2m1) (c := k2c1) (by decide +kernel) rfl rfl rfl (by decide +kernel)
set_option maxRecDepth 65536 in
theorem w_c12 : (Jvm.Cond.code ({ cls := "com/example/chiffchaff/chiffchaff/OpenElements", name := "block", desc := "(I)I" } : Jvm.MethodName) prog_52_method_15_code (1 : Nat) (Option.some Jvm.ClassFile.FieldType.int)).before args0 about1 = true := code_word (m := ⟨2, 6⟩) (meth := k2m6) (c := k2c6) (by decide +kernel) rfl rfl rfl (by decide +kernel)
set_option maxRecDepth 65536 in
theorem w_c13 : (Jvm.Cond.code ({ cls := "com/example/chiffchaff/chiffchaff/OpenElements", name := "slot", desc := "(I)I" } : Jvm.MethodName) prog_52_method_16_code (1 : Nat) (Option.some Jvm.ClassFile.FieldType.int)).before args0 about1 = true := code_word (m := ⟨2, 7⟩) (meth := k2m7) (c := k2c7) (by decide +kernel) rfl rfl rfl (by decide +kernel)
set_option maxRecDepth 65536 in
theorem w_c14 : (Jvm.Cond.code ({ cls := "com/example/chiffchaff/chiffchaff/OpenElements$Block", name := "typed", desc := "()[Lcom/example/chiffchaff/chiffchaff/ElementType;" } : Jvm.MethodName) prog_53_method_3_code (1 : Nat) (Option.some (Jvm.ClassFile.FieldType.array (Jvm.ClassFile.FieldType.object "com/example/chiffchaff/chiffchaff/ElementType")))).before args0 about1 = true := code_word (m := ⟨3, 1⟩) (meth := k3m1) (c := k3c1) (by decide +kernel) rfl rfl rfl (by decide +kernel)
set_option maxRecDepth 65536 in
theorem w_c15 : (Jvm.Cond.code ({ cls := "com/example/chiffchaff/chiffchaff/OpenElements", name := "pop", desc := "()V" } : Jvm.MethodName) prog_52_method_7_code (1 : Nat) (Option.none : Option Jvm.ClassFile.FieldType)).before args0 about1 = true := code_word (m := ⟨2, 5⟩) (meth := k2m5) (c := k2c5) (by decide +kernel) rfl rfl rfl (by decide +kernel)
set_option maxRecDepth 65536 in
theorem w_c16 : (Jvm.Cond.code ({ cls := "com/example/chiffchaff/chiffchaff/OpenElements", name := "release", desc := "()V" } : Jvm.MethodName) prog_52_method_4_code (1 : Nat) (Option.none : Option Jvm.ClassFile.FieldType)).before args0 about1 = true := code_word (m := ⟨2, 2⟩) (meth := k2m2) (c := k2c2) (by decide +kernel) rfl rfl rfl (by decide +kernel)
def codes1 : List Jvm.Cond := [Jvm.Cond.code x code maxLocals ret, Jvm.Cond.code ({ cls := "com/example/chiffchaff/chiffchaff/OpenElements", name := "<init>", desc := "()V" } : Jvm.MethodName) prog_52_method_1_code (1 : Nat) (Option.none : Option Jvm.ClassFile.FieldType), Jvm.Cond.code ({ cls := "java/lang/Object", name := "<init>", desc := "()V" } : Jvm.MethodName) object_method_1_code (1 : Nat) (Option.none : Option Jvm.ClassFile.FieldType), Jvm.Cond.code ({ cls := "com/example/chiffchaff/chiffchaff/OpenElements$Block", name := "<init>", desc := "(I)V" } : Jvm.MethodName) prog_53_method_1_code (2 : Nat) (Option.none : Option Jvm.ClassFile.FieldType), Jvm.Cond.code ({ cls := "com/example/chiffchaff/chiffchaff/OpenElements", name := "room", desc := "()I" } : Jvm.MethodName) prog_52_method_6_code (6 : Nat) (Option.some Jvm.ClassFile.FieldType.int), Jvm.Cond.code ({ cls := "java/lang/Math", name := "min", desc := "(II)I" } : Jvm.MethodName) jdk_29_method_69_code (2 : Nat) (Option.some Jvm.ClassFile.FieldType.int), Jvm.Cond.code ({ cls := "com/example/chiffchaff/chiffchaff/OpenElements", name := "clear", desc := "()V" } : Jvm.MethodName) prog_52_method_5_code (1 : Nat) (Option.none : Option Jvm.ClassFile.FieldType), Jvm.Cond.code ({ cls := "com/example/chiffchaff/chiffchaff/OpenElements$Block", name := "free", desc := "(I)V" } : Jvm.MethodName) prog_53_method_4_code (2 : Nat) (Option.none : Option Jvm.ClassFile.FieldType), Jvm.Cond.code ({ cls := "java/util/Arrays", name := "fill", desc := "([Ljava/lang/Object;IILjava/lang/Object;)V" } : Jvm.MethodName) jdk_65_method_118_code (5 : Nat) (Option.none : Option Jvm.ClassFile.FieldType), Jvm.Cond.code ({ cls := "java/util/Arrays", name := "rangeCheck", desc := "(III)V" } : Jvm.MethodName) jdk_65_method_30_code (3 : Nat) (Option.none : Option Jvm.ClassFile.FieldType), Jvm.Cond.code ({ cls := "com/example/chiffchaff/chiffchaff/ElementType", name := "<init>", desc := "()V" } : Jvm.MethodName) prog_28_method_1_code (1 : Nat) (Option.none : Option Jvm.ClassFile.FieldType), Jvm.Cond.code ({ cls := "com/example/chiffchaff/chiffchaff/OpenElements", name := "push", desc := "(Lcom/example/chiffchaff/chiffchaff/XmlName;Lcom/example/chiffchaff/chiffchaff/ElementType;Ljava/lang/String;IJ)V" } : Jvm.MethodName) prog_52_method_3_code (10 : Nat) (Option.none : Option Jvm.ClassFile.FieldType), Jvm.Cond.code ({ cls := "com/example/chiffchaff/chiffchaff/OpenElements", name := "block", desc := "(I)I" } : Jvm.MethodName) prog_52_method_15_code (1 : Nat) (Option.some Jvm.ClassFile.FieldType.int), Jvm.Cond.code ({ cls := "com/example/chiffchaff/chiffchaff/OpenElements", name := "slot", desc := "(I)I" } : Jvm.MethodName) prog_52_method_16_code (1 : Nat) (Option.some Jvm.ClassFile.FieldType.int), Jvm.Cond.code ({ cls := "com/example/chiffchaff/chiffchaff/OpenElements$Block", name := "typed", desc := "()[Lcom/example/chiffchaff/chiffchaff/ElementType;" } : Jvm.MethodName) prog_53_method_3_code (1 : Nat) (Option.some (Jvm.ClassFile.FieldType.array (Jvm.ClassFile.FieldType.object "com/example/chiffchaff/chiffchaff/ElementType"))), Jvm.Cond.code ({ cls := "com/example/chiffchaff/chiffchaff/OpenElements", name := "pop", desc := "()V" } : Jvm.MethodName) prog_52_method_7_code (1 : Nat) (Option.none : Option Jvm.ClassFile.FieldType), Jvm.Cond.code ({ cls := "com/example/chiffchaff/chiffchaff/OpenElements", name := "release", desc := "()V" } : Jvm.MethodName) prog_52_method_4_code (1 : Nat) (Option.none : Option Jvm.ClassFile.FieldType)]
set_option maxRecDepth 65536 in
theorem codes_eq : words1.filter isCode = codes1 := rfl
theorem w_codes : ∀ c ∈ words1.filter isCode, c.before args0 about1 = true := by
  rw [codes_eq]
  intro c hc
  simp only [codes1, List.mem_cons, List.not_mem_nil, or_false] at hc
  rcases hc with rfl | rfl | rfl | rfl | rfl | rfl | rfl | rfl | rfl | rfl | rfl | rfl | rfl | rfl | rfl | rfl | rfl
  · exact w_c0
  · exact w_c1
  · exact w_c2
  · exact w_c3
  · exact w_c4
  · exact w_c5
  · exact w_c6
  · exact w_c7
  · exact w_c8
  · exact w_c9
  · exact w_c10
  · exact w_c11
  · exact w_c12
  · exact w_c13
  · exact w_c14
  · exact w_c15
  · exact w_c16
set_option maxRecDepth 65536 in
theorem w_t1 : (words1.take 24).all (fun c => isCode c || c.before args0 about1) = true := by decide +kernel
set_option maxRecDepth 65536 in
theorem w_t2 : ((words1.drop 24).take 24).all (fun c => isCode c || c.before args0 about1) = true := by decide +kernel
set_option maxRecDepth 65536 in
theorem w_t3 : (((words1.drop 24).drop 24).take 24).all (fun c => isCode c || c.before args0 about1) = true := by decide +kernel
set_option maxRecDepth 65536 in
theorem w_t4 : ((((words1.drop 24).drop 24).drop 24).take 24).all (fun c => isCode c || c.before args0 about1) = true := by decide +kernel
set_option maxRecDepth 65536 in
theorem w_t5 : ((((words1.drop 24).drop 24).drop 24).drop 24).all (fun c => isCode c || c.before args0 about1) = true := by decide +kernel
theorem w_tables : (allAtoms (Jvm.Cond.code x code maxLocals ret :: tables_1)).before args0 about1 = true := by
  rw [allAtoms_all]
  show words1.all (fun c => c.before args0 about1) = true
  refine all_split ?_ w_codes
  rw [← List.take_append_drop 24 words1, List.all_append, w_t1, ← List.take_append_drop 24 (words1.drop 24), List.all_append, w_t2, ← List.take_append_drop 24 ((words1.drop 24).drop 24), List.all_append, w_t3, ← List.take_append_drop 24 (((words1.drop 24).drop 24).drop 24), List.all_append, w_t4, w_t5]
  rfl
set_option maxRecDepth 65536 in
theorem w_case : (Jvm.Cond.and given_1 narrow_1).before args0 about1 = true := by decide +kernel
theorem w_applies : (headSpec (Jvm.Cond.code x code maxLocals ret :: tables_1) room_1).applies x e0.platform about1 = true :=
  (Spec.applies_iff w_frames).mpr ⟨w_running, w_runnable, w_alone, w_named, w_hears, w_ripe, w_room, w_tables⟩
theorem atStart : AtStart classFile x code maxLocals ret World_1 tables_1 room_1 Calls_1 rest_1 Pre_1 launch0 p0 e0 about1 theMethod args0 below0 :=
  ⟨lists_1, trivial, launch0.admits_env _ _ _, launch0.least_env, fairChoices_fair.cas, fairChoices_fair.clock, w_frames, w_args, w_heap, w_applies, trivial, trivial, w_case⟩
end start1
theorem witness_1 : WitnessClaimed_1 := ⟨start1.p0, start1.e0, start1.about1, start1.theMethod, start1.args0, start1.below0, start1.atStart⟩
end Jvm.Pilot.@@N@@
