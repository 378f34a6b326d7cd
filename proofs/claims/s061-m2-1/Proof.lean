import JvmDerived
import JvmDerived.Pilot.@@N@@Statement
import JvmDerived.Pilot.@@N@@Code
set_option linter.unusedVariables false
set_option linter.unusedSimpArgs false
namespace Jvm.Pilot.@@N@@
open Jvm Jvm.ClassFile Sem Op Lib Jvm.Free Jvm.Stand Jvm.LawKit Jvm.RoadKit Bundle Jvm.Pilot.@@N@@.Jvm.D
/-- what is left of the run from here ends in a state and an outcome of which G holds -/
def own_Fin (tb : Tables) (e : Env) (below : List Frame) (G : State → Outcome → Prop) (st : State) : Prop :=
  ∃ s₂ o, Steps tb e below st s₂ ∧ s₂.status = .running ∧ Ended s₂ below o ∧ G s₂ o
theorem own_st {tb : Tables} {e : Env} {below : List Frame} {G : State → Outcome → Prop} {st st' : State} (k : ∀ t, Steps tb e below st' t → Steps tb e below st t) (h : own_Fin tb e below G st') : own_Fin tb e below G st := by
  obtain ⟨s₂, o, h1, h2⟩ := h
  exact ⟨s₂, o, k _ h1, h2⟩

section own
variable {p : Program} {l : Launch} {e : Env} {R : Room} {s : State} {m : MethodId} {args : Array Value} {below : List Frame} {meth : Method} {c : Code} {T : State} {locs : List Loc} {cells slots : Nat} {Z : State} {h h' : Heap} {a : Addr} {k : ClassId} {ty : FieldType} {n : Int32} {vs : List Value} {d : Value}
theorem own_alen (X : Stand p l e R s m args below meth c T locs cells slots) (hx : p.tables.exec = Jvm.exec) (hZ : Z.Warmed39 s.vm) (eT : T.heap = h) (F : Arv Z h a k ty n vs d) {g : JFrame} (hg : g.method = m) {rest : List Value} (hs : g.stack = .ref a :: rest) (hd : decode c.code g.pc = .ok (.arraylength, 1)) (t : State)
    (hr : Steps p.tables e below (T.setTop { g with pc := g.pc + 1, stack := .int n :: rest }) t) : Steps p.tables e below (T.setTop g) t := by
  obtain ⟨cl, A, -, S, N, -⟩ := F
  refine X.arraylength hx (by rw [eT]; exact A.1) (State.isArrayOf_alike hZ.alike A.2.1) hg hs hd t ?_
  rw [len_of S N]; exact hr
theorem own_aald (X : Stand p l e R s m args below meth c T locs cells slots) (hx : p.tables.exec = Jvm.exec) (hZ : Z.Warmed39 s.vm) (eT : T.heap = h) (F : Arv Z h a k ty n vs d) (hty : ty.isReference = true) {j : Int32} (hj : ¬ j < 0 ∧ j < n) {v : Value} (hv : vs.getD j.toNatClampNeg d = v) {g : JFrame} (hg : g.method = m) {rest : List Value} (hs : g.stack = .int j :: .ref a :: rest) (hd : decode c.code g.pc = .ok (.aaload, 1)) (t : State)
    (hr : Steps p.tables e below (T.setTop { g with pc := g.pc + 1, stack := v :: rest }) t) : Steps p.tables e below (T.setTop g) t := by
  obtain ⟨cl, A, -, S, N, H, -⟩ := F
  have hin := inb_of S hj
  exact X.aaload hx (by rw [eT]; exact A.1) (State.isArrayOf_alike hZ.alike A.2.1) hty A.2.2 hin (H.at hin hv) hg hs hd t hr
end own

def own_A (Z : State) (h : Heap) (a : Addr) (ty : FieldType) (n : Int32) : Prop := ∃ cl : Cell, Arr Z h a cl ty ∧ cl.slots.size = n.toNatClampNeg ∧ ¬ n < 0
def own_O (Z : State) (h : Heap) (a : Addr) (C : String) (n : Int32) : Prop := ∃ cl : Cell, Arr Z h a cl (.object C) ∧ cl.slots.size = n.toNatClampNeg ∧ ¬ n < 0 ∧ Ovr Z cl.cls C
section own2
variable {p : Program} {l : Launch} {e : Env} {R : Room} {s : State} {m : MethodId} {args : Array Value} {below : List Frame} {meth : Method} {c : Code} {T : State} {locs : List Loc} {cells slots : Nat} {Z : State} {h h' : Heap} {a b : Addr} {k : ClassId} {ty t t' : FieldType} {n n' : Int32} {vs : List Value} {d v : Value} {C : String} {ws : List Addr} {sl : Nat} {a0 : Array Value}
theorem own_arr' {cl cl' : Cell} (A : Arr Z h a cl ty) (h1 : h'[a]? = some cl') (h2 : cl'.cls = cl.cls) (h3 : cl'.vm = cl.vm) : Arr Z h' a cl' ty := by
  obtain ⟨q1, q2, q3⟩ := A
  refine ⟨h1, ?_, by rw [h3]; exact q3⟩
  obtain ⟨r1, r2⟩ := q2
  exact ⟨by rw [h3]; exact r1, by rw [h2]; exact r2⟩
theorem own_O.A (F : own_O Z h a C n) : own_A Z h a (.object C) n := by obtain ⟨c, A, r1, r2, -⟩ := F; exact ⟨c, A, r1, r2⟩
theorem own_Arv (F : Arv Z h a k ty n vs d) : own_A Z h a ty n := by obtain ⟨c, A, -, S, N, -⟩ := F; exact ⟨c, A, S, N⟩
theorem own_A.lt (F : own_A Z h a ty n) : a < h.size := by obtain ⟨c, A, -⟩ := F; exact A.lt
theorem own_O.lt (F : own_O Z h a C n) : a < h.size := by obtain ⟨c, A, -⟩ := F; exact A.lt
theorem own_A.ext (F : own_A Z h a ty n) (E : Ext h h') : own_A Z h' a ty n := by obtain ⟨c, A, r⟩ := F; exact ⟨c, A.ext E, r⟩
theorem own_O.ext (F : own_O Z h a C n) (E : Ext h h') : own_O Z h' a C n := by obtain ⟨c, A, r⟩ := F; exact ⟨c, A.ext E, r⟩
theorem own_A.wr (F : own_A Z h a ty n) (W : Wr h h' b sl v) : own_A Z h' a ty n := by
  obtain ⟨c, A, r1, r2⟩ := F
  obtain ⟨c', e1, e2, e3, e4, -⟩ := wr_at W A.1
  exact ⟨c', own_arr' A e1 e2 e3, by rw [e4]; exact r1, r2⟩
theorem own_O.wr (F : own_O Z h a C n) (W : Wr h h' b sl v) : own_O Z h' a C n := by
  obtain ⟨c, A, r1, r2, r3⟩ := F
  obtain ⟨c', e1, e2, e3, e4, -⟩ := wr_at W A.1
  exact ⟨c', own_arr' A e1 e2 e3, by rw [e4]; exact r1, r2, by rw [e2]; exact r3⟩
theorem own_A.keep (F : own_A Z h a ty n) (K : Keep h h' ws) : own_A Z h' a ty n := by
  obtain ⟨c, A, r1, r2⟩ := F
  obtain ⟨c', e1, e2, e3, e4⟩ := K.2.2 _ _ A.1
  exact ⟨c', own_arr' A e1 e2 e3, by rw [e4]; exact r1, r2⟩
theorem own_O.keep (F : own_O Z h a C n) (K : Keep h h' ws) : own_O Z h' a C n := by
  obtain ⟨c, A, r1, r2, r3⟩ := F
  obtain ⟨c', e1, e2, e3, e4⟩ := K.2.2 _ _ A.1
  exact ⟨c', own_arr' A e1 e2 e3, by rw [e4]; exact r1, r2, by rw [e2]; exact r3⟩
theorem own_neAA (F : own_A Z h a t n) (G : own_A Z h b t' n') (q : t ≠ t') : a ≠ b := fun z => by
  subst z
  obtain ⟨c1, A1, -⟩ := F
  obtain ⟨c2, A2, -⟩ := G
  cases A1.1.symm.trans A2.1
  obtain ⟨-, k1, h1, comp1, g1⟩ := A1.2.1
  obtain ⟨-, k2, h2, comp2, g2⟩ := A2.2.1
  cases h1.symm.trans h2
  rw [g1] at g2
  exact q (by injection g2)
theorem own_neEA {kk : Nat} (E : Exa Z h a C) (wi : (Jvm.Cond.instantiable C kk).before a0 Z = true) (G : own_A Z h b t n) : a ≠ b := by
  obtain ⟨c, A, -⟩ := G; exact ne_arr E wi A
theorem own_len1 (X : Stand p l e R s m args below meth c T locs cells slots) (hx : p.tables.exec = Jvm.exec) (hZ : Z.Warmed39 s.vm) (eT : T.heap = h) (F : own_A Z h a ty n) {g : JFrame} (hg : g.method = m) {rest : List Value} (hs : g.stack = .ref a :: rest) (hd : decode c.code g.pc = .ok (.arraylength, 1)) (t : State)
    (hr : Steps p.tables e below (T.setTop { g with pc := g.pc + 1, stack := .int n :: rest }) t) : Steps p.tables e below (T.setTop g) t := by
  obtain ⟨cl, A, S, N⟩ := F
  refine X.arraylength hx (by rw [eT]; exact A.1) (State.isArrayOf_alike hZ.alike A.2.1) hg hs hd t ?_
  rw [len_of S N]; exact hr
theorem own_stR (X : Stand p l e R s m args below meth c T locs cells slots) (hx : p.tables.exec = Jvm.exec) (hZ : Z.Warmed39 s.vm) (eT : T.heap = h) (F : own_O Z h a C n) {j : Int32} (hj : ¬ j < 0 ∧ j < n) (S : v = .null ∨ ∃ y, v = .ref y ∧ Ins Z h y C true) {g : JFrame} (hg : g.method = m) {rest : List Value} (hs : g.stack = v :: .int j :: .ref a :: rest) (hd : decode c.code g.pc = .ok (.aastore, 1)) :
    ∃ T' h', Stand p l e R s m args below meth c T' (locs ++ [⟨a, j.toNatClampNeg⟩]) cells slots ∧ T'.heap = h' ∧ Wr h h' a j.toNatClampNeg v ∧ ∀ target, Steps p.tables e below (T'.setTop { g with pc := g.pc + 1, stack := rest }) target → Steps p.tables e below (T.setTop g) target := by
  obtain ⟨cl, A, z1, z2, O⟩ := F
  refine stR X hx hZ eT A (inb_of z1 hj) rfl ?_ hg hs hd
  rcases S with rfl | ⟨y, rfl, I⟩
  · exact Or.inl rfl
  · exact Sto.of A O I
theorem own_stI (X : Stand p l e R s m args below meth c T locs cells slots) (hx : p.tables.exec = Jvm.exec) (hZ : Z.Warmed39 s.vm) (eT : T.heap = h) (F : own_A Z h a .int n) {j x : Int32} (hj : ¬ j < 0 ∧ j < n) {g : JFrame} (hg : g.method = m) {rest : List Value} (hs : g.stack = .int x :: .int j :: .ref a :: rest) (hd : decode c.code g.pc = .ok (.iastore, 1)) :
    ∃ T' h', Stand p l e R s m args below meth c T' (locs ++ [⟨a, j.toNatClampNeg⟩]) cells slots ∧ T'.heap = h' ∧ Wr h h' a j.toNatClampNeg (.int x) ∧ ∀ target, Steps p.tables e below (T'.setTop { g with pc := g.pc + 1, stack := rest }) target → Steps p.tables e below (T.setTop g) target := by
  obtain ⟨cl, A, z1, z2⟩ := F
  exact stI X hx hZ eT A (inb_of z1 hj) hg hs hd
theorem own_stJ (X : Stand p l e R s m args below meth c T locs cells slots) (hx : p.tables.exec = Jvm.exec) (hZ : Z.Warmed39 s.vm) (eT : T.heap = h) (F : own_A Z h a .long n) {j : Int32} {x : Int64} (hj : ¬ j < 0 ∧ j < n) {g : JFrame} (hg : g.method = m) {rest : List Value} (hs : g.stack = .long x :: .int j :: .ref a :: rest) (hd : decode c.code g.pc = .ok (.lastore, 1)) :
    ∃ T' h', Stand p l e R s m args below meth c T' (locs ++ [⟨a, j.toNatClampNeg⟩]) cells slots ∧ T'.heap = h' ∧ Wr h h' a j.toNatClampNeg (.long x) ∧ ∀ target, Steps p.tables e below (T'.setTop { g with pc := g.pc + 1, stack := rest }) target → Steps p.tables e below (T.setTop g) target := by
  obtain ⟨cl, A, z1, z2⟩ := F
  exact stJ X hx hZ eT A (inb_of z1 hj) hg hs hd
end own2

theorem own_len {Z : State} {args : Array Value} {t : Term} {ty : FieldType} {n : Int32} (h1 : (Jvm.Cond.arrayOf t ty).value args Z none Z [] = some true) (h2 : (Jvm.Cond.eq (.length t) (.int n)).value args Z none Z [] = some true) : ∃ (a : Addr) (cl : Cell), t.eval args Z none [] Z = some (.ref a) ∧ Arr Z Z.heap a cl ty ∧ cl.slots.size.toInt32 = n ∧ cl.slots.size < 2 ^ 31 := by
  obtain ⟨a, ev⟩ := arr_v h1
  obtain ⟨cl, A⟩ := Arr.start ev h1
  have hA : Z.arrayAt? a = some cl := A.fin (Vm.Alike.refl _)
  refine ⟨a, cl, ev, A, ?_⟩
  have e3 : (Term.int n).eval args Z none [] Z = some (.int n) := Term.int_eval n
  by_cases hl : cl.slots.size < 2 ^ 31
  · have e4 := len_f ev hA hl
    simp only [Jvm.Cond.value, e4, e3] at h2
    exact ⟨by simpa using h2, hl⟩
  · exfalso
    have e5 : (Term.length t).eval args Z none [] Z = none := by simp [Term.eval, ev, hA, hl]
    simp [Jvm.Cond.value, e5] at h2
theorem own_arv0 {Z : State} {a : Addr} {cl : Cell} {ty : FieldType} {d : Value} (hf : Fit Z) (A : Arr Z Z.heap a cl ty) (e : cl.slots.size.toInt32 = 0) (hl : cl.slots.size < 2 ^ 31) : Arv Z Z.heap a cl.cls ty 0 [] d :=
  Arv.start hf A hl e (by decide) (by decide) trivial

theorem own_nar {d : String} {v : Value} (h : v.isRef = true) : narrow (.object d) v = v := by
  rcases ref_cases h with rfl | ⟨a, rfl⟩ <;> rfl
theorem own_fit {d : String} {v : Value} (h : v.isRef = true) : fits (.object d) v = true := by
  rcases ref_cases h with rfl | ⟨a, rfl⟩ <;> rfl

theorem pn_com_example_condense_condense_analysis_AffineHullIsEmptyPinLaw : plainName "com/example/condense/condense/analysis/AffineHullIsEmptyPinLaw" = true := by first | (simp [plainName, overriddenIn]; done) | decide +kernel
theorem pn_com_example_condense_condense_analysis_AffineHull : plainName "com/example/condense/condense/analysis/AffineHull" = true := by first | (simp [plainName, overriddenIn]; done) | decide +kernel
theorem pn_java_util_ArrayList : plainName "java/util/ArrayList" = true := by first | (simp [plainName, overriddenIn]; done) | decide +kernel
theorem pn_java_util_AbstractList : plainName "java/util/AbstractList" = true := by first | (simp [plainName, overriddenIn]; done) | decide +kernel
theorem pn_java_util_AbstractCollection : plainName "java/util/AbstractCollection" = true := by first | (simp [plainName, overriddenIn]; done) | decide +kernel
theorem pn_java_util_Arrays : plainName "java/util/Arrays" = true := by first | (simp [plainName, overriddenIn]; done) | decide +kernel
theorem pn_java_util_ArrayList_Itr : plainName "java/util/ArrayList$Itr" = true := by first | (simp [plainName, overriddenIn]; done) | decide +kernel
theorem d1_0 : decode prog_1_method_1_code 0 = .ok (.aload_n 0, 1) := by decide +kernel
theorem d1_1 : decode prog_1_method_1_code 1 = .ok (.invokespecial 1, 3) := by decide +kernel
theorem d1_4 : decode prog_1_method_1_code 4 = .ok (.aload_n 0, 1) := by decide +kernel
theorem d1_5 : decode prog_1_method_1_code 5 = .ok (.new 7, 3) := by decide +kernel
theorem d1_8 : decode prog_1_method_1_code 8 = .ok (.dup, 1) := by decide +kernel
theorem d1_9 : decode prog_1_method_1_code 9 = .ok (.invokespecial 9, 3) := by decide +kernel
theorem d1_12 : decode prog_1_method_1_code 12 = .ok (.putfield 10, 3) := by decide +kernel
theorem d1_15 : decode prog_1_method_1_code 15 = .ok (.aload_n 0, 1) := by decide +kernel
theorem d1_16 : decode prog_1_method_1_code 16 = .ok (.iload_n 1, 1) := by decide +kernel
theorem d1_17 : decode prog_1_method_1_code 17 = .ok (.putfield 16, 3) := by decide +kernel
theorem d1_20 : decode prog_1_method_1_code 20 = .ok (.return_, 1) := by decide +kernel
theorem d3_0 : decode jdk_38_method_2_code 0 = .ok (.aload_n 0, 1) := by decide +kernel
theorem d3_1 : decode jdk_38_method_2_code 1 = .ok (.invokespecial 1, 3) := by decide +kernel
theorem d3_4 : decode jdk_38_method_2_code 4 = .ok (.aload_n 0, 1) := by decide +kernel
theorem d3_5 : decode jdk_38_method_2_code 5 = .ok (.getstatic 39, 3) := by decide +kernel
theorem d3_8 : decode jdk_38_method_2_code 8 = .ok (.putfield 9, 3) := by decide +kernel
theorem d3_11 : decode jdk_38_method_2_code 11 = .ok (.return_, 1) := by decide +kernel
theorem d4_0 : decode jdk_39_method_1_code 0 = .ok (.aload_n 0, 1) := by decide +kernel
theorem d4_1 : decode jdk_39_method_1_code 1 = .ok (.invokespecial 1, 3) := by decide +kernel
theorem d4_4 : decode jdk_39_method_1_code 4 = .ok (.aload_n 0, 1) := by decide +kernel
theorem d4_5 : decode jdk_39_method_1_code 5 = .ok (.iconst 0, 1) := by decide +kernel
theorem d4_6 : decode jdk_39_method_1_code 6 = .ok (.putfield 7, 3) := by decide +kernel
theorem d4_9 : decode jdk_39_method_1_code 9 = .ok (.return_, 1) := by decide +kernel
theorem d5_0 : decode jdk_22_method_1_code 0 = .ok (.aload_n 0, 1) := by decide +kernel
theorem d5_1 : decode jdk_22_method_1_code 1 = .ok (.invokespecial 1, 3) := by decide +kernel
theorem d5_4 : decode jdk_22_method_1_code 4 = .ok (.return_, 1) := by decide +kernel
theorem d6_0 : decode prog_1_method_3_code 0 = .ok (.aload_n 0, 1) := by decide +kernel
theorem d6_1 : decode prog_1_method_3_code 1 = .ok (.getfield 27, 3) := by decide +kernel
theorem d6_4 : decode prog_1_method_3_code 4 = .ok (.ifnonnull 7, 3) := by decide +kernel
theorem d6_7 : decode prog_1_method_3_code 7 = .ok (.iconst 1, 1) := by decide +kernel
theorem d6_8 : decode prog_1_method_3_code 8 = .ok (.goto 4, 3) := by decide +kernel
theorem d6_11 : decode prog_1_method_3_code 11 = .ok (.iconst 0, 1) := by decide +kernel
theorem d6_12 : decode prog_1_method_3_code 12 = .ok (.ireturn, 1) := by decide +kernel
theorem d7_0 : decode prog_1_method_2_code 0 = .ok (.new 11, 3) := by decide +kernel
theorem d7_3 : decode prog_1_method_2_code 3 = .ok (.dup, 1) := by decide +kernel
theorem d7_4 : decode prog_1_method_2_code 4 = .ok (.iload_n 0, 1) := by decide +kernel
theorem d7_5 : decode prog_1_method_2_code 5 = .ok (.invokespecial 20, 3) := by decide +kernel
theorem d7_8 : decode prog_1_method_2_code 8 = .ok (.astore_n 1, 1) := by decide +kernel
theorem d7_9 : decode prog_1_method_2_code 9 = .ok (.aload_n 1, 1) := by decide +kernel
theorem d7_10 : decode prog_1_method_2_code 10 = .ok (.iload_n 0, 1) := by decide +kernel
theorem d7_11 : decode prog_1_method_2_code 11 = .ok (.invokestatic 23, 3) := by decide +kernel
theorem d7_14 : decode prog_1_method_2_code 14 = .ok (.putfield 27, 3) := by decide +kernel
theorem d7_17 : decode prog_1_method_2_code 17 = .ok (.iconst 0, 1) := by decide +kernel
theorem d7_18 : decode prog_1_method_2_code 18 = .ok (.istore_n 2, 1) := by decide +kernel
theorem d7_19 : decode prog_1_method_2_code 19 = .ok (.iload_n 2, 1) := by decide +kernel
theorem d7_20 : decode prog_1_method_2_code 20 = .ok (.iload_n 0, 1) := by decide +kernel
theorem d7_21 : decode prog_1_method_2_code 21 = .ok (.if_icmp .ge 31, 3) := by decide +kernel
theorem d7_24 : decode prog_1_method_2_code 24 = .ok (.iload_n 0, 1) := by decide +kernel
theorem d7_25 : decode prog_1_method_2_code 25 = .ok (.invokestatic 23, 3) := by decide +kernel
theorem d7_28 : decode prog_1_method_2_code 28 = .ok (.astore_n 3, 1) := by decide +kernel
theorem d7_29 : decode prog_1_method_2_code 29 = .ok (.aload_n 3, 1) := by decide +kernel
theorem d7_30 : decode prog_1_method_2_code 30 = .ok (.iload_n 2, 1) := by decide +kernel
theorem d7_31 : decode prog_1_method_2_code 31 = .ok (.getstatic 31, 3) := by decide +kernel
theorem d7_34 : decode prog_1_method_2_code 34 = .ok (.aastore, 1) := by decide +kernel
theorem d7_35 : decode prog_1_method_2_code 35 = .ok (.aload_n 1, 1) := by decide +kernel
theorem d7_36 : decode prog_1_method_2_code 36 = .ok (.getfield 10, 3) := by decide +kernel
theorem d7_39 : decode prog_1_method_2_code 39 = .ok (.aload_n 3, 1) := by decide +kernel
theorem d7_40 : decode prog_1_method_2_code 40 = .ok (.invokeinterface 37 2, 5) := by decide +kernel
theorem d7_45 : decode prog_1_method_2_code 45 = .ok (.pop, 1) := by decide +kernel
theorem d7_46 : decode prog_1_method_2_code 46 = .ok (.iinc 2 1, 3) := by decide +kernel
theorem d7_49 : decode prog_1_method_2_code 49 = .ok (.goto (-30), 3) := by decide +kernel
theorem d7_52 : decode prog_1_method_2_code 52 = .ok (.aload_n 1, 1) := by decide +kernel
theorem d7_53 : decode prog_1_method_2_code 53 = .ok (.areturn, 1) := by decide +kernel
theorem d8_0 : decode prog_1_method_12_code 0 = .ok (.iload_n 0, 1) := by decide +kernel
theorem d8_1 : decode prog_1_method_12_code 1 = .ok (.anewarray 32, 3) := by decide +kernel
theorem d8_4 : decode prog_1_method_12_code 4 = .ok (.astore_n 1, 1) := by decide +kernel
theorem d8_5 : decode prog_1_method_12_code 5 = .ok (.aload_n 1, 1) := by decide +kernel
theorem d8_6 : decode prog_1_method_12_code 6 = .ok (.getstatic 118, 3) := by decide +kernel
theorem d8_9 : decode prog_1_method_12_code 9 = .ok (.invokestatic 139, 3) := by decide +kernel
theorem d8_12 : decode prog_1_method_12_code 12 = .ok (.aload_n 1, 1) := by decide +kernel
theorem d8_13 : decode prog_1_method_12_code 13 = .ok (.areturn, 1) := by decide +kernel
theorem d9_0 : decode jdk_65_method_117_code 0 = .ok (.iconst 0, 1) := by decide +kernel
theorem d9_1 : decode jdk_65_method_117_code 1 = .ok (.istore_n 2, 1) := by decide +kernel
theorem d9_2 : decode jdk_65_method_117_code 2 = .ok (.aload_n 0, 1) := by decide +kernel
theorem d9_3 : decode jdk_65_method_117_code 3 = .ok (.arraylength, 1) := by decide +kernel
theorem d9_4 : decode jdk_65_method_117_code 4 = .ok (.istore_n 3, 1) := by decide +kernel
theorem d9_5 : decode jdk_65_method_117_code 5 = .ok (.iload_n 2, 1) := by decide +kernel
theorem d9_6 : decode jdk_65_method_117_code 6 = .ok (.iload_n 3, 1) := by decide +kernel
theorem d9_7 : decode jdk_65_method_117_code 7 = .ok (.if_icmp .ge 13, 3) := by decide +kernel
theorem d9_10 : decode jdk_65_method_117_code 10 = .ok (.aload_n 0, 1) := by decide +kernel
theorem d9_11 : decode jdk_65_method_117_code 11 = .ok (.iload_n 2, 1) := by decide +kernel
theorem d9_12 : decode jdk_65_method_117_code 12 = .ok (.aload_n 1, 1) := by decide +kernel
theorem d9_13 : decode jdk_65_method_117_code 13 = .ok (.aastore, 1) := by decide +kernel
theorem d9_14 : decode jdk_65_method_117_code 14 = .ok (.iinc 2 1, 3) := by decide +kernel
theorem d9_17 : decode jdk_65_method_117_code 17 = .ok (.goto (-12), 3) := by decide +kernel
theorem d9_20 : decode jdk_65_method_117_code 20 = .ok (.return_, 1) := by decide +kernel
theorem d10_0 : decode jdk_38_method_25_code 0 = .ok (.aload_n 0, 1) := by decide +kernel
theorem d10_1 : decode jdk_38_method_25_code 1 = .ok (.dup, 1) := by decide +kernel
theorem d10_2 : decode jdk_38_method_25_code 2 = .ok (.getfield 63, 3) := by decide +kernel
theorem d10_5 : decode jdk_38_method_25_code 5 = .ok (.iconst 1, 1) := by decide +kernel
theorem d10_6 : decode jdk_38_method_25_code 6 = .ok (.iadd, 1) := by decide +kernel
theorem d10_7 : decode jdk_38_method_25_code 7 = .ok (.putfield 63, 3) := by decide +kernel
theorem d10_10 : decode jdk_38_method_25_code 10 = .ok (.aload_n 0, 1) := by decide +kernel
theorem d10_11 : decode jdk_38_method_25_code 11 = .ok (.aload_n 1, 1) := by decide +kernel
theorem d10_12 : decode jdk_38_method_25_code 12 = .ok (.aload_n 0, 1) := by decide +kernel
theorem d10_13 : decode jdk_38_method_25_code 13 = .ok (.getfield 9, 3) := by decide +kernel
theorem d10_16 : decode jdk_38_method_25_code 16 = .ok (.aload_n 0, 1) := by decide +kernel
theorem d10_17 : decode jdk_38_method_25_code 17 = .ok (.getfield 48, 3) := by decide +kernel
theorem d10_20 : decode jdk_38_method_25_code 20 = .ok (.invokevirtual 131, 3) := by decide +kernel
theorem d10_23 : decode jdk_38_method_25_code 23 = .ok (.iconst 1, 1) := by decide +kernel
theorem d10_24 : decode jdk_38_method_25_code 24 = .ok (.ireturn, 1) := by decide +kernel
theorem d11_0 : decode jdk_38_method_24_code 0 = .ok (.iload_n 3, 1) := by decide +kernel
theorem d11_1 : decode jdk_38_method_24_code 1 = .ok (.aload_n 2, 1) := by decide +kernel
theorem d11_2 : decode jdk_38_method_24_code 2 = .ok (.arraylength, 1) := by decide +kernel
theorem d11_3 : decode jdk_38_method_24_code 3 = .ok (.if_icmp .ne 8, 3) := by decide +kernel
theorem d11_6 : decode jdk_38_method_24_code 6 = .ok (.aload_n 0, 1) := by decide +kernel
theorem d11_7 : decode jdk_38_method_24_code 7 = .ok (.invokevirtual 129, 3) := by decide +kernel
theorem d11_10 : decode jdk_38_method_24_code 10 = .ok (.astore_n 2, 1) := by decide +kernel
theorem d11_11 : decode jdk_38_method_24_code 11 = .ok (.aload_n 2, 1) := by decide +kernel
theorem d11_12 : decode jdk_38_method_24_code 12 = .ok (.iload_n 3, 1) := by decide +kernel
theorem d11_13 : decode jdk_38_method_24_code 13 = .ok (.aload_n 1, 1) := by decide +kernel
theorem d11_14 : decode jdk_38_method_24_code 14 = .ok (.aastore, 1) := by decide +kernel
theorem d11_15 : decode jdk_38_method_24_code 15 = .ok (.aload_n 0, 1) := by decide +kernel
theorem d11_16 : decode jdk_38_method_24_code 16 = .ok (.iload_n 3, 1) := by decide +kernel
theorem d11_17 : decode jdk_38_method_24_code 17 = .ok (.iconst 1, 1) := by decide +kernel
theorem d11_18 : decode jdk_38_method_24_code 18 = .ok (.iadd, 1) := by decide +kernel
theorem d11_19 : decode jdk_38_method_24_code 19 = .ok (.putfield 48, 3) := by decide +kernel
theorem d11_22 : decode jdk_38_method_24_code 22 = .ok (.return_, 1) := by decide +kernel
theorem d12_0 : decode jdk_38_method_7_code 0 = .ok (.aload_n 0, 1) := by decide +kernel
theorem d12_1 : decode jdk_38_method_7_code 1 = .ok (.aload_n 0, 1) := by decide +kernel
theorem d12_2 : decode jdk_38_method_7_code 2 = .ok (.getfield 48, 3) := by decide +kernel
theorem d12_5 : decode jdk_38_method_7_code 5 = .ok (.iconst 1, 1) := by decide +kernel
theorem d12_6 : decode jdk_38_method_7_code 6 = .ok (.iadd, 1) := by decide +kernel
theorem d12_7 : decode jdk_38_method_7_code 7 = .ok (.invokevirtual 69, 3) := by decide +kernel
theorem d12_10 : decode jdk_38_method_7_code 10 = .ok (.areturn, 1) := by decide +kernel
theorem d13_0 : decode jdk_38_method_6_code 0 = .ok (.aload_n 0, 1) := by decide +kernel
theorem d13_1 : decode jdk_38_method_6_code 1 = .ok (.getfield 9, 3) := by decide +kernel
theorem d13_4 : decode jdk_38_method_6_code 4 = .ok (.arraylength, 1) := by decide +kernel
theorem d13_5 : decode jdk_38_method_6_code 5 = .ok (.istore_n 2, 1) := by decide +kernel
theorem d13_6 : decode jdk_38_method_6_code 6 = .ok (.iload_n 2, 1) := by decide +kernel
theorem d13_7 : decode jdk_38_method_6_code 7 = .ok (.ifCond .gt 13, 3) := by decide +kernel
theorem d13_10 : decode jdk_38_method_6_code 10 = .ok (.aload_n 0, 1) := by decide +kernel
theorem d13_11 : decode jdk_38_method_6_code 11 = .ok (.getfield 9, 3) := by decide +kernel
theorem d13_14 : decode jdk_38_method_6_code 14 = .ok (.getstatic 39, 3) := by decide +kernel
theorem d13_17 : decode jdk_38_method_6_code 17 = .ok (.if_acmp .eq 28, 3) := by decide +kernel
theorem d13_20 : decode jdk_38_method_6_code 20 = .ok (.iload_n 2, 1) := by decide +kernel
theorem d13_21 : decode jdk_38_method_6_code 21 = .ok (.iload_n 1, 1) := by decide +kernel
theorem d13_22 : decode jdk_38_method_6_code 22 = .ok (.iload_n 2, 1) := by decide +kernel
theorem d13_23 : decode jdk_38_method_6_code 23 = .ok (.isub, 1) := by decide +kernel
theorem d13_24 : decode jdk_38_method_6_code 24 = .ok (.iload_n 2, 1) := by decide +kernel
theorem d13_25 : decode jdk_38_method_6_code 25 = .ok (.iconst 1, 1) := by decide +kernel
theorem d13_26 : decode jdk_38_method_6_code 26 = .ok (.ishr, 1) := by decide +kernel
theorem d13_27 : decode jdk_38_method_6_code 27 = .ok (.invokestatic 73, 3) := by decide +kernel
theorem d13_30 : decode jdk_38_method_6_code 30 = .ok (.istore_n 3, 1) := by decide +kernel
theorem d13_31 : decode jdk_38_method_6_code 31 = .ok (.aload_n 0, 1) := by decide +kernel
theorem d13_32 : decode jdk_38_method_6_code 32 = .ok (.aload_n 0, 1) := by decide +kernel
theorem d13_33 : decode jdk_38_method_6_code 33 = .ok (.getfield 9, 3) := by decide +kernel
theorem d13_36 : decode jdk_38_method_6_code 36 = .ok (.iload_n 3, 1) := by decide +kernel
theorem d13_37 : decode jdk_38_method_6_code 37 = .ok (.invokestatic 66, 3) := by decide +kernel
theorem d13_40 : decode jdk_38_method_6_code 40 = .ok (.dup_x1, 1) := by decide +kernel
theorem d13_41 : decode jdk_38_method_6_code 41 = .ok (.putfield 9, 3) := by decide +kernel
theorem d13_44 : decode jdk_38_method_6_code 44 = .ok (.areturn, 1) := by decide +kernel
theorem d13_45 : decode jdk_38_method_6_code 45 = .ok (.aload_n 0, 1) := by decide +kernel
theorem d13_46 : decode jdk_38_method_6_code 46 = .ok (.bipush 10, 2) := by decide +kernel
theorem d13_48 : decode jdk_38_method_6_code 48 = .ok (.iload_n 1, 1) := by decide +kernel
theorem d13_49 : decode jdk_38_method_6_code 49 = .ok (.invokestatic 79, 3) := by decide +kernel
theorem d13_52 : decode jdk_38_method_6_code 52 = .ok (.anewarray 7, 3) := by decide +kernel
theorem d13_55 : decode jdk_38_method_6_code 55 = .ok (.dup_x1, 1) := by decide +kernel
theorem d13_56 : decode jdk_38_method_6_code 56 = .ok (.putfield 9, 3) := by decide +kernel
theorem d13_59 : decode jdk_38_method_6_code 59 = .ok (.areturn, 1) := by decide +kernel
theorem d14_0 : decode jdk_29_method_65_code 0 = .ok (.iload_n 0, 1) := by decide +kernel
theorem d14_1 : decode jdk_29_method_65_code 1 = .ok (.iload_n 1, 1) := by decide +kernel
theorem d14_2 : decode jdk_29_method_65_code 2 = .ok (.if_icmp .lt 7, 3) := by decide +kernel
theorem d14_5 : decode jdk_29_method_65_code 5 = .ok (.iload_n 0, 1) := by decide +kernel
theorem d14_6 : decode jdk_29_method_65_code 6 = .ok (.goto 4, 3) := by decide +kernel
theorem d14_9 : decode jdk_29_method_65_code 9 = .ok (.iload_n 1, 1) := by decide +kernel
theorem d14_10 : decode jdk_29_method_65_code 10 = .ok (.ireturn, 1) := by decide +kernel
theorem d16_0 : decode jdk_38_method_8_code 0 = .ok (.aload_n 0, 1) := by decide +kernel
theorem d16_1 : decode jdk_38_method_8_code 1 = .ok (.getfield 48, 3) := by decide +kernel
theorem d16_4 : decode jdk_38_method_8_code 4 = .ok (.ireturn, 1) := by decide +kernel
theorem d17_0 : decode jdk_38_method_17_code 0 = .ok (.aload_n 1, 1) := by decide +kernel
theorem d17_1 : decode jdk_38_method_17_code 1 = .ok (.arraylength, 1) := by decide +kernel
theorem d17_2 : decode jdk_38_method_17_code 2 = .ok (.aload_n 0, 1) := by decide +kernel
theorem d17_3 : decode jdk_38_method_17_code 3 = .ok (.getfield 48, 3) := by decide +kernel
theorem d17_6 : decode jdk_38_method_17_code 6 = .ok (.if_icmp .ge 19, 3) := by decide +kernel
theorem d17_9 : decode jdk_38_method_17_code 9 = .ok (.aload_n 0, 1) := by decide +kernel
theorem d17_10 : decode jdk_38_method_17_code 10 = .ok (.getfield 9, 3) := by decide +kernel
theorem d17_13 : decode jdk_38_method_17_code 13 = .ok (.aload_n 0, 1) := by decide +kernel
theorem d17_14 : decode jdk_38_method_17_code 14 = .ok (.getfield 48, 3) := by decide +kernel
theorem d17_17 : decode jdk_38_method_17_code 17 = .ok (.aload_n 1, 1) := by decide +kernel
theorem d17_18 : decode jdk_38_method_17_code 18 = .ok (.invokevirtual 111, 3) := by decide +kernel
theorem d17_21 : decode jdk_38_method_17_code 21 = .ok (.invokestatic 57, 3) := by decide +kernel
theorem d17_24 : decode jdk_38_method_17_code 24 = .ok (.areturn, 1) := by decide +kernel
theorem d17_25 : decode jdk_38_method_17_code 25 = .ok (.aload_n 0, 1) := by decide +kernel
theorem d17_26 : decode jdk_38_method_17_code 26 = .ok (.getfield 9, 3) := by decide +kernel
theorem d17_29 : decode jdk_38_method_17_code 29 = .ok (.iconst 0, 1) := by decide +kernel
theorem d17_30 : decode jdk_38_method_17_code 30 = .ok (.aload_n 1, 1) := by decide +kernel
theorem d17_31 : decode jdk_38_method_17_code 31 = .ok (.iconst 0, 1) := by decide +kernel
theorem d17_32 : decode jdk_38_method_17_code 32 = .ok (.aload_n 0, 1) := by decide +kernel
theorem d17_33 : decode jdk_38_method_17_code 33 = .ok (.getfield 48, 3) := by decide +kernel
theorem d17_36 : decode jdk_38_method_17_code 36 = .ok (.invokestatic 112, 3) := by decide +kernel
theorem d17_39 : decode jdk_38_method_17_code 39 = .ok (.aload_n 1, 1) := by decide +kernel
theorem d17_40 : decode jdk_38_method_17_code 40 = .ok (.arraylength, 1) := by decide +kernel
theorem d17_41 : decode jdk_38_method_17_code 41 = .ok (.aload_n 0, 1) := by decide +kernel
theorem d17_42 : decode jdk_38_method_17_code 42 = .ok (.getfield 48, 3) := by decide +kernel
theorem d17_45 : decode jdk_38_method_17_code 45 = .ok (.if_icmp .le 10, 3) := by decide +kernel
theorem d17_48 : decode jdk_38_method_17_code 48 = .ok (.aload_n 1, 1) := by decide +kernel
theorem d17_49 : decode jdk_38_method_17_code 49 = .ok (.aload_n 0, 1) := by decide +kernel
theorem d17_50 : decode jdk_38_method_17_code 50 = .ok (.getfield 48, 3) := by decide +kernel
theorem d17_53 : decode jdk_38_method_17_code 53 = .ok (.aconst_null, 1) := by decide +kernel
theorem d17_54 : decode jdk_38_method_17_code 54 = .ok (.aastore, 1) := by decide +kernel
theorem d17_55 : decode jdk_38_method_17_code 55 = .ok (.aload_n 1, 1) := by decide +kernel
theorem d17_56 : decode jdk_38_method_17_code 56 = .ok (.areturn, 1) := by decide +kernel
theorem d18_0 : decode jdk_38_method_55_code 0 = .ok (.new 267, 3) := by decide +kernel
theorem d18_3 : decode jdk_38_method_55_code 3 = .ok (.dup, 1) := by decide +kernel
theorem d18_4 : decode jdk_38_method_55_code 4 = .ok (.aload_n 0, 1) := by decide +kernel
theorem d18_5 : decode jdk_38_method_55_code 5 = .ok (.invokespecial 269, 3) := by decide +kernel
theorem d18_8 : decode jdk_38_method_55_code 8 = .ok (.areturn, 1) := by decide +kernel
theorem d19_0 : decode jdk_49_method_1_code 0 = .ok (.aload_n 0, 1) := by decide +kernel
theorem d19_1 : decode jdk_49_method_1_code 1 = .ok (.aload_n 1, 1) := by decide +kernel
theorem d19_2 : decode jdk_49_method_1_code 2 = .ok (.putfield 1, 3) := by decide +kernel
theorem d19_5 : decode jdk_49_method_1_code 5 = .ok (.aload_n 0, 1) := by decide +kernel
theorem d19_6 : decode jdk_49_method_1_code 6 = .ok (.invokespecial 7, 3) := by decide +kernel
theorem d19_9 : decode jdk_49_method_1_code 9 = .ok (.aload_n 0, 1) := by decide +kernel
theorem d19_10 : decode jdk_49_method_1_code 10 = .ok (.iconst (-1), 1) := by decide +kernel
theorem d19_11 : decode jdk_49_method_1_code 11 = .ok (.putfield 13, 3) := by decide +kernel
theorem d19_14 : decode jdk_49_method_1_code 14 = .ok (.aload_n 0, 1) := by decide +kernel
theorem d19_15 : decode jdk_49_method_1_code 15 = .ok (.aload_n 0, 1) := by decide +kernel
theorem d19_16 : decode jdk_49_method_1_code 16 = .ok (.getfield 1, 3) := by decide +kernel
theorem d19_19 : decode jdk_49_method_1_code 19 = .ok (.getfield 17, 3) := by decide +kernel
theorem d19_22 : decode jdk_49_method_1_code 22 = .ok (.putfield 22, 3) := by decide +kernel
theorem d19_25 : decode jdk_49_method_1_code 25 = .ok (.return_, 1) := by decide +kernel
theorem d20_0 : decode jdk_49_method_2_code 0 = .ok (.aload_n 0, 1) := by decide +kernel
theorem d20_1 : decode jdk_49_method_2_code 1 = .ok (.getfield 25, 3) := by decide +kernel
theorem d20_4 : decode jdk_49_method_2_code 4 = .ok (.aload_n 0, 1) := by decide +kernel
theorem d20_5 : decode jdk_49_method_2_code 5 = .ok (.getfield 1, 3) := by decide +kernel
theorem d20_8 : decode jdk_49_method_2_code 8 = .ok (.getfield 28, 3) := by decide +kernel
theorem d20_11 : decode jdk_49_method_2_code 11 = .ok (.if_icmp .eq 7, 3) := by decide +kernel
theorem d20_14 : decode jdk_49_method_2_code 14 = .ok (.iconst 1, 1) := by decide +kernel
theorem d20_15 : decode jdk_49_method_2_code 15 = .ok (.goto 4, 3) := by decide +kernel
theorem d20_18 : decode jdk_49_method_2_code 18 = .ok (.iconst 0, 1) := by decide +kernel
theorem d20_19 : decode jdk_49_method_2_code 19 = .ok (.ireturn, 1) := by decide +kernel
theorem d21_0 : decode prog_1_method_9_code 0 = .ok (.iconst 0, 1) := by decide +kernel
theorem d21_1 : decode prog_1_method_9_code 1 = .ok (.istore_n 1, 1) := by decide +kernel
theorem d21_2 : decode prog_1_method_9_code 2 = .ok (.iload_n 1, 1) := by decide +kernel
theorem d21_3 : decode prog_1_method_9_code 3 = .ok (.aload_n 0, 1) := by decide +kernel
theorem d21_4 : decode prog_1_method_9_code 4 = .ok (.arraylength, 1) := by decide +kernel
theorem d21_5 : decode prog_1_method_9_code 5 = .ok (.if_icmp .ge 18, 3) := by decide +kernel
theorem d21_8 : decode prog_1_method_9_code 8 = .ok (.aload_n 0, 1) := by decide +kernel
theorem d21_9 : decode prog_1_method_9_code 9 = .ok (.iload_n 1, 1) := by decide +kernel
theorem d21_10 : decode prog_1_method_9_code 10 = .ok (.aaload, 1) := by decide +kernel
theorem d21_11 : decode prog_1_method_9_code 11 = .ok (.invokevirtual 133, 3) := by decide +kernel
theorem d21_14 : decode prog_1_method_9_code 14 = .ok (.ifCond .ne 9, 3) := by decide +kernel
theorem d21_17 : decode prog_1_method_9_code 17 = .ok (.iinc 1 1, 3) := by decide +kernel
theorem d21_20 : decode prog_1_method_9_code 20 = .ok (.goto (-18), 3) := by decide +kernel
theorem d21_23 : decode prog_1_method_9_code 23 = .ok (.iload_n 1, 1) := by decide +kernel
theorem d21_24 : decode prog_1_method_9_code 24 = .ok (.aload_n 0, 1) := by decide +kernel
theorem d21_25 : decode prog_1_method_9_code 25 = .ok (.arraylength, 1) := by decide +kernel
theorem d21_26 : decode prog_1_method_9_code 26 = .ok (.if_icmp .ge 7, 3) := by decide +kernel
theorem d21_29 : decode prog_1_method_9_code 29 = .ok (.iload_n 1, 1) := by decide +kernel
theorem d21_30 : decode prog_1_method_9_code 30 = .ok (.goto 4, 3) := by decide +kernel
theorem d21_33 : decode prog_1_method_9_code 33 = .ok (.iconst (-1), 1) := by decide +kernel
theorem d21_34 : decode prog_1_method_9_code 34 = .ok (.ireturn, 1) := by decide +kernel
theorem d15_0 : decode prog_1_method_5_code 0 = .ok (.aload_n 1, 1) := by decide +kernel
theorem d15_1 : decode prog_1_method_5_code 1 = .ok (.invokeinterface 43 1, 5) := by decide +kernel
theorem d15_6 : decode prog_1_method_5_code 6 = .ok (.aload_n 0, 1) := by decide +kernel
theorem d15_7 : decode prog_1_method_5_code 7 = .ok (.getfield 16, 3) := by decide +kernel
theorem d15_10 : decode prog_1_method_5_code 10 = .ok (.if_icmp .eq 26, 3) := by decide +kernel
theorem d15_13 : decode prog_1_method_5_code 13 = .ok (.new 47, 3) := by decide +kernel
theorem d15_16 : decode prog_1_method_5_code 16 = .ok (.dup, 1) := by decide +kernel
theorem d15_17 : decode prog_1_method_5_code 17 = .ok (.aload_n 1, 1) := by decide +kernel
theorem d15_18 : decode prog_1_method_5_code 18 = .ok (.invokeinterface 43 1, 5) := by decide +kernel
theorem d15_23 : decode prog_1_method_5_code 23 = .ok (.aload_n 0, 1) := by decide +kernel
theorem d15_24 : decode prog_1_method_5_code 24 = .ok (.getfield 16, 3) := by decide +kernel
theorem d15_32 : decode prog_1_method_5_code 32 = .ok (.invokespecial 53, 3) := by decide +kernel
theorem d15_35 : decode prog_1_method_5_code 35 = .ok (.athrow, 1) := by decide +kernel
theorem d15_36 : decode prog_1_method_5_code 36 = .ok (.aload_n 0, 1) := by decide +kernel
theorem d15_37 : decode prog_1_method_5_code 37 = .ok (.getfield 27, 3) := by decide +kernel
theorem d15_40 : decode prog_1_method_5_code 40 = .ok (.ifnonnull 25, 3) := by decide +kernel
theorem d15_43 : decode prog_1_method_5_code 43 = .ok (.aload_n 0, 1) := by decide +kernel
theorem d15_44 : decode prog_1_method_5_code 44 = .ok (.aload_n 1, 1) := by decide +kernel
theorem d15_45 : decode prog_1_method_5_code 45 = .ok (.iconst 0, 1) := by decide +kernel
theorem d15_46 : decode prog_1_method_5_code 46 = .ok (.anewarray 32, 3) := by decide +kernel
theorem d15_49 : decode prog_1_method_5_code 49 = .ok (.invokeinterface 56 2, 5) := by decide +kernel
theorem d15_54 : decode prog_1_method_5_code 54 = .ok (.checkcast 60, 3) := by decide +kernel
theorem d15_57 : decode prog_1_method_5_code 57 = .ok (.putfield 27, 3) := by decide +kernel
theorem d15_60 : decode prog_1_method_5_code 60 = .ok (.iconst 1, 1) := by decide +kernel
theorem d15_61 : decode prog_1_method_5_code 61 = .ok (.istore_n 2, 1) := by decide +kernel
theorem d15_62 : decode prog_1_method_5_code 62 = .ok (.goto 127, 3) := by decide +kernel
theorem d15_65 : decode prog_1_method_5_code 65 = .ok (.aload_n 0, 1) := by decide +kernel
theorem d15_66 : decode prog_1_method_5_code 66 = .ok (.getfield 16, 3) := by decide +kernel
theorem d15_69 : decode prog_1_method_5_code 69 = .ok (.anewarray 32, 3) := by decide +kernel
theorem d15_72 : decode prog_1_method_5_code 72 = .ok (.astore_n 3, 1) := by decide +kernel
theorem d15_73 : decode prog_1_method_5_code 73 = .ok (.iconst 0, 1) := by decide +kernel
theorem d15_74 : decode prog_1_method_5_code 74 = .ok (.istore 4, 2) := by decide +kernel
theorem d15_76 : decode prog_1_method_5_code 76 = .ok (.iload 4, 2) := by decide +kernel
theorem d15_78 : decode prog_1_method_5_code 78 = .ok (.aload_n 0, 1) := by decide +kernel
theorem d15_79 : decode prog_1_method_5_code 79 = .ok (.getfield 16, 3) := by decide +kernel
theorem d15_82 : decode prog_1_method_5_code 82 = .ok (.if_icmp .ge 34, 3) := by decide +kernel
theorem d15_85 : decode prog_1_method_5_code 85 = .ok (.aload_n 3, 1) := by decide +kernel
theorem d15_86 : decode prog_1_method_5_code 86 = .ok (.iload 4, 2) := by decide +kernel
theorem d15_88 : decode prog_1_method_5_code 88 = .ok (.aload_n 1, 1) := by decide +kernel
theorem d15_89 : decode prog_1_method_5_code 89 = .ok (.iload 4, 2) := by decide +kernel
theorem d15_91 : decode prog_1_method_5_code 91 = .ok (.invokeinterface 61 2, 5) := by decide +kernel
theorem d15_96 : decode prog_1_method_5_code 96 = .ok (.checkcast 32, 3) := by decide +kernel
theorem d15_99 : decode prog_1_method_5_code 99 = .ok (.aload_n 0, 1) := by decide +kernel
theorem d15_100 : decode prog_1_method_5_code 100 = .ok (.getfield 27, 3) := by decide +kernel
theorem d15_103 : decode prog_1_method_5_code 103 = .ok (.iload 4, 2) := by decide +kernel
theorem d15_105 : decode prog_1_method_5_code 105 = .ok (.aaload, 1) := by decide +kernel
theorem d15_106 : decode prog_1_method_5_code 106 = .ok (.invokevirtual 65, 3) := by decide +kernel
theorem d15_109 : decode prog_1_method_5_code 109 = .ok (.aastore, 1) := by decide +kernel
theorem d15_110 : decode prog_1_method_5_code 110 = .ok (.iinc 4 1, 3) := by decide +kernel
theorem d15_113 : decode prog_1_method_5_code 113 = .ok (.goto (-37), 3) := by decide +kernel
theorem d15_116 : decode prog_1_method_5_code 116 = .ok (.aload_n 0, 1) := by decide +kernel
theorem d15_117 : decode prog_1_method_5_code 117 = .ok (.getfield 10, 3) := by decide +kernel
theorem d15_120 : decode prog_1_method_5_code 120 = .ok (.invokeinterface 69 1, 5) := by decide +kernel
theorem d15_125 : decode prog_1_method_5_code 125 = .ok (.astore 4, 2) := by decide +kernel
theorem d15_127 : decode prog_1_method_5_code 127 = .ok (.aload 4, 2) := by decide +kernel
theorem d15_129 : decode prog_1_method_5_code 129 = .ok (.invokeinterface 73 1, 5) := by decide +kernel
theorem d15_134 : decode prog_1_method_5_code 134 = .ok (.ifCond .eq 30, 3) := by decide +kernel
theorem d15_137 : decode prog_1_method_5_code 137 = .ok (.aload 4, 2) := by decide +kernel
theorem d15_139 : decode prog_1_method_5_code 139 = .ok (.invokeinterface 79 1, 5) := by decide +kernel
theorem d15_144 : decode prog_1_method_5_code 144 = .ok (.checkcast 60, 3) := by decide +kernel
theorem d15_147 : decode prog_1_method_5_code 147 = .ok (.astore 5, 2) := by decide +kernel
theorem d15_149 : decode prog_1_method_5_code 149 = .ok (.aload_n 3, 1) := by decide +kernel
theorem d15_150 : decode prog_1_method_5_code 150 = .ok (.aload 5, 2) := by decide +kernel
theorem d15_152 : decode prog_1_method_5_code 152 = .ok (.aload 5, 2) := by decide +kernel
theorem d15_154 : decode prog_1_method_5_code 154 = .ok (.invokestatic 83, 3) := by decide +kernel
theorem d15_157 : decode prog_1_method_5_code 157 = .ok (.invokestatic 87, 3) := by decide +kernel
theorem d15_160 : decode prog_1_method_5_code 160 = .ok (.astore_n 3, 1) := by decide +kernel
theorem d15_161 : decode prog_1_method_5_code 161 = .ok (.goto (-34), 3) := by decide +kernel
theorem d15_164 : decode prog_1_method_5_code 164 = .ok (.aload_n 3, 1) := by decide +kernel
theorem d15_165 : decode prog_1_method_5_code 165 = .ok (.invokestatic 83, 3) := by decide +kernel
theorem d15_168 : decode prog_1_method_5_code 168 = .ok (.ifCond .lt 7, 3) := by decide +kernel
theorem d15_171 : decode prog_1_method_5_code 171 = .ok (.iconst 1, 1) := by decide +kernel
theorem d15_172 : decode prog_1_method_5_code 172 = .ok (.goto 4, 3) := by decide +kernel
theorem d15_175 : decode prog_1_method_5_code 175 = .ok (.iconst 0, 1) := by decide +kernel
theorem d15_176 : decode prog_1_method_5_code 176 = .ok (.istore_n 2, 1) := by decide +kernel
theorem d15_177 : decode prog_1_method_5_code 177 = .ok (.iload_n 2, 1) := by decide +kernel
theorem d15_178 : decode prog_1_method_5_code 178 = .ok (.ifCond .eq 11, 3) := by decide +kernel
theorem d15_181 : decode prog_1_method_5_code 181 = .ok (.aload_n 0, 1) := by decide +kernel
theorem d15_182 : decode prog_1_method_5_code 182 = .ok (.aload_n 3, 1) := by decide +kernel
theorem d15_183 : decode prog_1_method_5_code 183 = .ok (.invokestatic 91, 3) := by decide +kernel
theorem d15_186 : decode prog_1_method_5_code 186 = .ok (.invokevirtual 95, 3) := by decide +kernel
theorem d15_189 : decode prog_1_method_5_code 189 = .ok (.iload_n 2, 1) := by decide +kernel
theorem d15_190 : decode prog_1_method_5_code 190 = .ok (.ireturn, 1) := by decide +kernel
theorem own_cap {n : Int32} (h0 : ¬ n < 0) (hle7 : ¬ (7 : Int32) < n) : n.toNatClampNeg ≤ 7 := by
  have e := nat_of h0
  rw [Int32.lt_iff_toInt_lt] at hle7
  have : (7 : Int32).toInt = 7 := by decide
  omega
theorem own_w0 (x : Int32) : ¬ (x &&& (7 : Int32)) < 0 := by
  rw [Int32.lt_iff_toInt_lt]
  have h1 := c_and x 7 (by decide)
  have : (0 : Int32).toInt = 0 := by decide
  omega
theorem own_w7 (x : Int32) : ¬ (7 : Int32) < (x &&& (7 : Int32)) := by
  rw [Int32.lt_iff_toInt_lt]
  have h1 := c_and x 7 (by decide)
  omega
theorem own_i10 {i : Int32} (h : i = 1 ∨ i = 2 ∨ i = 3 ∨ i = 4 ∨ i = 5 ∨ i = 6) : ¬ i = (10 : Int32) := by rcases h with rfl | rfl | rfl | rfl | rfl | rfl <;> decide
theorem own_iin {i : Int32} (h : i = 1 ∨ i = 2 ∨ i = 3 ∨ i = 4 ∨ i = 5 ∨ i = 6) : ¬ i < 0 ∧ i < (10 : Int32) := by rcases h with rfl | rfl | rfl | rfl | rfl | rfl <;> decide
theorem pd___V : parseMethodDescriptor "()V" = some ⟨[], none⟩ := by decide +kernel
theorem pd___Ljava_lang_Object_Ljava_lang_Object__V : parseMethodDescriptor "([Ljava/lang/Object;Ljava/lang/Object;)V" = some ⟨[(.array (.object "java/lang/Object")), (.object "java/lang/Object")], none⟩ := by decide +kernel
theorem pd__II_I : parseMethodDescriptor "(II)I" = some ⟨[.int, .int], some .int⟩ := by decide +kernel
theorem pd__I__Ljava_lang_Object_ : parseMethodDescriptor "(I)[Ljava/lang/Object;" = some ⟨[.int], some (.array (.object "java/lang/Object"))⟩ := by decide +kernel
theorem pd____Ljava_lang_Object_ : parseMethodDescriptor "()[Ljava/lang/Object;" = some ⟨[], some (.array (.object "java/lang/Object"))⟩ := by decide +kernel
theorem pd__Ljava_lang_Object__Ljava_lang_Object_I_V : parseMethodDescriptor "(Ljava/lang/Object;[Ljava/lang/Object;I)V" = some ⟨[(.object "java/lang/Object"), (.array (.object "java/lang/Object")), .int], none⟩ := by decide +kernel
theorem pd__I_V : parseMethodDescriptor "(I)V" = some ⟨[.int], none⟩ := by decide +kernel
theorem pd__I__Ljava_math_BigInteger_ : parseMethodDescriptor "(I)[Ljava/math/BigInteger;" = some ⟨[.int], some (.array (.object "java/math/BigInteger"))⟩ := by decide +kernel
theorem pd__Ljava_lang_Object__Z : parseMethodDescriptor "(Ljava/lang/Object;)Z" = some ⟨[(.object "java/lang/Object")], some .boolean⟩ := by decide +kernel
theorem pd__Ljava_util_ArrayList__V : parseMethodDescriptor "(Ljava/util/ArrayList;)V" = some ⟨[(.object "java/util/ArrayList")], none⟩ := by decide +kernel
theorem pd___I : parseMethodDescriptor "()I" = some ⟨[], some .int⟩ := by decide +kernel
theorem pd___Ljava_lang_Object___Ljava_lang_Object_ : parseMethodDescriptor "([Ljava/lang/Object;)[Ljava/lang/Object;" = some ⟨[(.array (.object "java/lang/Object"))], some (.array (.object "java/lang/Object"))⟩ := by decide +kernel
theorem pd___Ljava_util_Iterator_ : parseMethodDescriptor "()Ljava/util/Iterator;" = some ⟨[], some (.object "java/util/Iterator")⟩ := by decide +kernel
theorem pd___Z : parseMethodDescriptor "()Z" = some ⟨[], some .boolean⟩ := by decide +kernel
theorem pd___Ljava_math_BigInteger__I : parseMethodDescriptor "([Ljava/math/BigInteger;)I" = some ⟨[(.array (.object "java/math/BigInteger"))], some .int⟩ := by decide +kernel
theorem pd__I_Lcom_example_condense_condense_analysis_AffineHull_ : parseMethodDescriptor "(I)Lcom/example/condense/condense/analysis/AffineHull;" = some ⟨[.int], some (.object "com/example/condense/condense/analysis/AffineHull")⟩ := by decide +kernel
theorem pd__Ljava_util_List__Z : parseMethodDescriptor "(Ljava/util/List;)Z" = some ⟨[(.object "java/util/List")], some .boolean⟩ := by decide +kernel
def Q5 (Z : State) (a : Addr) (h0 : Heap) (n0 : Nat) (v : Option Value) (h : Heap) (L : List Loc) : Prop := v = none ∧ Fr n0 L ∧ h = h0
set_option maxRecDepth 65536 in
set_option maxHeartbeats 40000000 in
theorem rm5 (l : Launch) (Z : State) (a0 : Array Value) (hw : ∀ d ∈ tables_1, d.before a0 Z = true) (ws : List Jvm.Cond) (a : Addr) (h0 : Heap) (n0 : Nat) (Z0 : n0 ≤ h0.size)  :
    MetFree l (⟨"java/util/AbstractCollection", "<init>", "()V"⟩ : MethodName) (head1 (Jvm.Cond.code (⟨"java/util/AbstractCollection", "<init>", "()V"⟩ : MethodName) jdk_22_method_1_code 1 none :: ws) ({ frames := 1, cells := 0, slots := 0, locals := 12 } : Room)) (fun xs U => xs = #[(.ref a)] ∧ Z.Warmed39 U.vm ∧ U.heap = h0) (fun _ _ _ _ _ => True) (fun _ U o U' => ∃ v L, o = .returned v ∧ Q5 Z a h0 n0 v U'.heap L ∧ FrameEnd U o U' L ({ frames := 1, cells := 0, slots := 0, locals := 12 } : Room).cells ({ frames := 1, cells := 0, slots := 0, locals := 12 } : Room).slots) := by
  refine MetFree.of_bodySF (plainFor_of_name pn_java_util_AbstractCollection) hisR ?_
  intro p e s m args below meth c s₁ Bd hml0 hP hK
  obtain ⟨rfl, hZ, hh⟩ := hP
  have hx := Bd.exec
  have hby := Bd.bytes
  have hml : c.maxLocals = 1 := hml0
  have hown : s.vm.findClass "java/util/AbstractCollection" = some m.cls := findClass_of_methodNamed Bd.named
  have hnm := (name_of_methodNamed Bd.named Bd.method).1
  have X0 : Stand p l e ({ frames := 1, cells := 0, slots := 0, locals := 12 } : Room) s m #[(.ref a)] below meth c s₁ [] 0 0 := Stand.of_body Bd
  have e0 : s₁.heap = h0 := by rw [← hh, Bd.state]; rfl
  have N0 := Fr.nil n0
  change own_Fin p.tables e below (fun s₂ o => ∃ v L, o = .returned v ∧ Q5 Z a h0 n0 v s₂.heap L ∧ FrameEnd s o s₂ L ({ frames := 1, cells := 0, slots := 0, locals := 12 } : Room).cells ({ frames := 1, cells := 0, slots := 0, locals := 12 } : Room).slots) (s₁.setTop (entryFrame m #[(.ref a)] 1))
  refine own_st (fun t k => castTop (show entryFrame m #[(.ref a)] 1 = mkF m 0 #[.val (.ref a)] [] by first | (simp [entryFrame, mkF, argsToLocals, Value.category, maxLocals]; done) | rfl) k) ?_
  show own_Fin p.tables e below _ (s₁.setTop (mkF m 0 #[.val (.ref a)] []))
  refine own_st (fun t k => XS.aloadN X0.here hx rfl (hb hby d5_0) rfl rfl k) ?_
  show own_Fin p.tables e below _ (s₁.setTop (mkF m 1 #[.val (.ref a)] [(.ref a)]))
  obtain ⟨T1, X1, e1, st1⟩ := initO X0 hx hZ hown (hw _ (List.mem_of_getElem? (i := 27) rfl)) (hw _ (List.mem_of_getElem? (i := 7) rfl)) (hw _ (List.mem_of_getElem? (i := 8) rfl)) e0 (g := (mkF m 1 #[.val (.ref a)] [(.ref a)])) rfl (by rw [hml]; rfl) rfl (hb hby d5_1) (by decide) (W := 0) (by show 2 * 0 + _ ≤ _; exact Nat.le_of_eq rfl) (by decide)
  refine own_st st1 ?_
  show own_Fin p.tables e below _ (T1.setTop (mkF m 4 #[.val (.ref a)] []))
  obtain ⟨fs, hr, hrun, hended, hW, hsame⟩ := X1.leave (v := none) (fun _ => rfl)
  refine ⟨_, _, X1.returnOut hx Bd.returns (hb hby d5_4) hr, hrun, hended, _, _, rfl, ?_, ⟨_, rfl⟩, hW, hsame.mono (by decide) (by decide)⟩
  show Q5 Z a h0 n0 _ T1.heap _
  rw [e1]
  exact ⟨rfl, N0, rfl⟩
def Q4 (Z : State) (a : Addr) (h0 : Heap) (n0 : Nat) (v : Option Value) (h : Heap) (L : List Loc) : Prop := v = none ∧ Fr n0 L ∧ Keep h0 h [a] ∧ Fld Z h a "java/util/ArrayList" "elementData" "[Ljava/lang/Object;" .null ∧ Fld Z h a "java/util/ArrayList" "size" "I" (.int (0 : Int32)) ∧ Fld Z h a "java/util/AbstractList" "modCount" "I" (.int (0 : Int32))
set_option maxRecDepth 65536 in
set_option maxHeartbeats 40000000 in
theorem rm4 (l : Launch) (Z : State) (a0 : Array Value) (hw : ∀ d ∈ tables_1, d.before a0 Z = true) (ws : List Jvm.Cond) (a : Addr) (h0 : Heap) (n0 : Nat) (Z0 : n0 ≤ h0.size) (F_ed : Fld Z h0 a "java/util/ArrayList" "elementData" "[Ljava/lang/Object;" .null) (F_sz : Fld Z h0 a "java/util/ArrayList" "size" "I" (.int (0 : Int32))) (F_mc : Fld Z h0 a "java/util/AbstractList" "modCount" "I" (.int (0 : Int32))) (E_a : Exa Z h0 a "java/util/ArrayList") (g_a : n0 ≤ a) :
    MetFree l (⟨"java/util/AbstractList", "<init>", "()V"⟩ : MethodName) (head1 (Jvm.Cond.code (⟨"java/util/AbstractList", "<init>", "()V"⟩ : MethodName) jdk_39_method_1_code 1 none :: ws) ({ frames := 2, cells := 0, slots := 0, locals := 24 } : Room)) (fun xs U => xs = #[(.ref a)] ∧ Z.Warmed39 U.vm ∧ U.heap = h0) (fun _ _ _ _ _ => True) (fun _ U o U' => ∃ v L, o = .returned v ∧ Q4 Z a h0 n0 v U'.heap L ∧ FrameEnd U o U' L ({ frames := 2, cells := 0, slots := 0, locals := 24 } : Room).cells ({ frames := 2, cells := 0, slots := 0, locals := 24 } : Room).slots) := by
  refine MetFree.of_bodySF (plainFor_of_name pn_java_util_AbstractList) hisR ?_
  intro p e s m args below meth c s₁ Bd hml0 hP hK
  obtain ⟨rfl, hZ, hh⟩ := hP
  have hx := Bd.exec
  have hby := Bd.bytes
  have hml : c.maxLocals = 1 := hml0
  have hown : s.vm.findClass "java/util/AbstractList" = some m.cls := findClass_of_methodNamed Bd.named
  have hnm := (name_of_methodNamed Bd.named Bd.method).1
  have X0 : Stand p l e ({ frames := 2, cells := 0, slots := 0, locals := 24 } : Room) s m #[(.ref a)] below meth c s₁ [] 0 0 := Stand.of_body Bd
  have e0 : s₁.heap = h0 := by rw [← hh, Bd.state]; rfl
  have N0 := Fr.nil n0
  change own_Fin p.tables e below (fun s₂ o => ∃ v L, o = .returned v ∧ Q4 Z a h0 n0 v s₂.heap L ∧ FrameEnd s o s₂ L ({ frames := 2, cells := 0, slots := 0, locals := 24 } : Room).cells ({ frames := 2, cells := 0, slots := 0, locals := 24 } : Room).slots) (s₁.setTop (entryFrame m #[(.ref a)] 1))
  refine own_st (fun t k => castTop (show entryFrame m #[(.ref a)] 1 = mkF m 0 #[.val (.ref a)] [] by first | (simp [entryFrame, mkF, argsToLocals, Value.category, maxLocals]; done) | rfl) k) ?_
  show own_Fin p.tables e below _ (s₁.setTop (mkF m 0 #[.val (.ref a)] []))
  have K0 : Keep h0 h0 [a] := Keep.refl h0 [a]
  refine own_st (fun t k => XS.aloadN X0.here hx rfl (hb hby d4_0) rfl rfl k) ?_
  show own_Fin p.tables e below _ (s₁.setTop (mkF m 1 #[.val (.ref a)] [(.ref a)]))
  obtain ⟨_, _, ⟨T1, L1, k1, n1⟩, -, X1, ⟨Lc1, hQ1, l1, y1, z1⟩, st1⟩ := X0.specialBack hx (y := (⟨"java/util/AbstractCollection", "<init>", "()V"⟩ : MethodName)) rfl hown (mvT hZ (hw _ (List.mem_of_getElem? (i := 21) rfl))) (mvT hZ (hw _ (List.mem_of_getElem? (i := 22) rfl))) (mvT hZ (hw _ (List.mem_of_getElem? (i := 26) rfl))) (by decide) (backOf (W := 0) (rm5 l Z a0 hw [] a h0 n0 Z0) hZ (hw _ (List.mem_of_getElem? (i := 26) rfl)) (hw _ (List.mem_of_getElem? (i := 25) rfl)) (by decide) (by decide)) (g := (mkF m 1 #[.val (.ref a)] [(.ref a)])) rfl (by rw [hml]; rfl) (Steps.refl _) (a := a) (argsL := []) (rest := []) (lenOf pd___V rfl) rfl (by show 2 * 0 + _ ≤ _; exact Nat.le_of_eq rfl) (hb hby d4_1) (fun _ _ => ⟨rfl, e0, (by decide : 0 + 0 ≤ _), (by decide : 0 + 0 ≤ _)⟩)
  dsimp only [Pt.U, Pt.locs, Pt.cells, Pt.slots] at X1 l1 y1 z1 st1 hQ1
  subst l1 y1 z1
  obtain ⟨rfl, N1, q1⟩ := hQ1
  refine own_st (fun t k => st1.trans k) ?_
  have N1a := Fr.app N0 N1
  show own_Fin p.tables e below _ (T1.setTop (mkF m 4 #[.val (.ref a)] []))
  refine own_st (fun t k => XS.aloadN X1.here hx rfl (hb hby d4_4) rfl rfl k) ?_
  show own_Fin p.tables e below _ (T1.setTop (mkF m 5 #[.val (.ref a)] [(.ref a)]))
  refine own_st (fun t k => XS.iconst X1.here hx rfl (hb hby d4_5) k) ?_
  show own_Fin p.tables e below _ (T1.setTop (mkF m 6 #[.val (.ref a)] [(.int (0 : Int32)), (.ref a)]))
  obtain ⟨T2, h2, X2, e2, W2, st2⟩ := putF X1 hx hZ hown (host := "") (Or.inl (hw _ (List.mem_of_getElem? (i := 28) rfl))) Via.refl q1 F_mc E_a (Or.inl (hw _ (List.mem_of_getElem? (i := 29) rfl))) (hw _ (List.mem_of_getElem? (i := 10) rfl)) (ty := .int) (by decide) rfl rfl (g := (mkF m 6 #[.val (.ref a)] [(.int (0 : Int32)), (.ref a)])) rfl rfl (hb hby d4_6)
  refine own_st st2 ?_
  have F_ed'2 := F_ed.other W2 (Or.inr (slot_ne (Or.inl (hw _ (List.mem_of_getElem? (i := 32) rfl))) (Or.inl (hw _ (List.mem_of_getElem? (i := 29) rfl))) (by decide) (t := (.array (.object "java/lang/Object"))) (t' := .int) (by decide) (by decide)))
  have F_sz'2 := F_sz.other W2 (Or.inr (slot_ne (Or.inl (hw _ (List.mem_of_getElem? (i := 74) rfl))) (Or.inl (hw _ (List.mem_of_getElem? (i := 29) rfl))) (by decide) (t := .int) (t' := .int) (by decide) (by decide)))
  have F_mc'2 := F_mc.same W2
  have E_a'2 := E_a.wr W2
  have K0'2 := K0.wr W2 (Or.inl (List.mem_of_getElem? (i := 0) rfl))
  have N2 := Fr.snoc X2 N1a g_a
  have Z2 : n0 ≤ h2.size := by rw [W2.size]; exact Z0
  show own_Fin p.tables e below _ (T2.setTop (mkF m 9 #[.val (.ref a)] []))
  obtain ⟨fs, hr, hrun, hended, hW, hsame⟩ := X2.leave (v := none) (fun _ => rfl)
  refine ⟨_, _, X2.returnOut hx Bd.returns (hb hby d4_9) hr, hrun, hended, _, _, rfl, ?_, ⟨_, rfl⟩, hW, hsame.mono (by decide) (by decide)⟩
  show Q4 Z a h0 n0 _ T2.heap _
  rw [e2]
  exact ⟨rfl, N2, K0'2, F_ed'2, F_sz'2, F_mc'2⟩
def Q3 (Z : State) (a : Addr) (aE : Addr) (h0 : Heap) (n0 : Nat) (v : Option Value) (h : Heap) (L : List Loc) : Prop := v = none ∧ Fr n0 L ∧ Keep h0 h [a] ∧ Fld Z h a "java/util/ArrayList" "elementData" "[Ljava/lang/Object;" (.ref aE) ∧ Fld Z h a "java/util/ArrayList" "size" "I" (.int (0 : Int32)) ∧ Fld Z h a "java/util/AbstractList" "modCount" "I" (.int (0 : Int32))
set_option maxRecDepth 65536 in
set_option maxHeartbeats 40000000 in
theorem rm3 (l : Launch) (Z : State) (a0 : Array Value) (hw : ∀ d ∈ tables_1, d.before a0 Z = true) (ws : List Jvm.Cond) (a : Addr) (aE : Addr) (h0 : Heap) (n0 : Nat) (Z0 : n0 ≤ h0.size) (F_ed : Fld Z h0 a "java/util/ArrayList" "elementData" "[Ljava/lang/Object;" .null) (F_sz : Fld Z h0 a "java/util/ArrayList" "size" "I" (.int (0 : Int32))) (F_mc : Fld Z h0 a "java/util/AbstractList" "modCount" "I" (.int (0 : Int32))) (E_a : Exa Z h0 a "java/util/ArrayList") (g_a : n0 ≤ a) (O0 : Old Z n0 h0) (S_D : Sta Z Z.heap "java/util/ArrayList" "DEFAULTCAPACITY_EMPTY_ELEMENTDATA" "[Ljava/lang/Object;" (.ref aE)) :
    MetFree l (⟨"java/util/ArrayList", "<init>", "()V"⟩ : MethodName) (head1 (Jvm.Cond.code (⟨"java/util/ArrayList", "<init>", "()V"⟩ : MethodName) jdk_38_method_2_code 1 none :: ws) ({ frames := 3, cells := 0, slots := 0, locals := 36 } : Room)) (fun xs U => xs = #[(.ref a)] ∧ Z.Warmed39 U.vm ∧ U.heap = h0) (fun _ _ _ _ _ => True) (fun _ U o U' => ∃ v L, o = .returned v ∧ Q3 Z a aE h0 n0 v U'.heap L ∧ FrameEnd U o U' L ({ frames := 3, cells := 0, slots := 0, locals := 36 } : Room).cells ({ frames := 3, cells := 0, slots := 0, locals := 36 } : Room).slots) := by
  refine MetFree.of_bodySF (plainFor_of_name pn_java_util_ArrayList) hisR ?_
  intro p e s m args below meth c s₁ Bd hml0 hP hK
  obtain ⟨rfl, hZ, hh⟩ := hP
  have hx := Bd.exec
  have hby := Bd.bytes
  have hml : c.maxLocals = 1 := hml0
  have hown : s.vm.findClass "java/util/ArrayList" = some m.cls := findClass_of_methodNamed Bd.named
  have hnm := (name_of_methodNamed Bd.named Bd.method).1
  have X0 : Stand p l e ({ frames := 3, cells := 0, slots := 0, locals := 36 } : Room) s m #[(.ref a)] below meth c s₁ [] 0 0 := Stand.of_body Bd
  have e0 : s₁.heap = h0 := by rw [← hh, Bd.state]; rfl
  have N0 := Fr.nil n0
  change own_Fin p.tables e below (fun s₂ o => ∃ v L, o = .returned v ∧ Q3 Z a aE h0 n0 v s₂.heap L ∧ FrameEnd s o s₂ L ({ frames := 3, cells := 0, slots := 0, locals := 36 } : Room).cells ({ frames := 3, cells := 0, slots := 0, locals := 36 } : Room).slots) (s₁.setTop (entryFrame m #[(.ref a)] 1))
  refine own_st (fun t k => castTop (show entryFrame m #[(.ref a)] 1 = mkF m 0 #[.val (.ref a)] [] by first | (simp [entryFrame, mkF, argsToLocals, Value.category, maxLocals]; done) | rfl) k) ?_
  show own_Fin p.tables e below _ (s₁.setTop (mkF m 0 #[.val (.ref a)] []))
  have K0 : Keep h0 h0 [a] := Keep.refl h0 [a]
  refine own_st (fun t k => XS.aloadN X0.here hx rfl (hb hby d3_0) rfl rfl k) ?_
  show own_Fin p.tables e below _ (s₁.setTop (mkF m 1 #[.val (.ref a)] [(.ref a)]))
  obtain ⟨_, _, ⟨T1, L1, k1, n1⟩, -, X1, ⟨Lc1, hQ1, l1, y1, z1⟩, st1⟩ := X0.specialBack hx (y := (⟨"java/util/AbstractList", "<init>", "()V"⟩ : MethodName)) rfl hown (mvT hZ (hw _ (List.mem_of_getElem? (i := 15) rfl))) (mvT hZ (hw _ (List.mem_of_getElem? (i := 16) rfl))) (mvT hZ (hw _ (List.mem_of_getElem? (i := 20) rfl))) (by decide) (backOf (W := 0) (rm4 l Z a0 hw [] a h0 n0 Z0 F_ed F_sz F_mc E_a g_a) hZ (hw _ (List.mem_of_getElem? (i := 20) rfl)) (hw _ (List.mem_of_getElem? (i := 19) rfl)) (by decide) (by decide)) (g := (mkF m 1 #[.val (.ref a)] [(.ref a)])) rfl (by rw [hml]; rfl) (Steps.refl _) (a := a) (argsL := []) (rest := []) (lenOf pd___V rfl) rfl (by show 2 * 0 + _ ≤ _; exact Nat.le_of_eq rfl) (hb hby d3_1) (fun _ _ => ⟨rfl, e0, (by decide : 0 + 0 ≤ _), (by decide : 0 + 0 ≤ _)⟩)
  dsimp only [Pt.U, Pt.locs, Pt.cells, Pt.slots] at X1 l1 y1 z1 st1 hQ1
  subst l1 y1 z1
  obtain ⟨rfl, N1, K1, Fe1, Fs1, Fm1⟩ := hQ1
  refine own_st (fun t k => st1.trans k) ?_
  have E_a'1 := E_a.keep K1
  have O0'1 := O0.keep K1 (allS g_a all0)
  have K0'1 := K0.trans K1 (allS (P := fun x => x ∈ ([a] : List Addr) ∨ h0.size ≤ x) (Or.inl (List.mem_of_getElem? (i := 0) rfl)) all0)
  have Z1 : n0 ≤ T1.heap.size := Nat.le_trans Z0 K1.1
  have N1a := Fr.app N0 N1
  show own_Fin p.tables e below _ (T1.setTop (mkF m 4 #[.val (.ref a)] []))
  refine own_st (fun t k => XS.aloadN X1.here hx rfl (hb hby d3_4) rfl rfl k) ?_
  show own_Fin p.tables e below _ (T1.setTop (mkF m 5 #[.val (.ref a)] [(.ref a)]))
  obtain ⟨T2, X2, e2, st2⟩ := getS (host := "") X1 hx hZ hown (hw _ (List.mem_of_getElem? (i := 30) rfl)) Via.refl rfl (Sta.ext O0'1.2 S_D) (g := (mkF m 5 #[.val (.ref a)] [(.ref a)])) rfl (hb hby d3_5)
  refine own_st st2 ?_
  show own_Fin p.tables e below _ (T2.setTop (mkF m 8 #[.val (.ref a)] [(.ref aE), (.ref a)]))
  obtain ⟨T3, h3, X3, e3, W3, st3⟩ := putF X2 hx hZ hown (host := "") (Or.inl (hw _ (List.mem_of_getElem? (i := 31) rfl))) Via.refl e2 Fe1 E_a'1 (Or.inl (hw _ (List.mem_of_getElem? (i := 32) rfl))) (hw _ (List.mem_of_getElem? (i := 10) rfl)) (ty := (.array (.object "java/lang/Object"))) (by decide) rfl rfl (g := (mkF m 8 #[.val (.ref a)] [(.ref aE), (.ref a)])) rfl rfl (hb hby d3_8)
  refine own_st st3 ?_
  have E_a'3 := E_a'1.wr W3
  have O0'3 := O0'1.wr W3 g_a
  have K0'3 := K0'1.wr W3 (Or.inl (List.mem_of_getElem? (i := 0) rfl))
  have Fe1'3 := Fe1.same W3
  have Fs1'3 := Fs1.other W3 (Or.inr (slot_ne (Or.inl (hw _ (List.mem_of_getElem? (i := 74) rfl))) (Or.inl (hw _ (List.mem_of_getElem? (i := 32) rfl))) (by decide) (t := .int) (t' := (.array (.object "java/lang/Object"))) (by decide) (by decide)))
  have Fm1'3 := Fm1.other W3 (Or.inr (slot_ne (Or.inl (hw _ (List.mem_of_getElem? (i := 29) rfl))) (Or.inl (hw _ (List.mem_of_getElem? (i := 32) rfl))) (by decide) (t := .int) (t' := (.array (.object "java/lang/Object"))) (by decide) (by decide)))
  have N3 := Fr.snoc X3 N1a g_a
  have Z3 : n0 ≤ h3.size := by rw [W3.size]; exact Z1
  show own_Fin p.tables e below _ (T3.setTop (mkF m 11 #[.val (.ref a)] []))
  obtain ⟨fs, hr, hrun, hended, hW, hsame⟩ := X3.leave (v := none) (fun _ => rfl)
  refine ⟨_, _, X3.returnOut hx Bd.returns (hb hby d3_11) hr, hrun, hended, _, _, rfl, ?_, ⟨_, rfl⟩, hW, hsame.mono (by decide) (by decide)⟩
  show Q3 Z a aE h0 n0 _ T3.heap _
  rw [e3]
  exact ⟨rfl, N3, K0'3, Fe1'3, Fs1'3, Fm1'3⟩
def Q1 (Z : State) (a : Addr) (d : Int32) (aE : Addr) (h0 : Heap) (n0 : Nat) (v : Option Value) (h : Heap) (L : List Loc) : Prop := v = none ∧ Fr n0 L ∧ Keep h0 h [a] ∧ ∃ ls, Fld Z h a "com/example/condense/condense/analysis/AffineHull" "base" "[Ljava/math/BigInteger;" .null ∧ Fld Z h a "com/example/condense/condense/analysis/AffineHull" "dimension" "I" (.int d) ∧ Fld Z h a "com/example/condense/condense/analysis/AffineHull" "directions" "Ljava/util/List;" (.ref ls) ∧ Fld Z h ls "java/util/ArrayList" "elementData" "[Ljava/lang/Object;" (.ref aE) ∧ Fld Z h ls "java/util/ArrayList" "size" "I" (.int (0 : Int32)) ∧ Fld Z h ls "java/util/AbstractList" "modCount" "I" (.int (0 : Int32)) ∧ Exa Z h ls "java/util/ArrayList" ∧ n0 ≤ ls
set_option maxRecDepth 65536 in
set_option maxHeartbeats 40000000 in
theorem rm1 (l : Launch) (Z : State) (a0 : Array Value) (hw : ∀ d ∈ tables_1, d.before a0 Z = true) (ws : List Jvm.Cond) (a : Addr) (d : Int32) (aE : Addr) (h0 : Heap) (n0 : Nat) (Z0 : n0 ≤ h0.size) (F_b : Fld Z h0 a "com/example/condense/condense/analysis/AffineHull" "base" "[Ljava/math/BigInteger;" .null) (F_d : Fld Z h0 a "com/example/condense/condense/analysis/AffineHull" "dimension" "I" (.int (0 : Int32))) (F_s : Fld Z h0 a "com/example/condense/condense/analysis/AffineHull" "directions" "Ljava/util/List;" .null) (E_a : Exa Z h0 a "com/example/condense/condense/analysis/AffineHull") (g_a : n0 ≤ a) (O0 : Old Z n0 h0) (S_D : Sta Z Z.heap "java/util/ArrayList" "DEFAULTCAPACITY_EMPTY_ELEMENTDATA" "[Ljava/lang/Object;" (.ref aE)) :
    MetFree l (⟨"com/example/condense/condense/analysis/AffineHull", "<init>", "(I)V"⟩ : MethodName) (head1 (Jvm.Cond.code (⟨"com/example/condense/condense/analysis/AffineHull", "<init>", "(I)V"⟩ : MethodName) prog_1_method_1_code 2 none :: ws) ({ frames := 4, cells := 1, slots := 3, locals := 50 } : Room)) (fun xs U => xs = #[(.ref a), (.int d)] ∧ Z.Warmed39 U.vm ∧ U.heap = h0) (fun _ _ _ _ _ => True) (fun _ U o U' => ∃ v L, o = .returned v ∧ Q1 Z a d aE h0 n0 v U'.heap L ∧ FrameEnd U o U' L ({ frames := 4, cells := 1, slots := 3, locals := 50 } : Room).cells ({ frames := 4, cells := 1, slots := 3, locals := 50 } : Room).slots) := by
  refine MetFree.of_bodySF (plainFor_of_name pn_com_example_condense_condense_analysis_AffineHull) hisR ?_
  intro p e s m args below meth c s₁ Bd hml0 hP hK
  obtain ⟨rfl, hZ, hh⟩ := hP
  have hx := Bd.exec
  have hby := Bd.bytes
  have hml : c.maxLocals = 2 := hml0
  have hown : s.vm.findClass "com/example/condense/condense/analysis/AffineHull" = some m.cls := findClass_of_methodNamed Bd.named
  have hnm := (name_of_methodNamed Bd.named Bd.method).1
  have X0 : Stand p l e ({ frames := 4, cells := 1, slots := 3, locals := 50 } : Room) s m #[(.ref a), (.int d)] below meth c s₁ [] 0 0 := Stand.of_body Bd
  have e0 : s₁.heap = h0 := by rw [← hh, Bd.state]; rfl
  have N0 := Fr.nil n0
  change own_Fin p.tables e below (fun s₂ o => ∃ v L, o = .returned v ∧ Q1 Z a d aE h0 n0 v s₂.heap L ∧ FrameEnd s o s₂ L ({ frames := 4, cells := 1, slots := 3, locals := 50 } : Room).cells ({ frames := 4, cells := 1, slots := 3, locals := 50 } : Room).slots) (s₁.setTop (entryFrame m #[(.ref a), (.int d)] 2))
  refine own_st (fun t k => castTop (show entryFrame m #[(.ref a), (.int d)] 2 = mkF m 0 #[.val (.ref a), .val (.int d)] [] by first | (simp [entryFrame, mkF, argsToLocals, Value.category, maxLocals]; done) | rfl) k) ?_
  show own_Fin p.tables e below _ (s₁.setTop (mkF m 0 #[.val (.ref a), .val (.int d)] []))
  have K0 : Keep h0 h0 [a] := Keep.refl h0 [a]
  refine own_st (fun t k => XS.aloadN X0.here hx rfl (hb hby d1_0) rfl rfl k) ?_
  show own_Fin p.tables e below _ (s₁.setTop (mkF m 1 #[.val (.ref a), .val (.int d)] [(.ref a)]))
  obtain ⟨T1, X1, e1, st1⟩ := initO X0 hx hZ hown (hw _ (List.mem_of_getElem? (i := 6) rfl)) (hw _ (List.mem_of_getElem? (i := 7) rfl)) (hw _ (List.mem_of_getElem? (i := 8) rfl)) e0 (g := (mkF m 1 #[.val (.ref a), .val (.int d)] [(.ref a)])) rfl (by rw [hml]; rfl) rfl (hb hby d1_1) (by decide) (W := 0) (by show 2 * 0 + _ ≤ _; exact Nat.le_of_eq rfl) (by decide)
  refine own_st st1 ?_
  show own_Fin p.tables e below _ (T1.setTop (mkF m 4 #[.val (.ref a), .val (.int d)] []))
  refine own_st (fun t k => XS.aloadN X1.here hx rfl (hb hby d1_4) rfl rfl k) ?_
  show own_Fin p.tables e below _ (T1.setTop (mkF m 5 #[.val (.ref a), .val (.int d)] [(.ref a)]))
  obtain ⟨T2, h2, X2, e2, E2, A2, D2, U2, st2⟩ := newO X1 hx hZ hown (hw _ (List.mem_of_getElem? (i := 9) rfl)) (hw _ (List.mem_of_getElem? (i := 10) rfl)) (hw _ (List.mem_of_getElem? (i := 11) rfl)) e1 (g := (mkF m 5 #[.val (.ref a), .val (.int d)] [(.ref a)])) rfl (hb hby d1_5) (by decide) (by decide)
  obtain ⟨b2, g2⟩ : ∃ z, z = h0.size := ⟨_, rfl⟩
  have ne_a_b2 : a ≠ b2 := Nat.ne_of_lt (Nat.lt_of_lt_of_le F_b.lt (Nat.le_of_eq g2.symm))
  have g_b2 : n0 ≤ b2 := Nat.le_trans Z0 (Nat.le_of_eq g2.symm)
  have sz_b2 : h0.size ≤ b2 := Nat.le_trans K0.1 (Nat.le_of_eq g2.symm)
  rw [← g2] at A2 D2 U2 st2
  refine own_st st2 ?_
  have F_b'2 := F_b.ext E2
  have F_d'2 := F_d.ext E2
  have F_s'2 := F_s.ext E2
  have E_a'2 := E_a.ext E2
  have O0'2 := O0.ext E2
  have K0'2 := K0.ext E2
  have Z2 : n0 ≤ h2.size := Nat.le_trans Z0 E2.1
  have F_modCount_b2 : Fld Z h2 b2 "java/util/AbstractList" "modCount" "I" (.int (0 : Int32)) := D2 (Or.inl (hw _ (List.mem_of_getElem? (i := 29) rfl))) (ty := .int) (by decide)
  have F_elementData_b2 : Fld Z h2 b2 "java/util/ArrayList" "elementData" "[Ljava/lang/Object;" .null := D2 (Or.inl (hw _ (List.mem_of_getElem? (i := 32) rfl))) (ty := (.array (.object "java/lang/Object"))) (by decide)
  have F_size_b2 : Fld Z h2 b2 "java/util/ArrayList" "size" "I" (.int (0 : Int32)) := D2 (Or.inl (hw _ (List.mem_of_getElem? (i := 74) rfl))) (ty := .int) (by decide)
  show own_Fin p.tables e below _ (T2.setTop (mkF m 8 #[.val (.ref a), .val (.int d)] [(.ref b2), (.ref a)]))
  refine own_st (fun t k => XS.dup X2.here hx rfl (hb hby d1_8) rfl rfl k) ?_
  show own_Fin p.tables e below _ (T2.setTop (mkF m 9 #[.val (.ref a), .val (.int d)] [(.ref b2), (.ref b2), (.ref a)]))
  obtain ⟨_, _, ⟨T3, L3, k3, n3⟩, -, X3, ⟨Lc3, hQ3, l3, y3, z3⟩, st3⟩ := X2.specialBack hx (y := (⟨"java/util/ArrayList", "<init>", "()V"⟩ : MethodName)) rfl hown (mvT hZ (hw _ (List.mem_of_getElem? (i := 12) rfl))) (mvT hZ (hw _ (List.mem_of_getElem? (i := 13) rfl))) (mvT hZ (hw _ (List.mem_of_getElem? (i := 14) rfl))) (by decide) (backOf (W := 2) (rm3 l Z a0 hw [] b2 aE h2 n0 Z2 F_elementData_b2 F_size_b2 F_modCount_b2 A2 g_b2 O0'2 S_D) hZ (hw _ (List.mem_of_getElem? (i := 14) rfl)) (hw _ (List.mem_of_getElem? (i := 11) rfl)) (by decide) (by decide)) (g := (mkF m 9 #[.val (.ref a), .val (.int d)] [(.ref b2), (.ref b2), (.ref a)])) rfl (by rw [hml]; rfl) (Steps.refl _) (a := b2) (argsL := []) (rest := [(.ref b2), (.ref a)]) (lenOf pd___V rfl) rfl (by show 2 * 0 + _ ≤ _; exact Nat.le_of_eq rfl) (hb hby d1_9) (fun _ _ => ⟨rfl, e2, (by decide : 1 + 0 ≤ _), (by decide : 3 + 0 ≤ _)⟩)
  dsimp only [Pt.U, Pt.locs, Pt.cells, Pt.slots] at X3 l3 y3 z3 st3 hQ3
  subst l3 y3 z3
  obtain ⟨rfl, N3, K3, Fe3, Fs3, Fm3⟩ := hQ3
  refine own_st (fun t k => st3.trans k) ?_
  have F_b'3 := F_b'2.keep K3 (ninS ne_a_b2 nin0)
  have F_d'3 := F_d'2.keep K3 (ninS ne_a_b2 nin0)
  have F_s'3 := F_s'2.keep K3 (ninS ne_a_b2 nin0)
  have E_a'3 := E_a'2.keep K3
  have O0'3 := O0'2.keep K3 (allS g_b2 all0)
  have K0'3 := K0'2.trans K3 (allS (P := fun x => x ∈ ([a] : List Addr) ∨ h0.size ≤ x) (Or.inr sz_b2) all0)
  have A2'3 := A2.keep K3
  have Z3 : n0 ≤ T3.heap.size := Nat.le_trans Z2 K3.1
  have N3a := Fr.app N0 N3
  show own_Fin p.tables e below _ (T3.setTop (mkF m 12 #[.val (.ref a), .val (.int d)] [(.ref b2), (.ref a)]))
  obtain ⟨T4, h4, X4, e4, W4, st4⟩ := putF X3 hx hZ hown (host := "") (Or.inl (hw _ (List.mem_of_getElem? (i := 33) rfl))) Via.refl rfl F_s'3 E_a'3 (Or.inr ⟨(hw _ (List.mem_of_getElem? (i := 34) rfl)), rfl, hnm⟩) (hw _ (List.mem_of_getElem? (i := 1) rfl)) (ty := (.object "java/util/List")) (by decide) rfl rfl (g := (mkF m 12 #[.val (.ref a), .val (.int d)] [(.ref b2), (.ref a)])) rfl rfl (hb hby d1_12)
  refine own_st st4 ?_
  have F_b'4 := F_b'3.other W4 (Or.inr (slot_ne (Or.inl (hw _ (List.mem_of_getElem? (i := 43) rfl))) (Or.inr (hw _ (List.mem_of_getElem? (i := 34) rfl))) (by decide) (t := (.array (.object "java/math/BigInteger"))) (t' := (.object "java/util/List")) (by decide) (by decide)))
  have F_d'4 := F_d'3.other W4 (Or.inr (slot_ne (Or.inr (hw _ (List.mem_of_getElem? (i := 36) rfl))) (Or.inr (hw _ (List.mem_of_getElem? (i := 34) rfl))) (by decide) (t := .int) (t' := (.object "java/util/List")) (by decide) (by decide)))
  have F_s'4 := F_s'3.same W4
  have E_a'4 := E_a'3.wr W4
  have O0'4 := O0'3.wr W4 g_a
  have K0'4 := K0'3.wr W4 (Or.inl (List.mem_of_getElem? (i := 0) rfl))
  have A2'4 := A2'3.wr W4
  have Fe3'4 := Fe3.other W4 (Or.inl (Ne.symm ne_a_b2))
  have Fs3'4 := Fs3.other W4 (Or.inl (Ne.symm ne_a_b2))
  have Fm3'4 := Fm3.other W4 (Or.inl (Ne.symm ne_a_b2))
  have N4 := Fr.snoc X4 N3a g_a
  have Z4 : n0 ≤ h4.size := by rw [W4.size]; exact Z3
  show own_Fin p.tables e below _ (T4.setTop (mkF m 15 #[.val (.ref a), .val (.int d)] []))
  refine own_st (fun t k => XS.aloadN X4.here hx rfl (hb hby d1_15) rfl rfl k) ?_
  show own_Fin p.tables e below _ (T4.setTop (mkF m 16 #[.val (.ref a), .val (.int d)] [(.ref a)]))
  refine own_st (fun t k => XS.iloadN X4.here hx rfl (hb hby d1_16) rfl k) ?_
  show own_Fin p.tables e below _ (T4.setTop (mkF m 17 #[.val (.ref a), .val (.int d)] [(.int d), (.ref a)]))
  obtain ⟨T5, h5, X5, e5, W5, st5⟩ := putF X4 hx hZ hown (host := "") (Or.inl (hw _ (List.mem_of_getElem? (i := 35) rfl))) Via.refl e4 F_d'4 E_a'4 (Or.inr ⟨(hw _ (List.mem_of_getElem? (i := 36) rfl)), rfl, hnm⟩) (hw _ (List.mem_of_getElem? (i := 1) rfl)) (ty := .int) (by decide) rfl rfl (g := (mkF m 17 #[.val (.ref a), .val (.int d)] [(.int d), (.ref a)])) rfl rfl (hb hby d1_17)
  refine own_st st5 ?_
  have F_b'5 := F_b'4.other W5 (Or.inr (slot_ne (Or.inl (hw _ (List.mem_of_getElem? (i := 43) rfl))) (Or.inr (hw _ (List.mem_of_getElem? (i := 36) rfl))) (by decide) (t := (.array (.object "java/math/BigInteger"))) (t' := .int) (by decide) (by decide)))
  have F_d'5 := F_d'4.same W5
  have F_s'5 := F_s'4.other W5 (Or.inr (slot_ne (Or.inr (hw _ (List.mem_of_getElem? (i := 34) rfl))) (Or.inr (hw _ (List.mem_of_getElem? (i := 36) rfl))) (by decide) (t := (.object "java/util/List")) (t' := .int) (by decide) (by decide)))
  have E_a'5 := E_a'4.wr W5
  have O0'5 := O0'4.wr W5 g_a
  have K0'5 := K0'4.wr W5 (Or.inl (List.mem_of_getElem? (i := 0) rfl))
  have A2'5 := A2'4.wr W5
  have Fe3'5 := Fe3'4.other W5 (Or.inl (Ne.symm ne_a_b2))
  have Fs3'5 := Fs3'4.other W5 (Or.inl (Ne.symm ne_a_b2))
  have Fm3'5 := Fm3'4.other W5 (Or.inl (Ne.symm ne_a_b2))
  have N5 := Fr.snoc X5 N4 g_a
  have Z5 : n0 ≤ h5.size := by rw [W5.size]; exact Z4
  show own_Fin p.tables e below _ (T5.setTop (mkF m 20 #[.val (.ref a), .val (.int d)] []))
  obtain ⟨fs, hr, hrun, hended, hW, hsame⟩ := X5.leave (v := none) (fun _ => rfl)
  refine ⟨_, _, X5.returnOut hx Bd.returns (hb hby d1_20) hr, hrun, hended, _, _, rfl, ?_, ⟨_, rfl⟩, hW, hsame.mono (by decide) (by decide)⟩
  show Q1 Z a d aE h0 n0 _ T5.heap _
  rw [e5]
  exact ⟨rfl, N5, K0'5, b2, F_b'5, F_d'5, F_s'5, Fe3'5, Fs3'5, Fm3'5, A2'5, g_b2⟩
def QrmE0 (Z : State) (a : Addr) (bs : Addr) (h0 : Heap) (n0 : Nat) (v : Option Value) (h : Heap) (L : List Loc) : Prop := v = some (.int 1) ∧ Fr n0 L ∧ h = h0
set_option maxRecDepth 65536 in
set_option maxHeartbeats 40000000 in
theorem rmE0 (l : Launch) (Z : State) (a0 : Array Value) (hw : ∀ d ∈ tables_1, d.before a0 Z = true) (ws : List Jvm.Cond) (a : Addr) (bs : Addr) (h0 : Heap) (n0 : Nat) (Z0 : n0 ≤ h0.size) (F_b : Fld Z h0 a "com/example/condense/condense/analysis/AffineHull" "base" "[Ljava/math/BigInteger;" .null) :
    MetFree l (⟨"com/example/condense/condense/analysis/AffineHull", "isEmpty", "()Z"⟩ : MethodName) (head1 (Jvm.Cond.code (⟨"com/example/condense/condense/analysis/AffineHull", "isEmpty", "()Z"⟩ : MethodName) prog_1_method_3_code 1 (some .boolean) :: ws) ({ frames := 1, cells := 0, slots := 0, locals := 12 } : Room)) (fun xs U => xs = #[(.ref a)] ∧ Z.Warmed39 U.vm ∧ U.heap = h0) (fun _ _ _ _ _ => True) (fun _ U o U' => ∃ v L, o = .returned v ∧ QrmE0 Z a bs h0 n0 v U'.heap L ∧ FrameEnd U o U' L ({ frames := 1, cells := 0, slots := 0, locals := 12 } : Room).cells ({ frames := 1, cells := 0, slots := 0, locals := 12 } : Room).slots) := by
  refine MetFree.of_bodySF (plainFor_of_name pn_com_example_condense_condense_analysis_AffineHull) hisR ?_
  intro p e s m args below meth c s₁ Bd hml0 hP hK
  obtain ⟨rfl, hZ, hh⟩ := hP
  have hx := Bd.exec
  have hby := Bd.bytes
  have hml : c.maxLocals = 1 := hml0
  have hown : s.vm.findClass "com/example/condense/condense/analysis/AffineHull" = some m.cls := findClass_of_methodNamed Bd.named
  have hnm := (name_of_methodNamed Bd.named Bd.method).1
  have X0 : Stand p l e ({ frames := 1, cells := 0, slots := 0, locals := 12 } : Room) s m #[(.ref a)] below meth c s₁ [] 0 0 := Stand.of_body Bd
  have e0 : s₁.heap = h0 := by rw [← hh, Bd.state]; rfl
  have N0 := Fr.nil n0
  change own_Fin p.tables e below (fun s₂ o => ∃ v L, o = .returned v ∧ QrmE0 Z a bs h0 n0 v s₂.heap L ∧ FrameEnd s o s₂ L ({ frames := 1, cells := 0, slots := 0, locals := 12 } : Room).cells ({ frames := 1, cells := 0, slots := 0, locals := 12 } : Room).slots) (s₁.setTop (entryFrame m #[(.ref a)] 1))
  refine own_st (fun t k => castTop (show entryFrame m #[(.ref a)] 1 = mkF m 0 #[.val (.ref a)] [] by first | (simp [entryFrame, mkF, argsToLocals, Value.category, maxLocals]; done) | rfl) k) ?_
  show own_Fin p.tables e below _ (s₁.setTop (mkF m 0 #[.val (.ref a)] []))
  refine own_st (fun t k => XS.aloadN X0.here hx rfl (hb hby d6_0) rfl rfl k) ?_
  show own_Fin p.tables e below _ (s₁.setTop (mkF m 1 #[.val (.ref a)] [(.ref a)]))
  obtain ⟨T1, X1, e1, st1⟩ := getF X0 hx hZ hown (host := "") (Or.inl (hw _ (List.mem_of_getElem? (i := 42) rfl))) Via.refl e0 F_b (g := (mkF m 1 #[.val (.ref a)] [(.ref a)])) rfl rfl (hb hby d6_1)
  refine own_st st1 ?_
  show own_Fin p.tables e below _ (T1.setTop (mkF m 4 #[.val (.ref a)] [.null]))
  refine own_st (fun t k => XS.ifnonnullNo X1.here hx rfl (hb hby d6_4) rfl k) ?_
  show own_Fin p.tables e below _ (T1.setTop (mkF m 7 #[.val (.ref a)] []))
  refine own_st (fun t k => XS.iconst X1.here hx rfl (hb hby d6_7) k) ?_
  show own_Fin p.tables e below _ (T1.setTop (mkF m 8 #[.val (.ref a)] [(.int (1 : Int32))]))
  refine own_st (fun t k => XS.goto X1.here hx rfl (pc0 := 8) (pc' := 12) rfl (hb hby d6_8) (by decide) (by decide) k) ?_
  show own_Fin p.tables e below _ (T1.setTop (mkF m 12 #[.val (.ref a)] [(.int (1 : Int32))]))
  obtain ⟨fs, hr, hrun, hended, hW, hsame⟩ := X1.leave (v := (some (.int (1 : Int32)))) (fun h => by rw [Bd.returns] at h; cases h)
  refine ⟨_, _, retN X1 hx (t := .boolean) Bd.returns (by simp) (hb hby d6_12) hr, hrun, hended, _, _, rfl, ?_, ⟨_, rfl⟩, hW, hsame.mono (by decide) (by decide)⟩
  show QrmE0 Z a bs h0 n0 _ T1.heap _
  rw [e1]
  exact ⟨rfl, N0, rfl⟩
def QrmE1 (Z : State) (a : Addr) (bs : Addr) (h0 : Heap) (n0 : Nat) (v : Option Value) (h : Heap) (L : List Loc) : Prop := v = some (.int 0) ∧ Fr n0 L ∧ h = h0
set_option maxRecDepth 65536 in
set_option maxHeartbeats 40000000 in
theorem rmE1 (l : Launch) (Z : State) (a0 : Array Value) (hw : ∀ d ∈ tables_1, d.before a0 Z = true) (ws : List Jvm.Cond) (a : Addr) (bs : Addr) (h0 : Heap) (n0 : Nat) (Z0 : n0 ≤ h0.size) (F_b : Fld Z h0 a "com/example/condense/condense/analysis/AffineHull" "base" "[Ljava/math/BigInteger;" (.ref bs)) :
    MetFree l (⟨"com/example/condense/condense/analysis/AffineHull", "isEmpty", "()Z"⟩ : MethodName) (head1 (Jvm.Cond.code (⟨"com/example/condense/condense/analysis/AffineHull", "isEmpty", "()Z"⟩ : MethodName) prog_1_method_3_code 1 (some .boolean) :: ws) ({ frames := 1, cells := 0, slots := 0, locals := 12 } : Room)) (fun xs U => xs = #[(.ref a)] ∧ Z.Warmed39 U.vm ∧ U.heap = h0) (fun _ _ _ _ _ => True) (fun _ U o U' => ∃ v L, o = .returned v ∧ QrmE1 Z a bs h0 n0 v U'.heap L ∧ FrameEnd U o U' L ({ frames := 1, cells := 0, slots := 0, locals := 12 } : Room).cells ({ frames := 1, cells := 0, slots := 0, locals := 12 } : Room).slots) := by
  refine MetFree.of_bodySF (plainFor_of_name pn_com_example_condense_condense_analysis_AffineHull) hisR ?_
  intro p e s m args below meth c s₁ Bd hml0 hP hK
  obtain ⟨rfl, hZ, hh⟩ := hP
  have hx := Bd.exec
  have hby := Bd.bytes
  have hml : c.maxLocals = 1 := hml0
  have hown : s.vm.findClass "com/example/condense/condense/analysis/AffineHull" = some m.cls := findClass_of_methodNamed Bd.named
  have hnm := (name_of_methodNamed Bd.named Bd.method).1
  have X0 : Stand p l e ({ frames := 1, cells := 0, slots := 0, locals := 12 } : Room) s m #[(.ref a)] below meth c s₁ [] 0 0 := Stand.of_body Bd
  have e0 : s₁.heap = h0 := by rw [← hh, Bd.state]; rfl
  have N0 := Fr.nil n0
  change own_Fin p.tables e below (fun s₂ o => ∃ v L, o = .returned v ∧ QrmE1 Z a bs h0 n0 v s₂.heap L ∧ FrameEnd s o s₂ L ({ frames := 1, cells := 0, slots := 0, locals := 12 } : Room).cells ({ frames := 1, cells := 0, slots := 0, locals := 12 } : Room).slots) (s₁.setTop (entryFrame m #[(.ref a)] 1))
  refine own_st (fun t k => castTop (show entryFrame m #[(.ref a)] 1 = mkF m 0 #[.val (.ref a)] [] by first | (simp [entryFrame, mkF, argsToLocals, Value.category, maxLocals]; done) | rfl) k) ?_
  show own_Fin p.tables e below _ (s₁.setTop (mkF m 0 #[.val (.ref a)] []))
  refine own_st (fun t k => XS.aloadN X0.here hx rfl (hb hby d6_0) rfl rfl k) ?_
  show own_Fin p.tables e below _ (s₁.setTop (mkF m 1 #[.val (.ref a)] [(.ref a)]))
  obtain ⟨T1, X1, e1, st1⟩ := getF X0 hx hZ hown (host := "") (Or.inl (hw _ (List.mem_of_getElem? (i := 42) rfl))) Via.refl e0 F_b (g := (mkF m 1 #[.val (.ref a)] [(.ref a)])) rfl rfl (hb hby d6_1)
  refine own_st st1 ?_
  show own_Fin p.tables e below _ (T1.setTop (mkF m 4 #[.val (.ref a)] [(.ref bs)]))
  refine own_st (fun t k => XS.ifnonnullYes X1.here hx rfl (pc0 := 4) (pc' := 11) rfl (hb hby d6_4) rfl (by decide) (by decide) k) ?_
  show own_Fin p.tables e below _ (T1.setTop (mkF m 11 #[.val (.ref a)] []))
  refine own_st (fun t k => XS.iconst X1.here hx rfl (hb hby d6_11) k) ?_
  show own_Fin p.tables e below _ (T1.setTop (mkF m 12 #[.val (.ref a)] [(.int (0 : Int32))]))
  obtain ⟨fs, hr, hrun, hended, hW, hsame⟩ := X1.leave (v := (some (.int (0 : Int32)))) (fun h => by rw [Bd.returns] at h; cases h)
  refine ⟨_, _, retN X1 hx (t := .boolean) Bd.returns (by simp) (hb hby d6_12) hr, hrun, hended, _, _, rfl, ?_, ⟨_, rfl⟩, hW, hsame.mono (by decide) (by decide)⟩
  show QrmE1 Z a bs h0 n0 _ T1.heap _
  rw [e1]
  exact ⟨rfl, N0, rfl⟩
def Q9 (Z : State) (a1 : Addr) (z : Addr) (n : Int32) (h0 : Heap) (n0 : Nat) (v : Option Value) (h : Heap) (L : List Loc) : Prop := v = none ∧ Fr n0 L ∧ Keep h0 h [a1]
set_option maxRecDepth 65536 in
set_option maxHeartbeats 40000000 in
theorem rm9 (l : Launch) (Z : State) (a0 : Array Value) (hw : ∀ d ∈ tables_1, d.before a0 Z = true) (ws : List Jvm.Cond) (a1 : Addr) (z : Addr) (n : Int32) (h0 : Heap) (n0 : Nat) (Z0 : n0 ≤ h0.size) (O_1 : own_O Z h0 a1 "java/math/BigInteger" n) (g_a1 : n0 ≤ a1) (E_z : Exa Z h0 z "java/math/BigInteger") (hle7 : ¬ (7 : Int32) < n) :
    MetFree l (⟨"java/util/Arrays", "fill", "([Ljava/lang/Object;Ljava/lang/Object;)V"⟩ : MethodName) (head1 (Jvm.Cond.code (⟨"java/util/Arrays", "fill", "([Ljava/lang/Object;Ljava/lang/Object;)V"⟩ : MethodName) jdk_65_method_117_code 4 none :: ws) ({ frames := 1, cells := 0, slots := 0, locals := 12 } : Room)) (fun xs U => xs = #[(.ref a1), (.ref z)] ∧ Z.Warmed39 U.vm ∧ U.heap = h0) (fun _ _ _ _ _ => True) (fun _ U o U' => ∃ v L, o = .returned v ∧ Q9 Z a1 z n h0 n0 v U'.heap L ∧ FrameEnd U o U' L ({ frames := 1, cells := 0, slots := 0, locals := 12 } : Room).cells ({ frames := 1, cells := 0, slots := 0, locals := 12 } : Room).slots) := by
  refine MetFree.of_bodySF (plainFor_of_name pn_java_util_Arrays) hisR ?_
  intro p e s m args below meth c s₁ Bd hml0 hP hK
  obtain ⟨rfl, hZ, hh⟩ := hP
  have hx := Bd.exec
  have hby := Bd.bytes
  have hml : c.maxLocals = 4 := hml0
  have hown : s.vm.findClass "java/util/Arrays" = some m.cls := findClass_of_methodNamed Bd.named
  have hnm := (name_of_methodNamed Bd.named Bd.method).1
  have X0 : Stand p l e ({ frames := 1, cells := 0, slots := 0, locals := 12 } : Room) s m #[(.ref a1), (.ref z)] below meth c s₁ [] 0 0 := Stand.of_body Bd
  have e0 : s₁.heap = h0 := by rw [← hh, Bd.state]; rfl
  have N0 := Fr.nil n0
  change own_Fin p.tables e below (fun s₂ o => ∃ v L, o = .returned v ∧ Q9 Z a1 z n h0 n0 v s₂.heap L ∧ FrameEnd s o s₂ L ({ frames := 1, cells := 0, slots := 0, locals := 12 } : Room).cells ({ frames := 1, cells := 0, slots := 0, locals := 12 } : Room).slots) (s₁.setTop (entryFrame m #[(.ref a1), (.ref z)] 4))
  refine own_st (fun t k => castTop (show entryFrame m #[(.ref a1), (.ref z)] 4 = mkF m 0 #[.val (.ref a1), .val (.ref z), .unset, .unset] [] by first | (simp [entryFrame, mkF, argsToLocals, Value.category, maxLocals]; done) | rfl) k) ?_
  show own_Fin p.tables e below _ (s₁.setTop (mkF m 0 #[.val (.ref a1), .val (.ref z), .unset, .unset] []))
  have K0 : Keep h0 h0 [a1] := Keep.refl h0 [a1]
  refine own_st (fun t k => XS.iconst X0.here hx rfl (hb hby d9_0) k) ?_
  show own_Fin p.tables e below _ (s₁.setTop (mkF m 1 #[.val (.ref a1), .val (.ref z), .unset, .unset] [(.int (0 : Int32))]))
  refine own_st (fun t k => XS.istoreN X0.here hx rfl (hb hby d9_1) rfl (l' := #[.val (.ref a1), .val (.ref z), .val (.int (0 : Int32)), .unset]) rfl k) ?_
  show own_Fin p.tables e below _ (s₁.setTop (mkF m 2 #[.val (.ref a1), .val (.ref z), .val (.int (0 : Int32)), .unset] []))
  refine own_st (fun t k => XS.aloadN X0.here hx rfl (hb hby d9_2) rfl rfl k) ?_
  show own_Fin p.tables e below _ (s₁.setTop (mkF m 3 #[.val (.ref a1), .val (.ref z), .val (.int (0 : Int32)), .unset] [(.ref a1)]))
  refine own_st (fun t k => own_len1 X0 hx hZ e0 (own_O.A O_1) (g := (mkF m 3 #[.val (.ref a1), .val (.ref z), .val (.int (0 : Int32)), .unset] [(.ref a1)])) rfl rfl (hb hby d9_3) t k) ?_
  show own_Fin p.tables e below _ (s₁.setTop (mkF m 4 #[.val (.ref a1), .val (.ref z), .val (.int (0 : Int32)), .unset] [(.int n)]))
  refine own_st (fun t k => XS.istoreN X0.here hx rfl (hb hby d9_4) rfl (l' := #[.val (.ref a1), .val (.ref z), .val (.int (0 : Int32)), .val (.int n)]) rfl k) ?_
  show own_Fin p.tables e below _ (s₁.setTop (mkF m 5 #[.val (.ref a1), .val (.ref z), .val (.int (0 : Int32)), .val (.int n)] []))
  refine own_st (fun t k => XS.iloadN X0.here hx rfl (hb hby d9_5) rfl k) ?_
  show own_Fin p.tables e below _ (s₁.setTop (mkF m 6 #[.val (.ref a1), .val (.ref z), .val (.int (0 : Int32)), .val (.int n)] [(.int (0 : Int32))]))
  refine own_st (fun t k => XS.iloadN X0.here hx rfl (hb hby d9_6) rfl k) ?_
  show own_Fin p.tables e below _ (s₁.setTop (mkF m 7 #[.val (.ref a1), .val (.ref z), .val (.int (0 : Int32)), .val (.int n)] [(.int n), (.int (0 : Int32))]))
  rcases Decidable.em ((0 : Int32) < n) with c0 | c0
  · have _ := c0
    refine own_st (fun t k => XS.icmpNo X0.here hx rfl (hb hby d9_7) rfl (XT.ii_ge_f c0) k) ?_
    show own_Fin p.tables e below _ (s₁.setTop (mkF m 10 #[.val (.ref a1), .val (.ref z), .val (.int (0 : Int32)), .val (.int n)] []))
    refine own_st (fun t k => XS.aloadN X0.here hx rfl (hb hby d9_10) rfl rfl k) ?_
    show own_Fin p.tables e below _ (s₁.setTop (mkF m 11 #[.val (.ref a1), .val (.ref z), .val (.int (0 : Int32)), .val (.int n)] [(.ref a1)]))
    refine own_st (fun t k => XS.iloadN X0.here hx rfl (hb hby d9_11) rfl k) ?_
    show own_Fin p.tables e below _ (s₁.setTop (mkF m 12 #[.val (.ref a1), .val (.ref z), .val (.int (0 : Int32)), .val (.int n)] [(.int (0 : Int32)), (.ref a1)]))
    refine own_st (fun t k => XS.aloadN X0.here hx rfl (hb hby d9_12) rfl rfl k) ?_
    show own_Fin p.tables e below _ (s₁.setTop (mkF m 13 #[.val (.ref a1), .val (.ref z), .val (.int (0 : Int32)), .val (.int n)] [(.ref z), (.int (0 : Int32)), (.ref a1)]))
    obtain ⟨T1, h1, X1, e1, W1, st1⟩ := own_stR X0 hx hZ e0 O_1 (j := (0 : Int32)) ⟨by decide, c0⟩ (Or.inr ⟨_, rfl, Ins.self E_z⟩) (g := (mkF m 13 #[.val (.ref a1), .val (.ref z), .val (.int (0 : Int32)), .val (.int n)] [(.ref z), (.int (0 : Int32)), (.ref a1)])) rfl rfl (hb hby d9_13)
    refine own_st st1 ?_
    have O_1'1 := O_1.wr W1
    have E_z'1 := E_z.wr W1
    have K0'1 := K0.wr W1 (Or.inl (List.mem_of_getElem? (i := 0) rfl))
    have N1 := Fr.snoc X1 N0 g_a1
    have Z1 : n0 ≤ h1.size := by rw [W1.size]; exact Z0
    show own_Fin p.tables e below _ (T1.setTop (mkF m 14 #[.val (.ref a1), .val (.ref z), .val (.int (0 : Int32)), .val (.int n)] []))
    refine own_st (fun t k => XS.iinc X1.here hx rfl (hb hby d9_14) rfl (l' := #[.val (.ref a1), .val (.ref z), .val (.int (1 : Int32)), .val (.int n)]) rfl k) ?_
    show own_Fin p.tables e below _ (T1.setTop (mkF m 17 #[.val (.ref a1), .val (.ref z), .val (.int (1 : Int32)), .val (.int n)] []))
    refine own_st (fun t k => XS.goto X1.here hx rfl (pc0 := 17) (pc' := 5) rfl (hb hby d9_17) (by decide) (by decide) k) ?_
    show own_Fin p.tables e below _ (T1.setTop (mkF m 5 #[.val (.ref a1), .val (.ref z), .val (.int (1 : Int32)), .val (.int n)] []))
    refine own_st (fun t k => XS.iloadN X1.here hx rfl (hb hby d9_5) rfl k) ?_
    show own_Fin p.tables e below _ (T1.setTop (mkF m 6 #[.val (.ref a1), .val (.ref z), .val (.int (1 : Int32)), .val (.int n)] [(.int (1 : Int32))]))
    refine own_st (fun t k => XS.iloadN X1.here hx rfl (hb hby d9_6) rfl k) ?_
    show own_Fin p.tables e below _ (T1.setTop (mkF m 7 #[.val (.ref a1), .val (.ref z), .val (.int (1 : Int32)), .val (.int n)] [(.int n), (.int (1 : Int32))]))
    rcases Decidable.em ((1 : Int32) < n) with c1 | c1
    · have _ := c1
      refine own_st (fun t k => XS.icmpNo X1.here hx rfl (hb hby d9_7) rfl (XT.ii_ge_f c1) k) ?_
      show own_Fin p.tables e below _ (T1.setTop (mkF m 10 #[.val (.ref a1), .val (.ref z), .val (.int (1 : Int32)), .val (.int n)] []))
      refine own_st (fun t k => XS.aloadN X1.here hx rfl (hb hby d9_10) rfl rfl k) ?_
      show own_Fin p.tables e below _ (T1.setTop (mkF m 11 #[.val (.ref a1), .val (.ref z), .val (.int (1 : Int32)), .val (.int n)] [(.ref a1)]))
      refine own_st (fun t k => XS.iloadN X1.here hx rfl (hb hby d9_11) rfl k) ?_
      show own_Fin p.tables e below _ (T1.setTop (mkF m 12 #[.val (.ref a1), .val (.ref z), .val (.int (1 : Int32)), .val (.int n)] [(.int (1 : Int32)), (.ref a1)]))
      refine own_st (fun t k => XS.aloadN X1.here hx rfl (hb hby d9_12) rfl rfl k) ?_
      show own_Fin p.tables e below _ (T1.setTop (mkF m 13 #[.val (.ref a1), .val (.ref z), .val (.int (1 : Int32)), .val (.int n)] [(.ref z), (.int (1 : Int32)), (.ref a1)]))
      obtain ⟨T2, h2, X2, e2, W2, st2⟩ := own_stR X1 hx hZ e1 O_1'1 (j := (1 : Int32)) ⟨by decide, c1⟩ (Or.inr ⟨_, rfl, Ins.self E_z'1⟩) (g := (mkF m 13 #[.val (.ref a1), .val (.ref z), .val (.int (1 : Int32)), .val (.int n)] [(.ref z), (.int (1 : Int32)), (.ref a1)])) rfl rfl (hb hby d9_13)
      refine own_st st2 ?_
      have O_1'2 := O_1'1.wr W2
      have E_z'2 := E_z'1.wr W2
      have K0'2 := K0'1.wr W2 (Or.inl (List.mem_of_getElem? (i := 0) rfl))
      have N2 := Fr.snoc X2 N1 g_a1
      have Z2 : n0 ≤ h2.size := by rw [W2.size]; exact Z1
      show own_Fin p.tables e below _ (T2.setTop (mkF m 14 #[.val (.ref a1), .val (.ref z), .val (.int (1 : Int32)), .val (.int n)] []))
      refine own_st (fun t k => XS.iinc X2.here hx rfl (hb hby d9_14) rfl (l' := #[.val (.ref a1), .val (.ref z), .val (.int (2 : Int32)), .val (.int n)]) rfl k) ?_
      show own_Fin p.tables e below _ (T2.setTop (mkF m 17 #[.val (.ref a1), .val (.ref z), .val (.int (2 : Int32)), .val (.int n)] []))
      refine own_st (fun t k => XS.goto X2.here hx rfl (pc0 := 17) (pc' := 5) rfl (hb hby d9_17) (by decide) (by decide) k) ?_
      show own_Fin p.tables e below _ (T2.setTop (mkF m 5 #[.val (.ref a1), .val (.ref z), .val (.int (2 : Int32)), .val (.int n)] []))
      refine own_st (fun t k => XS.iloadN X2.here hx rfl (hb hby d9_5) rfl k) ?_
      show own_Fin p.tables e below _ (T2.setTop (mkF m 6 #[.val (.ref a1), .val (.ref z), .val (.int (2 : Int32)), .val (.int n)] [(.int (2 : Int32))]))
      refine own_st (fun t k => XS.iloadN X2.here hx rfl (hb hby d9_6) rfl k) ?_
      show own_Fin p.tables e below _ (T2.setTop (mkF m 7 #[.val (.ref a1), .val (.ref z), .val (.int (2 : Int32)), .val (.int n)] [(.int n), (.int (2 : Int32))]))
      rcases Decidable.em ((2 : Int32) < n) with c2 | c2
      · have _ := c2
        refine own_st (fun t k => XS.icmpNo X2.here hx rfl (hb hby d9_7) rfl (XT.ii_ge_f c2) k) ?_
        show own_Fin p.tables e below _ (T2.setTop (mkF m 10 #[.val (.ref a1), .val (.ref z), .val (.int (2 : Int32)), .val (.int n)] []))
        refine own_st (fun t k => XS.aloadN X2.here hx rfl (hb hby d9_10) rfl rfl k) ?_
        show own_Fin p.tables e below _ (T2.setTop (mkF m 11 #[.val (.ref a1), .val (.ref z), .val (.int (2 : Int32)), .val (.int n)] [(.ref a1)]))
        refine own_st (fun t k => XS.iloadN X2.here hx rfl (hb hby d9_11) rfl k) ?_
        show own_Fin p.tables e below _ (T2.setTop (mkF m 12 #[.val (.ref a1), .val (.ref z), .val (.int (2 : Int32)), .val (.int n)] [(.int (2 : Int32)), (.ref a1)]))
        refine own_st (fun t k => XS.aloadN X2.here hx rfl (hb hby d9_12) rfl rfl k) ?_
        show own_Fin p.tables e below _ (T2.setTop (mkF m 13 #[.val (.ref a1), .val (.ref z), .val (.int (2 : Int32)), .val (.int n)] [(.ref z), (.int (2 : Int32)), (.ref a1)]))
        obtain ⟨T3, h3, X3, e3, W3, st3⟩ := own_stR X2 hx hZ e2 O_1'2 (j := (2 : Int32)) ⟨by decide, c2⟩ (Or.inr ⟨_, rfl, Ins.self E_z'2⟩) (g := (mkF m 13 #[.val (.ref a1), .val (.ref z), .val (.int (2 : Int32)), .val (.int n)] [(.ref z), (.int (2 : Int32)), (.ref a1)])) rfl rfl (hb hby d9_13)
        refine own_st st3 ?_
        have O_1'3 := O_1'2.wr W3
        have E_z'3 := E_z'2.wr W3
        have K0'3 := K0'2.wr W3 (Or.inl (List.mem_of_getElem? (i := 0) rfl))
        have N3 := Fr.snoc X3 N2 g_a1
        have Z3 : n0 ≤ h3.size := by rw [W3.size]; exact Z2
        show own_Fin p.tables e below _ (T3.setTop (mkF m 14 #[.val (.ref a1), .val (.ref z), .val (.int (2 : Int32)), .val (.int n)] []))
        refine own_st (fun t k => XS.iinc X3.here hx rfl (hb hby d9_14) rfl (l' := #[.val (.ref a1), .val (.ref z), .val (.int (3 : Int32)), .val (.int n)]) rfl k) ?_
        show own_Fin p.tables e below _ (T3.setTop (mkF m 17 #[.val (.ref a1), .val (.ref z), .val (.int (3 : Int32)), .val (.int n)] []))
        refine own_st (fun t k => XS.goto X3.here hx rfl (pc0 := 17) (pc' := 5) rfl (hb hby d9_17) (by decide) (by decide) k) ?_
        show own_Fin p.tables e below _ (T3.setTop (mkF m 5 #[.val (.ref a1), .val (.ref z), .val (.int (3 : Int32)), .val (.int n)] []))
        refine own_st (fun t k => XS.iloadN X3.here hx rfl (hb hby d9_5) rfl k) ?_
        show own_Fin p.tables e below _ (T3.setTop (mkF m 6 #[.val (.ref a1), .val (.ref z), .val (.int (3 : Int32)), .val (.int n)] [(.int (3 : Int32))]))
        refine own_st (fun t k => XS.iloadN X3.here hx rfl (hb hby d9_6) rfl k) ?_
        show own_Fin p.tables e below _ (T3.setTop (mkF m 7 #[.val (.ref a1), .val (.ref z), .val (.int (3 : Int32)), .val (.int n)] [(.int n), (.int (3 : Int32))]))
        rcases Decidable.em ((3 : Int32) < n) with c3 | c3
        · have _ := c3
          refine own_st (fun t k => XS.icmpNo X3.here hx rfl (hb hby d9_7) rfl (XT.ii_ge_f c3) k) ?_
          show own_Fin p.tables e below _ (T3.setTop (mkF m 10 #[.val (.ref a1), .val (.ref z), .val (.int (3 : Int32)), .val (.int n)] []))
          refine own_st (fun t k => XS.aloadN X3.here hx rfl (hb hby d9_10) rfl rfl k) ?_
          show own_Fin p.tables e below _ (T3.setTop (mkF m 11 #[.val (.ref a1), .val (.ref z), .val (.int (3 : Int32)), .val (.int n)] [(.ref a1)]))
          refine own_st (fun t k => XS.iloadN X3.here hx rfl (hb hby d9_11) rfl k) ?_
          show own_Fin p.tables e below _ (T3.setTop (mkF m 12 #[.val (.ref a1), .val (.ref z), .val (.int (3 : Int32)), .val (.int n)] [(.int (3 : Int32)), (.ref a1)]))
          refine own_st (fun t k => XS.aloadN X3.here hx rfl (hb hby d9_12) rfl rfl k) ?_
          show own_Fin p.tables e below _ (T3.setTop (mkF m 13 #[.val (.ref a1), .val (.ref z), .val (.int (3 : Int32)), .val (.int n)] [(.ref z), (.int (3 : Int32)), (.ref a1)]))
          obtain ⟨T4, h4, X4, e4, W4, st4⟩ := own_stR X3 hx hZ e3 O_1'3 (j := (3 : Int32)) ⟨by decide, c3⟩ (Or.inr ⟨_, rfl, Ins.self E_z'3⟩) (g := (mkF m 13 #[.val (.ref a1), .val (.ref z), .val (.int (3 : Int32)), .val (.int n)] [(.ref z), (.int (3 : Int32)), (.ref a1)])) rfl rfl (hb hby d9_13)
          refine own_st st4 ?_
          have O_1'4 := O_1'3.wr W4
          have E_z'4 := E_z'3.wr W4
          have K0'4 := K0'3.wr W4 (Or.inl (List.mem_of_getElem? (i := 0) rfl))
          have N4 := Fr.snoc X4 N3 g_a1
          have Z4 : n0 ≤ h4.size := by rw [W4.size]; exact Z3
          show own_Fin p.tables e below _ (T4.setTop (mkF m 14 #[.val (.ref a1), .val (.ref z), .val (.int (3 : Int32)), .val (.int n)] []))
          refine own_st (fun t k => XS.iinc X4.here hx rfl (hb hby d9_14) rfl (l' := #[.val (.ref a1), .val (.ref z), .val (.int (4 : Int32)), .val (.int n)]) rfl k) ?_
          show own_Fin p.tables e below _ (T4.setTop (mkF m 17 #[.val (.ref a1), .val (.ref z), .val (.int (4 : Int32)), .val (.int n)] []))
          refine own_st (fun t k => XS.goto X4.here hx rfl (pc0 := 17) (pc' := 5) rfl (hb hby d9_17) (by decide) (by decide) k) ?_
          show own_Fin p.tables e below _ (T4.setTop (mkF m 5 #[.val (.ref a1), .val (.ref z), .val (.int (4 : Int32)), .val (.int n)] []))
          refine own_st (fun t k => XS.iloadN X4.here hx rfl (hb hby d9_5) rfl k) ?_
          show own_Fin p.tables e below _ (T4.setTop (mkF m 6 #[.val (.ref a1), .val (.ref z), .val (.int (4 : Int32)), .val (.int n)] [(.int (4 : Int32))]))
          refine own_st (fun t k => XS.iloadN X4.here hx rfl (hb hby d9_6) rfl k) ?_
          show own_Fin p.tables e below _ (T4.setTop (mkF m 7 #[.val (.ref a1), .val (.ref z), .val (.int (4 : Int32)), .val (.int n)] [(.int n), (.int (4 : Int32))]))
          rcases Decidable.em ((4 : Int32) < n) with c4 | c4
          · have _ := c4
            refine own_st (fun t k => XS.icmpNo X4.here hx rfl (hb hby d9_7) rfl (XT.ii_ge_f c4) k) ?_
            show own_Fin p.tables e below _ (T4.setTop (mkF m 10 #[.val (.ref a1), .val (.ref z), .val (.int (4 : Int32)), .val (.int n)] []))
            refine own_st (fun t k => XS.aloadN X4.here hx rfl (hb hby d9_10) rfl rfl k) ?_
            show own_Fin p.tables e below _ (T4.setTop (mkF m 11 #[.val (.ref a1), .val (.ref z), .val (.int (4 : Int32)), .val (.int n)] [(.ref a1)]))
            refine own_st (fun t k => XS.iloadN X4.here hx rfl (hb hby d9_11) rfl k) ?_
            show own_Fin p.tables e below _ (T4.setTop (mkF m 12 #[.val (.ref a1), .val (.ref z), .val (.int (4 : Int32)), .val (.int n)] [(.int (4 : Int32)), (.ref a1)]))
            refine own_st (fun t k => XS.aloadN X4.here hx rfl (hb hby d9_12) rfl rfl k) ?_
            show own_Fin p.tables e below _ (T4.setTop (mkF m 13 #[.val (.ref a1), .val (.ref z), .val (.int (4 : Int32)), .val (.int n)] [(.ref z), (.int (4 : Int32)), (.ref a1)]))
            obtain ⟨T5, h5, X5, e5, W5, st5⟩ := own_stR X4 hx hZ e4 O_1'4 (j := (4 : Int32)) ⟨by decide, c4⟩ (Or.inr ⟨_, rfl, Ins.self E_z'4⟩) (g := (mkF m 13 #[.val (.ref a1), .val (.ref z), .val (.int (4 : Int32)), .val (.int n)] [(.ref z), (.int (4 : Int32)), (.ref a1)])) rfl rfl (hb hby d9_13)
            refine own_st st5 ?_
            have O_1'5 := O_1'4.wr W5
            have E_z'5 := E_z'4.wr W5
            have K0'5 := K0'4.wr W5 (Or.inl (List.mem_of_getElem? (i := 0) rfl))
            have N5 := Fr.snoc X5 N4 g_a1
            have Z5 : n0 ≤ h5.size := by rw [W5.size]; exact Z4
            show own_Fin p.tables e below _ (T5.setTop (mkF m 14 #[.val (.ref a1), .val (.ref z), .val (.int (4 : Int32)), .val (.int n)] []))
            refine own_st (fun t k => XS.iinc X5.here hx rfl (hb hby d9_14) rfl (l' := #[.val (.ref a1), .val (.ref z), .val (.int (5 : Int32)), .val (.int n)]) rfl k) ?_
            show own_Fin p.tables e below _ (T5.setTop (mkF m 17 #[.val (.ref a1), .val (.ref z), .val (.int (5 : Int32)), .val (.int n)] []))
            refine own_st (fun t k => XS.goto X5.here hx rfl (pc0 := 17) (pc' := 5) rfl (hb hby d9_17) (by decide) (by decide) k) ?_
            show own_Fin p.tables e below _ (T5.setTop (mkF m 5 #[.val (.ref a1), .val (.ref z), .val (.int (5 : Int32)), .val (.int n)] []))
            refine own_st (fun t k => XS.iloadN X5.here hx rfl (hb hby d9_5) rfl k) ?_
            show own_Fin p.tables e below _ (T5.setTop (mkF m 6 #[.val (.ref a1), .val (.ref z), .val (.int (5 : Int32)), .val (.int n)] [(.int (5 : Int32))]))
            refine own_st (fun t k => XS.iloadN X5.here hx rfl (hb hby d9_6) rfl k) ?_
            show own_Fin p.tables e below _ (T5.setTop (mkF m 7 #[.val (.ref a1), .val (.ref z), .val (.int (5 : Int32)), .val (.int n)] [(.int n), (.int (5 : Int32))]))
            rcases Decidable.em ((5 : Int32) < n) with c5 | c5
            · have _ := c5
              refine own_st (fun t k => XS.icmpNo X5.here hx rfl (hb hby d9_7) rfl (XT.ii_ge_f c5) k) ?_
              show own_Fin p.tables e below _ (T5.setTop (mkF m 10 #[.val (.ref a1), .val (.ref z), .val (.int (5 : Int32)), .val (.int n)] []))
              refine own_st (fun t k => XS.aloadN X5.here hx rfl (hb hby d9_10) rfl rfl k) ?_
              show own_Fin p.tables e below _ (T5.setTop (mkF m 11 #[.val (.ref a1), .val (.ref z), .val (.int (5 : Int32)), .val (.int n)] [(.ref a1)]))
              refine own_st (fun t k => XS.iloadN X5.here hx rfl (hb hby d9_11) rfl k) ?_
              show own_Fin p.tables e below _ (T5.setTop (mkF m 12 #[.val (.ref a1), .val (.ref z), .val (.int (5 : Int32)), .val (.int n)] [(.int (5 : Int32)), (.ref a1)]))
              refine own_st (fun t k => XS.aloadN X5.here hx rfl (hb hby d9_12) rfl rfl k) ?_
              show own_Fin p.tables e below _ (T5.setTop (mkF m 13 #[.val (.ref a1), .val (.ref z), .val (.int (5 : Int32)), .val (.int n)] [(.ref z), (.int (5 : Int32)), (.ref a1)]))
              obtain ⟨T6, h6, X6, e6, W6, st6⟩ := own_stR X5 hx hZ e5 O_1'5 (j := (5 : Int32)) ⟨by decide, c5⟩ (Or.inr ⟨_, rfl, Ins.self E_z'5⟩) (g := (mkF m 13 #[.val (.ref a1), .val (.ref z), .val (.int (5 : Int32)), .val (.int n)] [(.ref z), (.int (5 : Int32)), (.ref a1)])) rfl rfl (hb hby d9_13)
              refine own_st st6 ?_
              have O_1'6 := O_1'5.wr W6
              have E_z'6 := E_z'5.wr W6
              have K0'6 := K0'5.wr W6 (Or.inl (List.mem_of_getElem? (i := 0) rfl))
              have N6 := Fr.snoc X6 N5 g_a1
              have Z6 : n0 ≤ h6.size := by rw [W6.size]; exact Z5
              show own_Fin p.tables e below _ (T6.setTop (mkF m 14 #[.val (.ref a1), .val (.ref z), .val (.int (5 : Int32)), .val (.int n)] []))
              refine own_st (fun t k => XS.iinc X6.here hx rfl (hb hby d9_14) rfl (l' := #[.val (.ref a1), .val (.ref z), .val (.int (6 : Int32)), .val (.int n)]) rfl k) ?_
              show own_Fin p.tables e below _ (T6.setTop (mkF m 17 #[.val (.ref a1), .val (.ref z), .val (.int (6 : Int32)), .val (.int n)] []))
              refine own_st (fun t k => XS.goto X6.here hx rfl (pc0 := 17) (pc' := 5) rfl (hb hby d9_17) (by decide) (by decide) k) ?_
              show own_Fin p.tables e below _ (T6.setTop (mkF m 5 #[.val (.ref a1), .val (.ref z), .val (.int (6 : Int32)), .val (.int n)] []))
              refine own_st (fun t k => XS.iloadN X6.here hx rfl (hb hby d9_5) rfl k) ?_
              show own_Fin p.tables e below _ (T6.setTop (mkF m 6 #[.val (.ref a1), .val (.ref z), .val (.int (6 : Int32)), .val (.int n)] [(.int (6 : Int32))]))
              refine own_st (fun t k => XS.iloadN X6.here hx rfl (hb hby d9_6) rfl k) ?_
              show own_Fin p.tables e below _ (T6.setTop (mkF m 7 #[.val (.ref a1), .val (.ref z), .val (.int (6 : Int32)), .val (.int n)] [(.int n), (.int (6 : Int32))]))
              rcases Decidable.em ((6 : Int32) < n) with c6 | c6
              · have _ := c6
                refine own_st (fun t k => XS.icmpNo X6.here hx rfl (hb hby d9_7) rfl (XT.ii_ge_f c6) k) ?_
                show own_Fin p.tables e below _ (T6.setTop (mkF m 10 #[.val (.ref a1), .val (.ref z), .val (.int (6 : Int32)), .val (.int n)] []))
                refine own_st (fun t k => XS.aloadN X6.here hx rfl (hb hby d9_10) rfl rfl k) ?_
                show own_Fin p.tables e below _ (T6.setTop (mkF m 11 #[.val (.ref a1), .val (.ref z), .val (.int (6 : Int32)), .val (.int n)] [(.ref a1)]))
                refine own_st (fun t k => XS.iloadN X6.here hx rfl (hb hby d9_11) rfl k) ?_
                show own_Fin p.tables e below _ (T6.setTop (mkF m 12 #[.val (.ref a1), .val (.ref z), .val (.int (6 : Int32)), .val (.int n)] [(.int (6 : Int32)), (.ref a1)]))
                refine own_st (fun t k => XS.aloadN X6.here hx rfl (hb hby d9_12) rfl rfl k) ?_
                show own_Fin p.tables e below _ (T6.setTop (mkF m 13 #[.val (.ref a1), .val (.ref z), .val (.int (6 : Int32)), .val (.int n)] [(.ref z), (.int (6 : Int32)), (.ref a1)]))
                obtain ⟨T7, h7, X7, e7, W7, st7⟩ := own_stR X6 hx hZ e6 O_1'6 (j := (6 : Int32)) ⟨by decide, c6⟩ (Or.inr ⟨_, rfl, Ins.self E_z'6⟩) (g := (mkF m 13 #[.val (.ref a1), .val (.ref z), .val (.int (6 : Int32)), .val (.int n)] [(.ref z), (.int (6 : Int32)), (.ref a1)])) rfl rfl (hb hby d9_13)
                refine own_st st7 ?_
                have O_1'7 := O_1'6.wr W7
                have E_z'7 := E_z'6.wr W7
                have K0'7 := K0'6.wr W7 (Or.inl (List.mem_of_getElem? (i := 0) rfl))
                have N7 := Fr.snoc X7 N6 g_a1
                have Z7 : n0 ≤ h7.size := by rw [W7.size]; exact Z6
                show own_Fin p.tables e below _ (T7.setTop (mkF m 14 #[.val (.ref a1), .val (.ref z), .val (.int (6 : Int32)), .val (.int n)] []))
                refine own_st (fun t k => XS.iinc X7.here hx rfl (hb hby d9_14) rfl (l' := #[.val (.ref a1), .val (.ref z), .val (.int (7 : Int32)), .val (.int n)]) rfl k) ?_
                show own_Fin p.tables e below _ (T7.setTop (mkF m 17 #[.val (.ref a1), .val (.ref z), .val (.int (7 : Int32)), .val (.int n)] []))
                refine own_st (fun t k => XS.goto X7.here hx rfl (pc0 := 17) (pc' := 5) rfl (hb hby d9_17) (by decide) (by decide) k) ?_
                show own_Fin p.tables e below _ (T7.setTop (mkF m 5 #[.val (.ref a1), .val (.ref z), .val (.int (7 : Int32)), .val (.int n)] []))
                refine own_st (fun t k => XS.iloadN X7.here hx rfl (hb hby d9_5) rfl k) ?_
                show own_Fin p.tables e below _ (T7.setTop (mkF m 6 #[.val (.ref a1), .val (.ref z), .val (.int (7 : Int32)), .val (.int n)] [(.int (7 : Int32))]))
                refine own_st (fun t k => XS.iloadN X7.here hx rfl (hb hby d9_6) rfl k) ?_
                show own_Fin p.tables e below _ (T7.setTop (mkF m 7 #[.val (.ref a1), .val (.ref z), .val (.int (7 : Int32)), .val (.int n)] [(.int n), (.int (7 : Int32))]))
                refine own_st (fun t k => XS.icmpYes X7.here hx rfl (pc0 := 7) (pc' := 20) rfl (hb hby d9_7) rfl (XT.ii_ge_t hle7) (by decide) (by decide) k) ?_
                show own_Fin p.tables e below _ (T7.setTop (mkF m 20 #[.val (.ref a1), .val (.ref z), .val (.int (7 : Int32)), .val (.int n)] []))
                obtain ⟨fs, hr, hrun, hended, hW, hsame⟩ := X7.leave (v := none) (fun _ => rfl)
                refine ⟨_, _, X7.returnOut hx Bd.returns (hb hby d9_20) hr, hrun, hended, _, _, rfl, ?_, ⟨_, rfl⟩, hW, hsame.mono (by decide) (by decide)⟩
                show Q9 Z a1 z n h0 n0 _ T7.heap _
                rw [e7]
                exact ⟨rfl, N7, K0'7⟩
              · have _ := c6
                refine own_st (fun t k => XS.icmpYes X6.here hx rfl (pc0 := 7) (pc' := 20) rfl (hb hby d9_7) rfl (XT.ii_ge_t c6) (by decide) (by decide) k) ?_
                show own_Fin p.tables e below _ (T6.setTop (mkF m 20 #[.val (.ref a1), .val (.ref z), .val (.int (6 : Int32)), .val (.int n)] []))
                obtain ⟨fs, hr, hrun, hended, hW, hsame⟩ := X6.leave (v := none) (fun _ => rfl)
                refine ⟨_, _, X6.returnOut hx Bd.returns (hb hby d9_20) hr, hrun, hended, _, _, rfl, ?_, ⟨_, rfl⟩, hW, hsame.mono (by decide) (by decide)⟩
                show Q9 Z a1 z n h0 n0 _ T6.heap _
                rw [e6]
                exact ⟨rfl, N6, K0'6⟩
            · have _ := c5
              refine own_st (fun t k => XS.icmpYes X5.here hx rfl (pc0 := 7) (pc' := 20) rfl (hb hby d9_7) rfl (XT.ii_ge_t c5) (by decide) (by decide) k) ?_
              show own_Fin p.tables e below _ (T5.setTop (mkF m 20 #[.val (.ref a1), .val (.ref z), .val (.int (5 : Int32)), .val (.int n)] []))
              obtain ⟨fs, hr, hrun, hended, hW, hsame⟩ := X5.leave (v := none) (fun _ => rfl)
              refine ⟨_, _, X5.returnOut hx Bd.returns (hb hby d9_20) hr, hrun, hended, _, _, rfl, ?_, ⟨_, rfl⟩, hW, hsame.mono (by decide) (by decide)⟩
              show Q9 Z a1 z n h0 n0 _ T5.heap _
              rw [e5]
              exact ⟨rfl, N5, K0'5⟩
          · have _ := c4
            refine own_st (fun t k => XS.icmpYes X4.here hx rfl (pc0 := 7) (pc' := 20) rfl (hb hby d9_7) rfl (XT.ii_ge_t c4) (by decide) (by decide) k) ?_
            show own_Fin p.tables e below _ (T4.setTop (mkF m 20 #[.val (.ref a1), .val (.ref z), .val (.int (4 : Int32)), .val (.int n)] []))
            obtain ⟨fs, hr, hrun, hended, hW, hsame⟩ := X4.leave (v := none) (fun _ => rfl)
            refine ⟨_, _, X4.returnOut hx Bd.returns (hb hby d9_20) hr, hrun, hended, _, _, rfl, ?_, ⟨_, rfl⟩, hW, hsame.mono (by decide) (by decide)⟩
            show Q9 Z a1 z n h0 n0 _ T4.heap _
            rw [e4]
            exact ⟨rfl, N4, K0'4⟩
        · have _ := c3
          refine own_st (fun t k => XS.icmpYes X3.here hx rfl (pc0 := 7) (pc' := 20) rfl (hb hby d9_7) rfl (XT.ii_ge_t c3) (by decide) (by decide) k) ?_
          show own_Fin p.tables e below _ (T3.setTop (mkF m 20 #[.val (.ref a1), .val (.ref z), .val (.int (3 : Int32)), .val (.int n)] []))
          obtain ⟨fs, hr, hrun, hended, hW, hsame⟩ := X3.leave (v := none) (fun _ => rfl)
          refine ⟨_, _, X3.returnOut hx Bd.returns (hb hby d9_20) hr, hrun, hended, _, _, rfl, ?_, ⟨_, rfl⟩, hW, hsame.mono (by decide) (by decide)⟩
          show Q9 Z a1 z n h0 n0 _ T3.heap _
          rw [e3]
          exact ⟨rfl, N3, K0'3⟩
      · have _ := c2
        refine own_st (fun t k => XS.icmpYes X2.here hx rfl (pc0 := 7) (pc' := 20) rfl (hb hby d9_7) rfl (XT.ii_ge_t c2) (by decide) (by decide) k) ?_
        show own_Fin p.tables e below _ (T2.setTop (mkF m 20 #[.val (.ref a1), .val (.ref z), .val (.int (2 : Int32)), .val (.int n)] []))
        obtain ⟨fs, hr, hrun, hended, hW, hsame⟩ := X2.leave (v := none) (fun _ => rfl)
        refine ⟨_, _, X2.returnOut hx Bd.returns (hb hby d9_20) hr, hrun, hended, _, _, rfl, ?_, ⟨_, rfl⟩, hW, hsame.mono (by decide) (by decide)⟩
        show Q9 Z a1 z n h0 n0 _ T2.heap _
        rw [e2]
        exact ⟨rfl, N2, K0'2⟩
    · have _ := c1
      refine own_st (fun t k => XS.icmpYes X1.here hx rfl (pc0 := 7) (pc' := 20) rfl (hb hby d9_7) rfl (XT.ii_ge_t c1) (by decide) (by decide) k) ?_
      show own_Fin p.tables e below _ (T1.setTop (mkF m 20 #[.val (.ref a1), .val (.ref z), .val (.int (1 : Int32)), .val (.int n)] []))
      obtain ⟨fs, hr, hrun, hended, hW, hsame⟩ := X1.leave (v := none) (fun _ => rfl)
      refine ⟨_, _, X1.returnOut hx Bd.returns (hb hby d9_20) hr, hrun, hended, _, _, rfl, ?_, ⟨_, rfl⟩, hW, hsame.mono (by decide) (by decide)⟩
      show Q9 Z a1 z n h0 n0 _ T1.heap _
      rw [e1]
      exact ⟨rfl, N1, K0'1⟩
  · have _ := c0
    refine own_st (fun t k => XS.icmpYes X0.here hx rfl (pc0 := 7) (pc' := 20) rfl (hb hby d9_7) rfl (XT.ii_ge_t c0) (by decide) (by decide) k) ?_
    show own_Fin p.tables e below _ (s₁.setTop (mkF m 20 #[.val (.ref a1), .val (.ref z), .val (.int (0 : Int32)), .val (.int n)] []))
    obtain ⟨fs, hr, hrun, hended, hW, hsame⟩ := X0.leave (v := none) (fun _ => rfl)
    refine ⟨_, _, X0.returnOut hx Bd.returns (hb hby d9_20) hr, hrun, hended, _, _, rfl, ?_, ⟨_, rfl⟩, hW, hsame.mono (by decide) (by decide)⟩
    show Q9 Z a1 z n h0 n0 _ s₁.heap _
    rw [e0]
    exact ⟨rfl, N0, K0⟩
def Q8 (Z : State) (n : Int32) (aZ : Addr) (h0 : Heap) (n0 : Nat) (v : Option Value) (h : Heap) (L : List Loc) : Prop := ∃ x, v = some (.ref x) ∧ Fr n0 L ∧ Keep h0 h [] ∧ own_O Z h x "java/math/BigInteger" n ∧ Exa Z h x "[Ljava/math/BigInteger;" ∧ n0 ≤ x
set_option maxRecDepth 65536 in
set_option maxHeartbeats 40000000 in
theorem rm8 (l : Launch) (Z : State) (a0 : Array Value) (hw : ∀ d ∈ tables_1, d.before a0 Z = true) (ws : List Jvm.Cond) (n : Int32) (aZ : Addr) (h0 : Heap) (n0 : Nat) (Z0 : n0 ≤ h0.size) (hn0 : ¬ n < 0) (hle7 : ¬ (7 : Int32) < n) (O0 : Old Z n0 h0) (S_Z : Sta Z Z.heap "java/math/BigInteger" "ZERO" "Ljava/math/BigInteger;" (.ref aZ)) (E_Z : Exa Z Z.heap aZ "java/math/BigInteger") :
    MetFree l (⟨"com/example/condense/condense/analysis/AffineHull", "zero", "(I)[Ljava/math/BigInteger;"⟩ : MethodName) (head1 (Jvm.Cond.code (⟨"com/example/condense/condense/analysis/AffineHull", "zero", "(I)[Ljava/math/BigInteger;"⟩ : MethodName) prog_1_method_12_code 2 (some (.array (.object "java/math/BigInteger"))) :: ws) ({ frames := 2, cells := 1, slots := 7, locals := 28 } : Room)) (fun xs U => xs = #[(.int n)] ∧ Z.Warmed39 U.vm ∧ U.heap = h0) (fun _ _ _ _ _ => True) (fun _ U o U' => ∃ v L, o = .returned v ∧ Q8 Z n aZ h0 n0 v U'.heap L ∧ FrameEnd U o U' L ({ frames := 2, cells := 1, slots := 7, locals := 28 } : Room).cells ({ frames := 2, cells := 1, slots := 7, locals := 28 } : Room).slots) := by
  refine MetFree.of_bodySF (plainFor_of_name pn_com_example_condense_condense_analysis_AffineHull) hisR ?_
  intro p e s m args below meth c s₁ Bd hml0 hP hK
  obtain ⟨rfl, hZ, hh⟩ := hP
  have hx := Bd.exec
  have hby := Bd.bytes
  have hml : c.maxLocals = 2 := hml0
  have hown : s.vm.findClass "com/example/condense/condense/analysis/AffineHull" = some m.cls := findClass_of_methodNamed Bd.named
  have hnm := (name_of_methodNamed Bd.named Bd.method).1
  have X0 : Stand p l e ({ frames := 2, cells := 1, slots := 7, locals := 28 } : Room) s m #[(.int n)] below meth c s₁ [] 0 0 := Stand.of_body Bd
  have e0 : s₁.heap = h0 := by rw [← hh, Bd.state]; rfl
  have N0 := Fr.nil n0
  change own_Fin p.tables e below (fun s₂ o => ∃ v L, o = .returned v ∧ Q8 Z n aZ h0 n0 v s₂.heap L ∧ FrameEnd s o s₂ L ({ frames := 2, cells := 1, slots := 7, locals := 28 } : Room).cells ({ frames := 2, cells := 1, slots := 7, locals := 28 } : Room).slots) (s₁.setTop (entryFrame m #[(.int n)] 2))
  refine own_st (fun t k => castTop (show entryFrame m #[(.int n)] 2 = mkF m 0 #[.val (.int n), .unset] [] by first | (simp [entryFrame, mkF, argsToLocals, Value.category, maxLocals]; done) | rfl) k) ?_
  show own_Fin p.tables e below _ (s₁.setTop (mkF m 0 #[.val (.int n), .unset] []))
  have K0 : Keep h0 h0 [] := Keep.refl h0 []
  refine own_st (fun t k => XS.iloadN X0.here hx rfl (hb hby d8_0) rfl k) ?_
  show own_Fin p.tables e below _ (s₁.setTop (mkF m 1 #[.val (.int n), .unset] [(.int n)]))
  obtain ⟨T1, h1, kc1, X1, e1, E1, A1, Ex1, O1, st1⟩ := newRE X0 hx hZ hown (hw _ (List.mem_of_getElem? (i := 52) rfl)) (hw _ (List.mem_of_getElem? (i := 53) rfl)) e0 (g := (mkF m 1 #[.val (.int n), .unset] [(.int n)])) rfl (hb hby d8_1) rfl hn0 (cap := 7) (own_cap hn0 hle7) (by decide) (by decide) (by decide) (ad := "[Ljava/math/BigInteger;") (by decide +kernel)
  obtain ⟨b1, g1⟩ : ∃ z, z = h0.size := ⟨_, rfl⟩
  have g_b1 : n0 ≤ b1 := Nat.le_trans Z0 (Nat.le_of_eq g1.symm)
  have sz_b1 : h0.size ≤ b1 := Nat.le_trans K0.1 (Nat.le_of_eq g1.symm)
  rw [← g1] at A1 Ex1 st1
  refine own_st st1 ?_
  have O0'1 := O0.ext E1
  have K0'1 := K0.ext E1
  have Z1 : n0 ≤ h1.size := Nat.le_trans Z0 E1.1
  have OA1 : own_O Z h1 b1 "java/math/BigInteger" n := ⟨_, A1, sz_new _ _ _, hn0, O1⟩
  show own_Fin p.tables e below _ (T1.setTop (mkF m 4 #[.val (.int n), .unset] [(.ref b1)]))
  refine own_st (fun t k => XS.astoreN X1.here hx rfl (hb hby d8_4) rfl rfl (l' := #[.val (.int n), .val (.ref b1)]) rfl k) ?_
  show own_Fin p.tables e below _ (T1.setTop (mkF m 5 #[.val (.int n), .val (.ref b1)] []))
  refine own_st (fun t k => XS.aloadN X1.here hx rfl (hb hby d8_5) rfl rfl k) ?_
  show own_Fin p.tables e below _ (T1.setTop (mkF m 6 #[.val (.int n), .val (.ref b1)] [(.ref b1)]))
  obtain ⟨T2, X2, e2, st2⟩ := getS (host := "") X1 hx hZ hown (hw _ (List.mem_of_getElem? (i := 54) rfl)) Via.refl e1 (Sta.ext O0'1.2 S_Z) (g := (mkF m 6 #[.val (.int n), .val (.ref b1)] [(.ref b1)])) rfl (hb hby d8_6)
  refine own_st st2 ?_
  show own_Fin p.tables e below _ (T2.setTop (mkF m 9 #[.val (.int n), .val (.ref b1)] [(.ref aZ), (.ref b1)]))
  obtain ⟨_, _, ⟨T3, L3, k3, n3⟩, -, X3, ⟨Lc3, hQ3, l3, y3, z3⟩, st3⟩ := Jvm.LawKit.callS X2 hx (y := (⟨"java/util/Arrays", "fill", "([Ljava/lang/Object;Ljava/lang/Object;)V"⟩ : MethodName)) hown (mvT hZ (hw _ (List.mem_of_getElem? (i := 56) rfl))) (mvT hZ (hw _ (List.mem_of_getElem? (i := 57) rfl))) (mvT hZ (hw _ (List.mem_of_getElem? (i := 58) rfl))) (mvT hZ (hw _ (List.mem_of_getElem? (i := 59) rfl))) (by decide) (backOf (W := 0) (rm9 l Z a0 hw [] b1 aZ n h1 n0 Z1 OA1 g_b1 (Exa.ext O0'1.2 E_Z) hle7) hZ (hw _ (List.mem_of_getElem? (i := 59) rfl)) (hw _ (List.mem_of_getElem? (i := 58) rfl)) (by decide) (by decide)) (g := (mkF m 9 #[.val (.int n), .val (.ref b1)] [(.ref aZ), (.ref b1)])) rfl (by rw [hml]; rfl) (argsL := [(.ref b1), (.ref aZ)]) (rest := []) (lenOf pd___Ljava_lang_Object_Ljava_lang_Object__V rfl) rfl (by show 2 * 0 + _ ≤ _; exact Nat.le_of_eq rfl) (hb hby d8_9) (fun _ _ => ⟨rfl, e2, (by decide : 1 + 0 ≤ _), (by decide : 7 + 0 ≤ _)⟩)
  dsimp only [Pt.U, Pt.locs, Pt.cells, Pt.slots] at X3 l3 y3 z3 st3 hQ3
  subst l3 y3 z3
  obtain ⟨rfl, N3, K3⟩ := hQ3
  refine own_st (st3) ?_
  have O0'3 := O0'1.keep K3 (allS g_b1 all0)
  have K0'3 := K0'1.trans K3 (allS (P := fun x => x ∈ ([] : List Addr) ∨ h0.size ≤ x) (Or.inr sz_b1) all0)
  have Ex1'3 := Ex1.keep K3
  have OA1'3 := OA1.keep K3
  have Z3 : n0 ≤ T3.heap.size := Nat.le_trans Z1 K3.1
  have N3a := Fr.app N0 N3
  show own_Fin p.tables e below _ (T3.setTop (mkF m 12 #[.val (.int n), .val (.ref b1)] []))
  refine own_st (fun t k => XS.aloadN X3.here hx rfl (hb hby d8_12) rfl rfl k) ?_
  show own_Fin p.tables e below _ (T3.setTop (mkF m 13 #[.val (.int n), .val (.ref b1)] [(.ref b1)]))
  obtain ⟨fs, hr, hrun, hended, hW, hsame⟩ := X3.leave (v := (some (.ref b1))) (fun h => by rw [Bd.returns] at h; cases h)
  refine ⟨_, _, retOut X3 hx (t := (.array (.object "java/math/BigInteger"))) Bd.returns rfl (Or.inr (Or.inr (Or.inr (Or.inr ⟨rfl, rfl, rfl⟩)))) (hb hby d8_13) hr, hrun, hended, _, _, rfl, ?_, ⟨_, rfl⟩, hW, hsame.mono (by decide) (by decide)⟩
  show Q8 Z n aZ h0 n0 _ T3.heap _
  exact ⟨b1, rfl, N3a, K0'3, OA1'3, Ex1'3, g_b1⟩
def Q14 (Z : State)  (h0 : Heap) (n0 : Nat) (v : Option Value) (h : Heap) (L : List Loc) : Prop := v = some (.int 10) ∧ Fr n0 L ∧ h = h0
set_option maxRecDepth 65536 in
set_option maxHeartbeats 40000000 in
theorem rm14 (l : Launch) (Z : State) (a0 : Array Value) (hw : ∀ d ∈ tables_1, d.before a0 Z = true) (ws : List Jvm.Cond)  (h0 : Heap) (n0 : Nat) (Z0 : n0 ≤ h0.size)  :
    MetFree l (⟨"java/lang/Math", "max", "(II)I"⟩ : MethodName) (head1 (Jvm.Cond.code (⟨"java/lang/Math", "max", "(II)I"⟩ : MethodName) jdk_29_method_65_code 2 (some .int) :: ws) ({ frames := 1, cells := 0, slots := 0, locals := 12 } : Room)) (fun xs U => xs = #[(.int (10 : Int32)), (.int (1 : Int32))] ∧ Z.Warmed39 U.vm ∧ U.heap = h0) (fun _ _ _ _ _ => True) (fun _ U o U' => ∃ v L, o = .returned v ∧ Q14 Z  h0 n0 v U'.heap L ∧ FrameEnd U o U' L ({ frames := 1, cells := 0, slots := 0, locals := 12 } : Room).cells ({ frames := 1, cells := 0, slots := 0, locals := 12 } : Room).slots) := by
  refine MetFree.of_bodySF (Jvm.Free.JP.mathPlain rfl (by decide +kernel)) hisR ?_
  intro p e s m args below meth c s₁ Bd hml0 hP hK
  obtain ⟨rfl, hZ, hh⟩ := hP
  have hx := Bd.exec
  have hby := Bd.bytes
  have hml : c.maxLocals = 2 := hml0
  have hown : s.vm.findClass "java/lang/Math" = some m.cls := findClass_of_methodNamed Bd.named
  have hnm := (name_of_methodNamed Bd.named Bd.method).1
  have X0 : Stand p l e ({ frames := 1, cells := 0, slots := 0, locals := 12 } : Room) s m #[(.int (10 : Int32)), (.int (1 : Int32))] below meth c s₁ [] 0 0 := Stand.of_body Bd
  have e0 : s₁.heap = h0 := by rw [← hh, Bd.state]; rfl
  have N0 := Fr.nil n0
  change own_Fin p.tables e below (fun s₂ o => ∃ v L, o = .returned v ∧ Q14 Z  h0 n0 v s₂.heap L ∧ FrameEnd s o s₂ L ({ frames := 1, cells := 0, slots := 0, locals := 12 } : Room).cells ({ frames := 1, cells := 0, slots := 0, locals := 12 } : Room).slots) (s₁.setTop (entryFrame m #[(.int (10 : Int32)), (.int (1 : Int32))] 2))
  refine own_st (fun t k => castTop (show entryFrame m #[(.int (10 : Int32)), (.int (1 : Int32))] 2 = mkF m 0 #[.val (.int (10 : Int32)), .val (.int (1 : Int32))] [] by first | (simp [entryFrame, mkF, argsToLocals, Value.category, maxLocals]; done) | rfl) k) ?_
  show own_Fin p.tables e below _ (s₁.setTop (mkF m 0 #[.val (.int (10 : Int32)), .val (.int (1 : Int32))] []))
  refine own_st (fun t k => XS.iloadN X0.here hx rfl (hb hby d14_0) rfl k) ?_
  show own_Fin p.tables e below _ (s₁.setTop (mkF m 1 #[.val (.int (10 : Int32)), .val (.int (1 : Int32))] [(.int (10 : Int32))]))
  refine own_st (fun t k => XS.iloadN X0.here hx rfl (hb hby d14_1) rfl k) ?_
  show own_Fin p.tables e below _ (s₁.setTop (mkF m 2 #[.val (.int (10 : Int32)), .val (.int (1 : Int32))] [(.int (1 : Int32)), (.int (10 : Int32))]))
  refine own_st (fun t k => XS.icmpNo X0.here hx rfl (hb hby d14_2) rfl (XT.ii_lt_f (by decide)) k) ?_
  show own_Fin p.tables e below _ (s₁.setTop (mkF m 5 #[.val (.int (10 : Int32)), .val (.int (1 : Int32))] []))
  refine own_st (fun t k => XS.iloadN X0.here hx rfl (hb hby d14_5) rfl k) ?_
  show own_Fin p.tables e below _ (s₁.setTop (mkF m 6 #[.val (.int (10 : Int32)), .val (.int (1 : Int32))] [(.int (10 : Int32))]))
  refine own_st (fun t k => XS.goto X0.here hx rfl (pc0 := 6) (pc' := 10) rfl (hb hby d14_6) (by decide) (by decide) k) ?_
  show own_Fin p.tables e below _ (s₁.setTop (mkF m 10 #[.val (.int (10 : Int32)), .val (.int (1 : Int32))] [(.int (10 : Int32))]))
  obtain ⟨fs, hr, hrun, hended, hW, hsame⟩ := X0.leave (v := (some (.int (10 : Int32)))) (fun h => by rw [Bd.returns] at h; cases h)
  refine ⟨_, _, retOut X0 hx (t := .int) Bd.returns rfl (Or.inl ⟨rfl, Or.inl rfl, _, rfl⟩) (hb hby d14_10) hr, hrun, hended, _, _, rfl, ?_, ⟨_, rfl⟩, hW, hsame.mono (by decide) (by decide)⟩
  show Q14 Z  h0 n0 _ s₁.heap _
  rw [e0]
  exact ⟨rfl, N0, rfl⟩
def Q13 (Z : State) (a : Addr) (mc : Int32) (aE : Addr) (kE : ClassId) (h0 : Heap) (n0 : Nat) (v : Option Value) (h : Heap) (L : List Loc) : Prop := ∃ x, v = some (.ref x) ∧ Fr n0 L ∧ Keep h0 h [a] ∧ Fld Z h a "java/util/ArrayList" "elementData" "[Ljava/lang/Object;" (.ref x) ∧ Fld Z h a "java/util/ArrayList" "size" "I" (.int (0 : Int32)) ∧ Fld Z h a "java/util/AbstractList" "modCount" "I" (.int mc) ∧ own_O Z h x "java/lang/Object" 10 ∧ h0.size ≤ x
set_option maxRecDepth 65536 in
set_option maxHeartbeats 40000000 in
theorem rm13 (l : Launch) (Z : State) (a0 : Array Value) (hw : ∀ d ∈ tables_1, d.before a0 Z = true) (ws : List Jvm.Cond) (a : Addr) (mc : Int32) (aE : Addr) (kE : ClassId) (h0 : Heap) (n0 : Nat) (Z0 : n0 ≤ h0.size) (F_ed : Fld Z h0 a "java/util/ArrayList" "elementData" "[Ljava/lang/Object;" (.ref aE)) (F_sz : Fld Z h0 a "java/util/ArrayList" "size" "I" (.int (0 : Int32))) (F_mc : Fld Z h0 a "java/util/AbstractList" "modCount" "I" (.int mc)) (E_a : Exa Z h0 a "java/util/ArrayList") (g_a : n0 ≤ a) (O0 : Old Z n0 h0) (S_D : Sta Z Z.heap "java/util/ArrayList" "DEFAULTCAPACITY_EMPTY_ELEMENTDATA" "[Ljava/lang/Object;" (.ref aE)) (V_E : Arv Z Z.heap aE kE (.object "java/lang/Object") 0 [] .null) :
    MetFree l (⟨"java/util/ArrayList", "grow", "(I)[Ljava/lang/Object;"⟩ : MethodName) (head1 (Jvm.Cond.code (⟨"java/util/ArrayList", "grow", "(I)[Ljava/lang/Object;"⟩ : MethodName) jdk_38_method_6_code 4 (some (.array (.object "java/lang/Object"))) :: ws) ({ frames := 2, cells := 1, slots := 10, locals := 28 } : Room)) (fun xs U => xs = #[(.ref a), (.int (1 : Int32))] ∧ Z.Warmed39 U.vm ∧ U.heap = h0) (fun _ _ _ _ _ => True) (fun _ U o U' => ∃ v L, o = .returned v ∧ Q13 Z a mc aE kE h0 n0 v U'.heap L ∧ FrameEnd U o U' L ({ frames := 2, cells := 1, slots := 10, locals := 28 } : Room).cells ({ frames := 2, cells := 1, slots := 10, locals := 28 } : Room).slots) := by
  refine MetFree.of_bodySF (plainFor_of_name pn_java_util_ArrayList) hisR ?_
  intro p e s m args below meth c s₁ Bd hml0 hP hK
  obtain ⟨rfl, hZ, hh⟩ := hP
  have hx := Bd.exec
  have hby := Bd.bytes
  have hml : c.maxLocals = 4 := hml0
  have hown : s.vm.findClass "java/util/ArrayList" = some m.cls := findClass_of_methodNamed Bd.named
  have hnm := (name_of_methodNamed Bd.named Bd.method).1
  have X0 : Stand p l e ({ frames := 2, cells := 1, slots := 10, locals := 28 } : Room) s m #[(.ref a), (.int (1 : Int32))] below meth c s₁ [] 0 0 := Stand.of_body Bd
  have e0 : s₁.heap = h0 := by rw [← hh, Bd.state]; rfl
  have N0 := Fr.nil n0
  change own_Fin p.tables e below (fun s₂ o => ∃ v L, o = .returned v ∧ Q13 Z a mc aE kE h0 n0 v s₂.heap L ∧ FrameEnd s o s₂ L ({ frames := 2, cells := 1, slots := 10, locals := 28 } : Room).cells ({ frames := 2, cells := 1, slots := 10, locals := 28 } : Room).slots) (s₁.setTop (entryFrame m #[(.ref a), (.int (1 : Int32))] 4))
  refine own_st (fun t k => castTop (show entryFrame m #[(.ref a), (.int (1 : Int32))] 4 = mkF m 0 #[.val (.ref a), .val (.int (1 : Int32)), .unset, .unset] [] by first | (simp [entryFrame, mkF, argsToLocals, Value.category, maxLocals]; done) | rfl) k) ?_
  show own_Fin p.tables e below _ (s₁.setTop (mkF m 0 #[.val (.ref a), .val (.int (1 : Int32)), .unset, .unset] []))
  have K0 : Keep h0 h0 [a] := Keep.refl h0 [a]
  refine own_st (fun t k => XS.aloadN X0.here hx rfl (hb hby d13_0) rfl rfl k) ?_
  show own_Fin p.tables e below _ (s₁.setTop (mkF m 1 #[.val (.ref a), .val (.int (1 : Int32)), .unset, .unset] [(.ref a)]))
  obtain ⟨T1, X1, e1, st1⟩ := getF X0 hx hZ hown (host := "") (Or.inl (hw _ (List.mem_of_getElem? (i := 31) rfl))) Via.refl e0 F_ed (g := (mkF m 1 #[.val (.ref a), .val (.int (1 : Int32)), .unset, .unset] [(.ref a)])) rfl rfl (hb hby d13_1)
  refine own_st st1 ?_
  show own_Fin p.tables e below _ (T1.setTop (mkF m 4 #[.val (.ref a), .val (.int (1 : Int32)), .unset, .unset] [(.ref aE)]))
  refine own_st (fun t k => own_alen X1 hx hZ e1 (Arv.ext V_E O0.2) (g := (mkF m 4 #[.val (.ref a), .val (.int (1 : Int32)), .unset, .unset] [(.ref aE)])) rfl rfl (hb hby d13_4) t k) ?_
  show own_Fin p.tables e below _ (T1.setTop (mkF m 5 #[.val (.ref a), .val (.int (1 : Int32)), .unset, .unset] [(.int (0 : Int32))]))
  refine own_st (fun t k => XS.istoreN X1.here hx rfl (hb hby d13_5) rfl (l' := #[.val (.ref a), .val (.int (1 : Int32)), .val (.int (0 : Int32)), .unset]) rfl k) ?_
  show own_Fin p.tables e below _ (T1.setTop (mkF m 6 #[.val (.ref a), .val (.int (1 : Int32)), .val (.int (0 : Int32)), .unset] []))
  refine own_st (fun t k => XS.iloadN X1.here hx rfl (hb hby d13_6) rfl k) ?_
  show own_Fin p.tables e below _ (T1.setTop (mkF m 7 #[.val (.ref a), .val (.int (1 : Int32)), .val (.int (0 : Int32)), .unset] [(.int (0 : Int32))]))
  refine own_st (fun t k => XS.ifNo X1.here hx rfl (hb hby d13_7) rfl (XT.i0_gt_f (by decide)) k) ?_
  show own_Fin p.tables e below _ (T1.setTop (mkF m 10 #[.val (.ref a), .val (.int (1 : Int32)), .val (.int (0 : Int32)), .unset] []))
  refine own_st (fun t k => XS.aloadN X1.here hx rfl (hb hby d13_10) rfl rfl k) ?_
  show own_Fin p.tables e below _ (T1.setTop (mkF m 11 #[.val (.ref a), .val (.int (1 : Int32)), .val (.int (0 : Int32)), .unset] [(.ref a)]))
  obtain ⟨T2, X2, e2, st2⟩ := getF X1 hx hZ hown (host := "") (Or.inl (hw _ (List.mem_of_getElem? (i := 31) rfl))) Via.refl e1 F_ed (g := (mkF m 11 #[.val (.ref a), .val (.int (1 : Int32)), .val (.int (0 : Int32)), .unset] [(.ref a)])) rfl rfl (hb hby d13_11)
  refine own_st st2 ?_
  show own_Fin p.tables e below _ (T2.setTop (mkF m 14 #[.val (.ref a), .val (.int (1 : Int32)), .val (.int (0 : Int32)), .unset] [(.ref aE)]))
  obtain ⟨T3, X3, e3, st3⟩ := getS (host := "") X2 hx hZ hown (hw _ (List.mem_of_getElem? (i := 30) rfl)) Via.refl e2 (Sta.ext O0.2 S_D) (g := (mkF m 14 #[.val (.ref a), .val (.int (1 : Int32)), .val (.int (0 : Int32)), .unset] [(.ref aE)])) rfl (hb hby d13_14)
  refine own_st st3 ?_
  show own_Fin p.tables e below _ (T3.setTop (mkF m 17 #[.val (.ref a), .val (.int (1 : Int32)), .val (.int (0 : Int32)), .unset] [(.ref aE), (.ref aE)]))
  refine own_st (fun t k => XT.acmpYes X3.here hx rfl (pc0 := 17) (pc' := 45) rfl (hb hby d13_17) rfl rfl rfl (XT.aa_eq_t rfl) (by decide) (by decide) k) ?_
  show own_Fin p.tables e below _ (T3.setTop (mkF m 45 #[.val (.ref a), .val (.int (1 : Int32)), .val (.int (0 : Int32)), .unset] []))
  refine own_st (fun t k => XS.aloadN X3.here hx rfl (hb hby d13_45) rfl rfl k) ?_
  show own_Fin p.tables e below _ (T3.setTop (mkF m 46 #[.val (.ref a), .val (.int (1 : Int32)), .val (.int (0 : Int32)), .unset] [(.ref a)]))
  refine own_st (fun t k => XS.bipush X3.here hx rfl (hb hby d13_46) k) ?_
  show own_Fin p.tables e below _ (T3.setTop (mkF m 48 #[.val (.ref a), .val (.int (1 : Int32)), .val (.int (0 : Int32)), .unset] [(.int (10 : Int32)), (.ref a)]))
  refine own_st (fun t k => XS.iloadN X3.here hx rfl (hb hby d13_48) rfl k) ?_
  show own_Fin p.tables e below _ (T3.setTop (mkF m 49 #[.val (.ref a), .val (.int (1 : Int32)), .val (.int (0 : Int32)), .unset] [(.int (1 : Int32)), (.int (10 : Int32)), (.ref a)]))
  obtain ⟨_, _, ⟨T4, L4, k4, n4⟩, -, X4, ⟨Lc4, hQ4, l4, y4, z4⟩, st4⟩ := Jvm.LawKit.callS X3 hx (y := (⟨"java/lang/Math", "max", "(II)I"⟩ : MethodName)) hown (mvT hZ (hw _ (List.mem_of_getElem? (i := 90) rfl))) (mvT hZ (hw _ (List.mem_of_getElem? (i := 91) rfl))) (mvT hZ (hw _ (List.mem_of_getElem? (i := 92) rfl))) (mvT hZ (hw _ (List.mem_of_getElem? (i := 93) rfl))) (by decide) (backOf (W := 1) (rm14 l Z a0 hw [] h0 n0 Z0) hZ (hw _ (List.mem_of_getElem? (i := 93) rfl)) (hw _ (List.mem_of_getElem? (i := 92) rfl)) (by decide) (by decide)) (g := (mkF m 49 #[.val (.ref a), .val (.int (1 : Int32)), .val (.int (0 : Int32)), .unset] [(.int (1 : Int32)), (.int (10 : Int32)), (.ref a)])) rfl (by rw [hml]; rfl) (argsL := [(.int (10 : Int32)), (.int (1 : Int32))]) (rest := [(.ref a)]) (lenOf pd__II_I rfl) rfl (by show 2 * 0 + _ ≤ _; exact Nat.le_of_eq rfl) (hb hby d13_49) (fun _ _ => ⟨rfl, e3, (by decide : 0 + 0 ≤ _), (by decide : 0 + 0 ≤ _)⟩)
  dsimp only [Pt.U, Pt.locs, Pt.cells, Pt.slots] at X4 l4 y4 z4 st4 hQ4
  subst l4 y4 z4
  obtain ⟨rfl, N4, q4⟩ := hQ4
  refine own_st (st4) ?_
  have N4a := Fr.app N0 N4
  show own_Fin p.tables e below _ (T4.setTop (mkF m 52 #[.val (.ref a), .val (.int (1 : Int32)), .val (.int (0 : Int32)), .unset] [(.int (10 : Int32)), (.ref a)]))
  obtain ⟨T5, h5, kc5, X5, e5, E5, A5, O5, st5⟩ := newR X4 hx hZ hown (hw _ (List.mem_of_getElem? (i := 94) rfl)) (hw _ (List.mem_of_getElem? (i := 95) rfl)) q4 (g := (mkF m 52 #[.val (.ref a), .val (.int (1 : Int32)), .val (.int (0 : Int32)), .unset] [(.int (10 : Int32)), (.ref a)])) rfl (hb hby d13_52) rfl (by decide) (cap := 10) (by decide) (by decide) (by decide) (by decide)
  obtain ⟨b5, g5⟩ : ∃ z, z = h0.size := ⟨_, rfl⟩
  have ne_a_b5 : a ≠ b5 := Nat.ne_of_lt (Nat.lt_of_lt_of_le F_ed.lt (Nat.le_of_eq g5.symm))
  have g_b5 : n0 ≤ b5 := Nat.le_trans Z0 (Nat.le_of_eq g5.symm)
  have sz_b5 : h0.size ≤ b5 := Nat.le_trans K0.1 (Nat.le_of_eq g5.symm)
  rw [← g5] at A5 st5
  refine own_st st5 ?_
  have F_ed'5 := F_ed.ext E5
  have F_sz'5 := F_sz.ext E5
  have F_mc'5 := F_mc.ext E5
  have E_a'5 := E_a.ext E5
  have O0'5 := O0.ext E5
  have K0'5 := K0.ext E5
  have Z5 : n0 ≤ h5.size := Nat.le_trans Z0 E5.1
  have OA5 : own_O Z h5 b5 "java/lang/Object" (10 : Int32) := ⟨_, A5, sz_new _ _ _, (by decide), O5⟩
  show own_Fin p.tables e below _ (T5.setTop (mkF m 55 #[.val (.ref a), .val (.int (1 : Int32)), .val (.int (0 : Int32)), .unset] [(.ref b5), (.ref a)]))
  refine own_st (fun t k => XS.dupX1 X5.here hx rfl (hb hby d13_55) rfl rfl rfl k) ?_
  show own_Fin p.tables e below _ (T5.setTop (mkF m 56 #[.val (.ref a), .val (.int (1 : Int32)), .val (.int (0 : Int32)), .unset] [(.ref b5), (.ref a), (.ref b5)]))
  obtain ⟨T6, h6, X6, e6, W6, st6⟩ := putF X5 hx hZ hown (host := "") (Or.inl (hw _ (List.mem_of_getElem? (i := 31) rfl))) Via.refl e5 F_ed'5 E_a'5 (Or.inl (hw _ (List.mem_of_getElem? (i := 32) rfl))) (hw _ (List.mem_of_getElem? (i := 10) rfl)) (ty := (.array (.object "java/lang/Object"))) (by decide) rfl rfl (g := (mkF m 56 #[.val (.ref a), .val (.int (1 : Int32)), .val (.int (0 : Int32)), .unset] [(.ref b5), (.ref a), (.ref b5)])) rfl rfl (hb hby d13_56)
  refine own_st st6 ?_
  have F_ed'6 := F_ed'5.same W6
  have F_sz'6 := F_sz'5.other W6 (Or.inr (slot_ne (Or.inl (hw _ (List.mem_of_getElem? (i := 74) rfl))) (Or.inl (hw _ (List.mem_of_getElem? (i := 32) rfl))) (by decide) (t := .int) (t' := (.array (.object "java/lang/Object"))) (by decide) (by decide)))
  have F_mc'6 := F_mc'5.other W6 (Or.inr (slot_ne (Or.inl (hw _ (List.mem_of_getElem? (i := 29) rfl))) (Or.inl (hw _ (List.mem_of_getElem? (i := 32) rfl))) (by decide) (t := .int) (t' := (.array (.object "java/lang/Object"))) (by decide) (by decide)))
  have E_a'6 := E_a'5.wr W6
  have O0'6 := O0'5.wr W6 g_a
  have K0'6 := K0'5.wr W6 (Or.inl (List.mem_of_getElem? (i := 0) rfl))
  have OA5'6 := OA5.wr W6
  have N6 := Fr.snoc X6 N4a g_a
  have Z6 : n0 ≤ h6.size := by rw [W6.size]; exact Z5
  show own_Fin p.tables e below _ (T6.setTop (mkF m 59 #[.val (.ref a), .val (.int (1 : Int32)), .val (.int (0 : Int32)), .unset] [(.ref b5)]))
  obtain ⟨fs, hr, hrun, hended, hW, hsame⟩ := X6.leave (v := (some (.ref b5))) (fun h => by rw [Bd.returns] at h; cases h)
  refine ⟨_, _, retOut X6 hx (t := (.array (.object "java/lang/Object"))) Bd.returns rfl (Or.inr (Or.inr (Or.inr (Or.inr ⟨rfl, rfl, rfl⟩)))) (hb hby d13_59) hr, hrun, hended, _, _, rfl, ?_, ⟨_, rfl⟩, hW, hsame.mono (by decide) (by decide)⟩
  show Q13 Z a mc aE kE h0 n0 _ T6.heap _
  rw [e6]
  exact ⟨b5, rfl, N6, K0'6, F_ed'6, F_sz'6, F_mc'6, OA5'6, sz_b5⟩
def Q12 (Z : State) (a : Addr) (mc : Int32) (aE : Addr) (kE : ClassId) (h0 : Heap) (n0 : Nat) (v : Option Value) (h : Heap) (L : List Loc) : Prop := ∃ x, v = some (.ref x) ∧ Fr n0 L ∧ Keep h0 h [a] ∧ Fld Z h a "java/util/ArrayList" "elementData" "[Ljava/lang/Object;" (.ref x) ∧ Fld Z h a "java/util/ArrayList" "size" "I" (.int (0 : Int32)) ∧ Fld Z h a "java/util/AbstractList" "modCount" "I" (.int mc) ∧ own_O Z h x "java/lang/Object" 10 ∧ h0.size ≤ x
set_option maxRecDepth 65536 in
set_option maxHeartbeats 40000000 in
theorem rm12 (l : Launch) (Z : State) (a0 : Array Value) (hw : ∀ d ∈ tables_1, d.before a0 Z = true) (ws : List Jvm.Cond) (a : Addr) (mc : Int32) (aE : Addr) (kE : ClassId) (h0 : Heap) (n0 : Nat) (Z0 : n0 ≤ h0.size) (F_ed : Fld Z h0 a "java/util/ArrayList" "elementData" "[Ljava/lang/Object;" (.ref aE)) (F_sz : Fld Z h0 a "java/util/ArrayList" "size" "I" (.int (0 : Int32))) (F_mc : Fld Z h0 a "java/util/AbstractList" "modCount" "I" (.int mc)) (E_a : Exa Z h0 a "java/util/ArrayList") (g_a : n0 ≤ a) (O0 : Old Z n0 h0) (S_D : Sta Z Z.heap "java/util/ArrayList" "DEFAULTCAPACITY_EMPTY_ELEMENTDATA" "[Ljava/lang/Object;" (.ref aE)) (V_E : Arv Z Z.heap aE kE (.object "java/lang/Object") 0 [] .null) :
    MetFree l (⟨"java/util/ArrayList", "grow", "()[Ljava/lang/Object;"⟩ : MethodName) (head1 (Jvm.Cond.code (⟨"java/util/ArrayList", "grow", "()[Ljava/lang/Object;"⟩ : MethodName) jdk_38_method_7_code 1 (some (.array (.object "java/lang/Object"))) :: ws) ({ frames := 3, cells := 1, slots := 10, locals := 44 } : Room)) (fun xs U => xs = #[(.ref a)] ∧ Z.Warmed39 U.vm ∧ U.heap = h0) (fun _ _ _ _ _ => True) (fun _ U o U' => ∃ v L, o = .returned v ∧ Q12 Z a mc aE kE h0 n0 v U'.heap L ∧ FrameEnd U o U' L ({ frames := 3, cells := 1, slots := 10, locals := 44 } : Room).cells ({ frames := 3, cells := 1, slots := 10, locals := 44 } : Room).slots) := by
  refine MetFree.of_bodySF (plainFor_of_name pn_java_util_ArrayList) hisR ?_
  intro p e s m args below meth c s₁ Bd hml0 hP hK
  obtain ⟨rfl, hZ, hh⟩ := hP
  have hx := Bd.exec
  have hby := Bd.bytes
  have hml : c.maxLocals = 1 := hml0
  have hown : s.vm.findClass "java/util/ArrayList" = some m.cls := findClass_of_methodNamed Bd.named
  have hnm := (name_of_methodNamed Bd.named Bd.method).1
  have X0 : Stand p l e ({ frames := 3, cells := 1, slots := 10, locals := 44 } : Room) s m #[(.ref a)] below meth c s₁ [] 0 0 := Stand.of_body Bd
  have e0 : s₁.heap = h0 := by rw [← hh, Bd.state]; rfl
  have N0 := Fr.nil n0
  change own_Fin p.tables e below (fun s₂ o => ∃ v L, o = .returned v ∧ Q12 Z a mc aE kE h0 n0 v s₂.heap L ∧ FrameEnd s o s₂ L ({ frames := 3, cells := 1, slots := 10, locals := 44 } : Room).cells ({ frames := 3, cells := 1, slots := 10, locals := 44 } : Room).slots) (s₁.setTop (entryFrame m #[(.ref a)] 1))
  refine own_st (fun t k => castTop (show entryFrame m #[(.ref a)] 1 = mkF m 0 #[.val (.ref a)] [] by first | (simp [entryFrame, mkF, argsToLocals, Value.category, maxLocals]; done) | rfl) k) ?_
  show own_Fin p.tables e below _ (s₁.setTop (mkF m 0 #[.val (.ref a)] []))
  refine own_st (fun t k => XS.aloadN X0.here hx rfl (hb hby d12_0) rfl rfl k) ?_
  show own_Fin p.tables e below _ (s₁.setTop (mkF m 1 #[.val (.ref a)] [(.ref a)]))
  refine own_st (fun t k => XS.aloadN X0.here hx rfl (hb hby d12_1) rfl rfl k) ?_
  show own_Fin p.tables e below _ (s₁.setTop (mkF m 2 #[.val (.ref a)] [(.ref a), (.ref a)]))
  obtain ⟨T1, X1, e1, st1⟩ := getF X0 hx hZ hown (host := "") (Or.inl (hw _ (List.mem_of_getElem? (i := 73) rfl))) Via.refl e0 F_sz (g := (mkF m 2 #[.val (.ref a)] [(.ref a), (.ref a)])) rfl rfl (hb hby d12_2)
  refine own_st st1 ?_
  show own_Fin p.tables e below _ (T1.setTop (mkF m 5 #[.val (.ref a)] [(.int (0 : Int32)), (.ref a)]))
  refine own_st (fun t k => XS.iconst X1.here hx rfl (hb hby d12_5) k) ?_
  show own_Fin p.tables e below _ (T1.setTop (mkF m 6 #[.val (.ref a)] [(.int (1 : Int32)), (.int (0 : Int32)), (.ref a)]))
  refine own_st (fun t k => XS.iadd X1.here hx rfl (hb hby d12_6) rfl k) ?_
  show own_Fin p.tables e below _ (T1.setTop (mkF m 7 #[.val (.ref a)] [(.int (1 : Int32)), (.ref a)]))
  obtain ⟨cq2, qa2, qb2⟩ := E_a.cell
  obtain ⟨_, _, ⟨T2, L2, k2, n2⟩, -, X2, ⟨Lc2, hQ2, l2, y2, z2⟩, st2⟩ := X1.privateBack hx (y := (⟨"java/util/ArrayList", "grow", "(I)[Ljava/lang/Object;"⟩ : MethodName)) hown (mvT hZ (hw _ (List.mem_of_getElem? (i := 85) rfl))) (mvT hZ (hw _ (List.mem_of_getElem? (i := 86) rfl))) (mvT hZ (hw _ (List.mem_of_getElem? (i := 88) rfl))) (Cond.privateMethod_at (mvP hZ (hw _ (List.mem_of_getElem? (i := 87) rfl)) (args := #[]))) (mvT hZ (hw _ (List.mem_of_getElem? (i := 89) rfl))) (by decide) (backOf (W := 0) (rm13 l Z a0 hw [] a mc aE kE h0 n0 Z0 F_ed F_sz F_mc E_a g_a O0 S_D V_E) hZ (hw _ (List.mem_of_getElem? (i := 89) rfl)) (hw _ (List.mem_of_getElem? (i := 11) rfl)) (by decide) (by decide)) (g := (mkF m 7 #[.val (.ref a)] [(.int (1 : Int32)), (.ref a)])) rfl (by rw [hml]; rfl) (Steps.refl _) (a := a) (by rw [e1]; exact qa2) qb2 (argsL := [(.int (1 : Int32))]) (rest := []) (lenOf pd__I__Ljava_lang_Object_ rfl) rfl (by show 2 * 0 + _ ≤ _; exact Nat.le_of_eq rfl) (hb hby d12_7) (fun _ _ => ⟨rfl, e1, (by decide : 0 + 1 ≤ _), (by decide : 0 + 10 ≤ _)⟩)
  dsimp only [Pt.U, Pt.locs, Pt.cells, Pt.slots] at X2 l2 y2 z2 st2 hQ2
  subst l2 y2 z2
  obtain ⟨x2, rfl, N2, K2, Fe2, Fs2, Fm2, Ox2, sz_x2⟩ := hQ2
  refine own_st (fun t k => st2.trans k) ?_
  have E_a'2 := E_a.keep K2
  have O0'2 := O0.keep K2 (allS g_a all0)
  have Z2 : n0 ≤ T2.heap.size := Nat.le_trans Z0 K2.1
  have N2a := Fr.app N0 N2
  show own_Fin p.tables e below _ (T2.setTop (mkF m 10 #[.val (.ref a)] [(.ref x2)]))
  obtain ⟨fs, hr, hrun, hended, hW, hsame⟩ := X2.leave (v := (some (.ref x2))) (fun h => by rw [Bd.returns] at h; cases h)
  refine ⟨_, _, retOut X2 hx (t := (.array (.object "java/lang/Object"))) Bd.returns rfl (Or.inr (Or.inr (Or.inr (Or.inr ⟨rfl, rfl, rfl⟩)))) (hb hby d12_10) hr, hrun, hended, _, _, rfl, ?_, ⟨_, rfl⟩, hW, hsame.mono (by decide) (by decide)⟩
  show Q12 Z a mc aE kE h0 n0 _ T2.heap _
  exact ⟨x2, rfl, N2a, K2, Fe2, Fs2, Fm2, Ox2, sz_x2⟩
def QP0 (Z : State) (a : Addr) (y : Addr) (mc : Int32) (aE : Addr) (kE : ClassId) (h0 : Heap) (n0 : Nat) (v : Option Value) (h : Heap) (L : List Loc) : Prop := v = none ∧ Fr n0 L ∧ Keep h0 h [a] ∧ ∃ x, Fld Z h a "java/util/ArrayList" "elementData" "[Ljava/lang/Object;" (.ref x) ∧ Fld Z h a "java/util/ArrayList" "size" "I" (.int (1 : Int32)) ∧ (∃ mc', Fld Z h a "java/util/AbstractList" "modCount" "I" (.int mc')) ∧ own_O Z h x "java/lang/Object" 10 ∧ h0.size ≤ x
set_option maxRecDepth 65536 in
set_option maxHeartbeats 40000000 in
theorem rmP0 (l : Launch) (Z : State) (a0 : Array Value) (hw : ∀ d ∈ tables_1, d.before a0 Z = true) (ws : List Jvm.Cond) (a : Addr) (y : Addr) (mc : Int32) (aE : Addr) (kE : ClassId) (h0 : Heap) (n0 : Nat) (Z0 : n0 ≤ h0.size) (F_ed : Fld Z h0 a "java/util/ArrayList" "elementData" "[Ljava/lang/Object;" (.ref aE)) (F_sz : Fld Z h0 a "java/util/ArrayList" "size" "I" (.int (0 : Int32))) (F_mc : Fld Z h0 a "java/util/AbstractList" "modCount" "I" (.int mc)) (E_a : Exa Z h0 a "java/util/ArrayList") (g_a : n0 ≤ a) (O0 : Old Z n0 h0) (S_D : Sta Z Z.heap "java/util/ArrayList" "DEFAULTCAPACITY_EMPTY_ELEMENTDATA" "[Ljava/lang/Object;" (.ref aE)) (V_E : Arv Z Z.heap aE kE (.object "java/lang/Object") 0 [] .null) (E_y : Exa Z h0 y "[Ljava/math/BigInteger;") :
    MetFree l (⟨"java/util/ArrayList", "add", "(Ljava/lang/Object;[Ljava/lang/Object;I)V"⟩ : MethodName) (head1 (Jvm.Cond.code (⟨"java/util/ArrayList", "add", "(Ljava/lang/Object;[Ljava/lang/Object;I)V"⟩ : MethodName) jdk_38_method_24_code 4 none :: ws) ({ frames := 4, cells := 1, slots := 10, locals := 60 } : Room)) (fun xs U => xs = #[(.ref a), (.ref y), (.ref aE), (.int (0 : Int32))] ∧ Z.Warmed39 U.vm ∧ U.heap = h0) (fun _ _ _ _ _ => True) (fun _ U o U' => ∃ v L, o = .returned v ∧ QP0 Z a y mc aE kE h0 n0 v U'.heap L ∧ FrameEnd U o U' L ({ frames := 4, cells := 1, slots := 10, locals := 60 } : Room).cells ({ frames := 4, cells := 1, slots := 10, locals := 60 } : Room).slots) := by
  refine MetFree.of_bodySF (plainFor_of_name pn_java_util_ArrayList) hisR ?_
  intro p e s m args below meth c s₁ Bd hml0 hP hK
  obtain ⟨rfl, hZ, hh⟩ := hP
  have hx := Bd.exec
  have hby := Bd.bytes
  have hml : c.maxLocals = 4 := hml0
  have hown : s.vm.findClass "java/util/ArrayList" = some m.cls := findClass_of_methodNamed Bd.named
  have hnm := (name_of_methodNamed Bd.named Bd.method).1
  have X0 : Stand p l e ({ frames := 4, cells := 1, slots := 10, locals := 60 } : Room) s m #[(.ref a), (.ref y), (.ref aE), (.int (0 : Int32))] below meth c s₁ [] 0 0 := Stand.of_body Bd
  have e0 : s₁.heap = h0 := by rw [← hh, Bd.state]; rfl
  have N0 := Fr.nil n0
  change own_Fin p.tables e below (fun s₂ o => ∃ v L, o = .returned v ∧ QP0 Z a y mc aE kE h0 n0 v s₂.heap L ∧ FrameEnd s o s₂ L ({ frames := 4, cells := 1, slots := 10, locals := 60 } : Room).cells ({ frames := 4, cells := 1, slots := 10, locals := 60 } : Room).slots) (s₁.setTop (entryFrame m #[(.ref a), (.ref y), (.ref aE), (.int (0 : Int32))] 4))
  refine own_st (fun t k => castTop (show entryFrame m #[(.ref a), (.ref y), (.ref aE), (.int (0 : Int32))] 4 = mkF m 0 #[.val (.ref a), .val (.ref y), .val (.ref aE), .val (.int (0 : Int32))] [] by first | (simp [entryFrame, mkF, argsToLocals, Value.category, maxLocals]; done) | rfl) k) ?_
  show own_Fin p.tables e below _ (s₁.setTop (mkF m 0 #[.val (.ref a), .val (.ref y), .val (.ref aE), .val (.int (0 : Int32))] []))
  have K0 : Keep h0 h0 [a] := Keep.refl h0 [a]
  refine own_st (fun t k => XS.iloadN X0.here hx rfl (hb hby d11_0) rfl k) ?_
  show own_Fin p.tables e below _ (s₁.setTop (mkF m 1 #[.val (.ref a), .val (.ref y), .val (.ref aE), .val (.int (0 : Int32))] [(.int (0 : Int32))]))
  refine own_st (fun t k => XS.aloadN X0.here hx rfl (hb hby d11_1) rfl rfl k) ?_
  show own_Fin p.tables e below _ (s₁.setTop (mkF m 2 #[.val (.ref a), .val (.ref y), .val (.ref aE), .val (.int (0 : Int32))] [(.ref aE), (.int (0 : Int32))]))
  refine own_st (fun t k => own_alen X0 hx hZ e0 (Arv.ext V_E O0.2) (g := (mkF m 2 #[.val (.ref a), .val (.ref y), .val (.ref aE), .val (.int (0 : Int32))] [(.ref aE), (.int (0 : Int32))])) rfl rfl (hb hby d11_2) t k) ?_
  show own_Fin p.tables e below _ (s₁.setTop (mkF m 3 #[.val (.ref a), .val (.ref y), .val (.ref aE), .val (.int (0 : Int32))] [(.int (0 : Int32)), (.int (0 : Int32))]))
  refine own_st (fun t k => XS.icmpNo X0.here hx rfl (hb hby d11_3) rfl (XT.ii_ne_f (by decide)) k) ?_
  show own_Fin p.tables e below _ (s₁.setTop (mkF m 6 #[.val (.ref a), .val (.ref y), .val (.ref aE), .val (.int (0 : Int32))] []))
  refine own_st (fun t k => XS.aloadN X0.here hx rfl (hb hby d11_6) rfl rfl k) ?_
  show own_Fin p.tables e below _ (s₁.setTop (mkF m 7 #[.val (.ref a), .val (.ref y), .val (.ref aE), .val (.int (0 : Int32))] [(.ref a)]))
  obtain ⟨cq1, qa1, qb1⟩ := E_a.cell
  obtain ⟨_, _, ⟨T1, L1, k1, n1⟩, -, X1, ⟨Lc1, hQ1, l1, y1, z1⟩, st1⟩ := X0.privateBack hx (y := (⟨"java/util/ArrayList", "grow", "()[Ljava/lang/Object;"⟩ : MethodName)) hown (mvT hZ (hw _ (List.mem_of_getElem? (i := 80) rfl))) (mvT hZ (hw _ (List.mem_of_getElem? (i := 81) rfl))) (mvT hZ (hw _ (List.mem_of_getElem? (i := 83) rfl))) (Cond.privateMethod_at (mvP hZ (hw _ (List.mem_of_getElem? (i := 82) rfl)) (args := #[]))) (mvT hZ (hw _ (List.mem_of_getElem? (i := 84) rfl))) (by decide) (backOf (W := 0) (rm12 l Z a0 hw [] a mc aE kE h0 n0 Z0 F_ed F_sz F_mc E_a g_a O0 S_D V_E) hZ (hw _ (List.mem_of_getElem? (i := 84) rfl)) (hw _ (List.mem_of_getElem? (i := 11) rfl)) (by decide) (by decide)) (g := (mkF m 7 #[.val (.ref a), .val (.ref y), .val (.ref aE), .val (.int (0 : Int32))] [(.ref a)])) rfl (by rw [hml]; rfl) (Steps.refl _) (a := a) (by rw [e0]; exact qa1) qb1 (argsL := []) (rest := []) (lenOf pd____Ljava_lang_Object_ rfl) rfl (by show 2 * 0 + _ ≤ _; exact Nat.le_of_eq rfl) (hb hby d11_7) (fun _ _ => ⟨rfl, e0, (by decide : 0 + 1 ≤ _), (by decide : 0 + 10 ≤ _)⟩)
  dsimp only [Pt.U, Pt.locs, Pt.cells, Pt.slots] at X1 l1 y1 z1 st1 hQ1
  subst l1 y1 z1
  obtain ⟨x1, rfl, N1, K1, Fe1, Fs1, Fm1, Ox1, sz_x1⟩ := hQ1
  refine own_st (fun t k => st1.trans k) ?_
  have E_a'1 := E_a.keep K1
  have O0'1 := O0.keep K1 (allS g_a all0)
  have E_y'1 := E_y.keep K1
  have K0'1 := K0.trans K1 (allS (P := fun x => x ∈ ([a] : List Addr) ∨ h0.size ≤ x) (Or.inl (List.mem_of_getElem? (i := 0) rfl)) all0)
  have Z1 : n0 ≤ T1.heap.size := Nat.le_trans Z0 K1.1
  have N1a := Fr.app N0 N1
  show own_Fin p.tables e below _ (T1.setTop (mkF m 10 #[.val (.ref a), .val (.ref y), .val (.ref aE), .val (.int (0 : Int32))] [(.ref x1)]))
  have g_x1 : n0 ≤ x1 := Nat.le_trans Z0 sz_x1
  refine own_st (fun t k => XS.astoreN X1.here hx rfl (hb hby d11_10) rfl rfl (l' := #[.val (.ref a), .val (.ref y), .val (.ref x1), .val (.int (0 : Int32))]) rfl k) ?_
  show own_Fin p.tables e below _ (T1.setTop (mkF m 11 #[.val (.ref a), .val (.ref y), .val (.ref x1), .val (.int (0 : Int32))] []))
  refine own_st (fun t k => XS.aloadN X1.here hx rfl (hb hby d11_11) rfl rfl k) ?_
  show own_Fin p.tables e below _ (T1.setTop (mkF m 12 #[.val (.ref a), .val (.ref y), .val (.ref x1), .val (.int (0 : Int32))] [(.ref x1)]))
  refine own_st (fun t k => XS.iloadN X1.here hx rfl (hb hby d11_12) rfl k) ?_
  show own_Fin p.tables e below _ (T1.setTop (mkF m 13 #[.val (.ref a), .val (.ref y), .val (.ref x1), .val (.int (0 : Int32))] [(.int (0 : Int32)), (.ref x1)]))
  refine own_st (fun t k => XS.aloadN X1.here hx rfl (hb hby d11_13) rfl rfl k) ?_
  show own_Fin p.tables e below _ (T1.setTop (mkF m 14 #[.val (.ref a), .val (.ref y), .val (.ref x1), .val (.int (0 : Int32))] [(.ref y), (.int (0 : Int32)), (.ref x1)]))
  obtain ⟨T2, h2, X2, e2, W2, st2⟩ := own_stR X1 hx hZ rfl Ox1 (j := (0 : Int32)) ⟨by decide, by decide⟩ (Or.inr ⟨_, rfl, Ins.of_exa E_y'1 (hw _ (List.mem_of_getElem? (i := 96) rfl))⟩) (g := (mkF m 14 #[.val (.ref a), .val (.ref y), .val (.ref x1), .val (.int (0 : Int32))] [(.ref y), (.int (0 : Int32)), (.ref x1)])) rfl rfl (hb hby d11_14)
  refine own_st st2 ?_
  have E_a'2 := E_a'1.wr W2
  have O0'2 := O0'1.wr W2 g_x1
  have E_y'2 := E_y'1.wr W2
  have K0'2 := K0'1.wr W2 (Or.inr sz_x1)
  have Fe1'2 := Fe1.other W2 (Or.inl (own_neEA E_a'1 (hw _ (List.mem_of_getElem? (i := 10) rfl)) (own_O.A Ox1)))
  have Fs1'2 := Fs1.other W2 (Or.inl (own_neEA E_a'1 (hw _ (List.mem_of_getElem? (i := 10) rfl)) (own_O.A Ox1)))
  have Fm1'2 := Fm1.other W2 (Or.inl (own_neEA E_a'1 (hw _ (List.mem_of_getElem? (i := 10) rfl)) (own_O.A Ox1)))
  have Ox1'2 := Ox1.wr W2
  have N2 := Fr.snoc X2 N1a g_x1
  have Z2 : n0 ≤ h2.size := by rw [W2.size]; exact Z1
  show own_Fin p.tables e below _ (T2.setTop (mkF m 15 #[.val (.ref a), .val (.ref y), .val (.ref x1), .val (.int (0 : Int32))] []))
  refine own_st (fun t k => XS.aloadN X2.here hx rfl (hb hby d11_15) rfl rfl k) ?_
  show own_Fin p.tables e below _ (T2.setTop (mkF m 16 #[.val (.ref a), .val (.ref y), .val (.ref x1), .val (.int (0 : Int32))] [(.ref a)]))
  refine own_st (fun t k => XS.iloadN X2.here hx rfl (hb hby d11_16) rfl k) ?_
  show own_Fin p.tables e below _ (T2.setTop (mkF m 17 #[.val (.ref a), .val (.ref y), .val (.ref x1), .val (.int (0 : Int32))] [(.int (0 : Int32)), (.ref a)]))
  refine own_st (fun t k => XS.iconst X2.here hx rfl (hb hby d11_17) k) ?_
  show own_Fin p.tables e below _ (T2.setTop (mkF m 18 #[.val (.ref a), .val (.ref y), .val (.ref x1), .val (.int (0 : Int32))] [(.int (1 : Int32)), (.int (0 : Int32)), (.ref a)]))
  refine own_st (fun t k => XS.iadd X2.here hx rfl (hb hby d11_18) rfl k) ?_
  show own_Fin p.tables e below _ (T2.setTop (mkF m 19 #[.val (.ref a), .val (.ref y), .val (.ref x1), .val (.int (0 : Int32))] [(.int (1 : Int32)), (.ref a)]))
  obtain ⟨T3, h3, X3, e3, W3, st3⟩ := putF X2 hx hZ hown (host := "") (Or.inl (hw _ (List.mem_of_getElem? (i := 73) rfl))) Via.refl e2 Fs1'2 E_a'2 (Or.inl (hw _ (List.mem_of_getElem? (i := 74) rfl))) (hw _ (List.mem_of_getElem? (i := 10) rfl)) (ty := .int) (by decide) rfl rfl (g := (mkF m 19 #[.val (.ref a), .val (.ref y), .val (.ref x1), .val (.int (0 : Int32))] [(.int (1 : Int32)), (.ref a)])) rfl rfl (hb hby d11_19)
  refine own_st st3 ?_
  have E_a'3 := E_a'2.wr W3
  have O0'3 := O0'2.wr W3 g_a
  have E_y'3 := E_y'2.wr W3
  have K0'3 := K0'2.wr W3 (Or.inl (List.mem_of_getElem? (i := 0) rfl))
  have Fe1'3 := Fe1'2.other W3 (Or.inr (slot_ne (Or.inl (hw _ (List.mem_of_getElem? (i := 32) rfl))) (Or.inl (hw _ (List.mem_of_getElem? (i := 74) rfl))) (by decide) (t := (.array (.object "java/lang/Object"))) (t' := .int) (by decide) (by decide)))
  have Fs1'3 := Fs1'2.same W3
  have Fm1'3 := Fm1'2.other W3 (Or.inr (slot_ne (Or.inl (hw _ (List.mem_of_getElem? (i := 29) rfl))) (Or.inl (hw _ (List.mem_of_getElem? (i := 74) rfl))) (by decide) (t := .int) (t' := .int) (by decide) (by decide)))
  have Ox1'3 := Ox1'2.wr W3
  have N3 := Fr.snoc X3 N2 g_a
  have Z3 : n0 ≤ h3.size := by rw [W3.size]; exact Z2
  show own_Fin p.tables e below _ (T3.setTop (mkF m 22 #[.val (.ref a), .val (.ref y), .val (.ref x1), .val (.int (0 : Int32))] []))
  obtain ⟨fs, hr, hrun, hended, hW, hsame⟩ := X3.leave (v := none) (fun _ => rfl)
  refine ⟨_, _, X3.returnOut hx Bd.returns (hb hby d11_22) hr, hrun, hended, _, _, rfl, ?_, ⟨_, rfl⟩, hW, hsame.mono (by decide) (by decide)⟩
  show QP0 Z a y mc aE kE h0 n0 _ T3.heap _
  rw [e3]
  exact ⟨rfl, N3, K0'3, x1, Fe1'3, Fs1'3, ⟨_, Fm1'3⟩, Ox1'3, sz_x1⟩
def QP1 (Z : State) (a : Addr) (y : Addr) (mc : Int32) (ed : Addr) (i : Int32) (j : Int32) (h0 : Heap) (n0 : Nat) (v : Option Value) (h : Heap) (L : List Loc) : Prop := v = none ∧ Fr n0 L ∧ Keep h0 h [a, ed] ∧ Fld Z h a "java/util/ArrayList" "elementData" "[Ljava/lang/Object;" (.ref ed) ∧ Fld Z h a "java/util/ArrayList" "size" "I" (.int j) ∧ (∃ mc', Fld Z h a "java/util/AbstractList" "modCount" "I" (.int mc'))
set_option maxRecDepth 65536 in
set_option maxHeartbeats 40000000 in
theorem rmP1 (l : Launch) (Z : State) (a0 : Array Value) (hw : ∀ d ∈ tables_1, d.before a0 Z = true) (ws : List Jvm.Cond) (a : Addr) (y : Addr) (mc : Int32) (ed : Addr) (i : Int32) (j : Int32) (h0 : Heap) (n0 : Nat) (Z0 : n0 ≤ h0.size) (F_ed : Fld Z h0 a "java/util/ArrayList" "elementData" "[Ljava/lang/Object;" (.ref ed)) (F_sz : Fld Z h0 a "java/util/ArrayList" "size" "I" (.int i)) (F_mc : Fld Z h0 a "java/util/AbstractList" "modCount" "I" (.int mc)) (E_a : Exa Z h0 a "java/util/ArrayList") (g_a : n0 ≤ a) (O_ed : own_O Z h0 ed "java/lang/Object" 10) (g_ed : n0 ≤ ed) (E_y : Exa Z h0 y "[Ljava/math/BigInteger;") (hi : i = 1 ∨ i = 2 ∨ i = 3 ∨ i = 4 ∨ i = 5 ∨ i = 6) (hj : i + 1 = j) :
    MetFree l (⟨"java/util/ArrayList", "add", "(Ljava/lang/Object;[Ljava/lang/Object;I)V"⟩ : MethodName) (head1 (Jvm.Cond.code (⟨"java/util/ArrayList", "add", "(Ljava/lang/Object;[Ljava/lang/Object;I)V"⟩ : MethodName) jdk_38_method_24_code 4 none :: ws) ({ frames := 4, cells := 1, slots := 10, locals := 60 } : Room)) (fun xs U => xs = #[(.ref a), (.ref y), (.ref ed), (.int i)] ∧ Z.Warmed39 U.vm ∧ U.heap = h0) (fun _ _ _ _ _ => True) (fun _ U o U' => ∃ v L, o = .returned v ∧ QP1 Z a y mc ed i j h0 n0 v U'.heap L ∧ FrameEnd U o U' L ({ frames := 4, cells := 1, slots := 10, locals := 60 } : Room).cells ({ frames := 4, cells := 1, slots := 10, locals := 60 } : Room).slots) := by
  refine MetFree.of_bodySF (plainFor_of_name pn_java_util_ArrayList) hisR ?_
  intro p e s m args below meth c s₁ Bd hml0 hP hK
  obtain ⟨rfl, hZ, hh⟩ := hP
  have hx := Bd.exec
  have hby := Bd.bytes
  have hml : c.maxLocals = 4 := hml0
  have hown : s.vm.findClass "java/util/ArrayList" = some m.cls := findClass_of_methodNamed Bd.named
  have hnm := (name_of_methodNamed Bd.named Bd.method).1
  have X0 : Stand p l e ({ frames := 4, cells := 1, slots := 10, locals := 60 } : Room) s m #[(.ref a), (.ref y), (.ref ed), (.int i)] below meth c s₁ [] 0 0 := Stand.of_body Bd
  have e0 : s₁.heap = h0 := by rw [← hh, Bd.state]; rfl
  have N0 := Fr.nil n0
  change own_Fin p.tables e below (fun s₂ o => ∃ v L, o = .returned v ∧ QP1 Z a y mc ed i j h0 n0 v s₂.heap L ∧ FrameEnd s o s₂ L ({ frames := 4, cells := 1, slots := 10, locals := 60 } : Room).cells ({ frames := 4, cells := 1, slots := 10, locals := 60 } : Room).slots) (s₁.setTop (entryFrame m #[(.ref a), (.ref y), (.ref ed), (.int i)] 4))
  refine own_st (fun t k => castTop (show entryFrame m #[(.ref a), (.ref y), (.ref ed), (.int i)] 4 = mkF m 0 #[.val (.ref a), .val (.ref y), .val (.ref ed), .val (.int i)] [] by first | (simp [entryFrame, mkF, argsToLocals, Value.category, maxLocals]; done) | rfl) k) ?_
  show own_Fin p.tables e below _ (s₁.setTop (mkF m 0 #[.val (.ref a), .val (.ref y), .val (.ref ed), .val (.int i)] []))
  have K0 : Keep h0 h0 [a, ed] := Keep.refl h0 [a, ed]
  refine own_st (fun t k => XS.iloadN X0.here hx rfl (hb hby d11_0) rfl k) ?_
  show own_Fin p.tables e below _ (s₁.setTop (mkF m 1 #[.val (.ref a), .val (.ref y), .val (.ref ed), .val (.int i)] [(.int i)]))
  refine own_st (fun t k => XS.aloadN X0.here hx rfl (hb hby d11_1) rfl rfl k) ?_
  show own_Fin p.tables e below _ (s₁.setTop (mkF m 2 #[.val (.ref a), .val (.ref y), .val (.ref ed), .val (.int i)] [(.ref ed), (.int i)]))
  refine own_st (fun t k => own_len1 X0 hx hZ e0 (own_O.A O_ed) (g := (mkF m 2 #[.val (.ref a), .val (.ref y), .val (.ref ed), .val (.int i)] [(.ref ed), (.int i)])) rfl rfl (hb hby d11_2) t k) ?_
  show own_Fin p.tables e below _ (s₁.setTop (mkF m 3 #[.val (.ref a), .val (.ref y), .val (.ref ed), .val (.int i)] [(.int (10 : Int32)), (.int i)]))
  refine own_st (fun t k => XS.icmpYes X0.here hx rfl (pc0 := 3) (pc' := 11) rfl (hb hby d11_3) rfl (XT.ii_ne_t (own_i10 hi)) (by decide) (by decide) k) ?_
  show own_Fin p.tables e below _ (s₁.setTop (mkF m 11 #[.val (.ref a), .val (.ref y), .val (.ref ed), .val (.int i)] []))
  refine own_st (fun t k => XS.aloadN X0.here hx rfl (hb hby d11_11) rfl rfl k) ?_
  show own_Fin p.tables e below _ (s₁.setTop (mkF m 12 #[.val (.ref a), .val (.ref y), .val (.ref ed), .val (.int i)] [(.ref ed)]))
  refine own_st (fun t k => XS.iloadN X0.here hx rfl (hb hby d11_12) rfl k) ?_
  show own_Fin p.tables e below _ (s₁.setTop (mkF m 13 #[.val (.ref a), .val (.ref y), .val (.ref ed), .val (.int i)] [(.int i), (.ref ed)]))
  refine own_st (fun t k => XS.aloadN X0.here hx rfl (hb hby d11_13) rfl rfl k) ?_
  show own_Fin p.tables e below _ (s₁.setTop (mkF m 14 #[.val (.ref a), .val (.ref y), .val (.ref ed), .val (.int i)] [(.ref y), (.int i), (.ref ed)]))
  obtain ⟨T1, h1, X1, e1, W1, st1⟩ := own_stR X0 hx hZ e0 O_ed (j := i) (own_iin hi) (Or.inr ⟨_, rfl, Ins.of_exa E_y (hw _ (List.mem_of_getElem? (i := 96) rfl))⟩) (g := (mkF m 14 #[.val (.ref a), .val (.ref y), .val (.ref ed), .val (.int i)] [(.ref y), (.int i), (.ref ed)])) rfl rfl (hb hby d11_14)
  refine own_st st1 ?_
  have F_ed'1 := F_ed.other W1 (Or.inl (own_neEA E_a (hw _ (List.mem_of_getElem? (i := 10) rfl)) (own_O.A O_ed)))
  have F_sz'1 := F_sz.other W1 (Or.inl (own_neEA E_a (hw _ (List.mem_of_getElem? (i := 10) rfl)) (own_O.A O_ed)))
  have F_mc'1 := F_mc.other W1 (Or.inl (own_neEA E_a (hw _ (List.mem_of_getElem? (i := 10) rfl)) (own_O.A O_ed)))
  have E_a'1 := E_a.wr W1
  have O_ed'1 := O_ed.wr W1
  have E_y'1 := E_y.wr W1
  have K0'1 := K0.wr W1 (Or.inl (List.mem_of_getElem? (i := 1) rfl))
  have N1 := Fr.snoc X1 N0 g_ed
  have Z1 : n0 ≤ h1.size := by rw [W1.size]; exact Z0
  show own_Fin p.tables e below _ (T1.setTop (mkF m 15 #[.val (.ref a), .val (.ref y), .val (.ref ed), .val (.int i)] []))
  refine own_st (fun t k => XS.aloadN X1.here hx rfl (hb hby d11_15) rfl rfl k) ?_
  show own_Fin p.tables e below _ (T1.setTop (mkF m 16 #[.val (.ref a), .val (.ref y), .val (.ref ed), .val (.int i)] [(.ref a)]))
  refine own_st (fun t k => XS.iloadN X1.here hx rfl (hb hby d11_16) rfl k) ?_
  show own_Fin p.tables e below _ (T1.setTop (mkF m 17 #[.val (.ref a), .val (.ref y), .val (.ref ed), .val (.int i)] [(.int i), (.ref a)]))
  refine own_st (fun t k => XS.iconst X1.here hx rfl (hb hby d11_17) k) ?_
  show own_Fin p.tables e below _ (T1.setTop (mkF m 18 #[.val (.ref a), .val (.ref y), .val (.ref ed), .val (.int i)] [(.int (1 : Int32)), (.int i), (.ref a)]))
  refine own_st (fun t k => XS.iadd X1.here hx rfl (hb hby d11_18) rfl k) ?_
  show own_Fin p.tables e below _ (T1.setTop (mkF m 19 #[.val (.ref a), .val (.ref y), .val (.ref ed), .val (.int i)] [(.int (i + (1 : Int32))), (.ref a)]))
  obtain ⟨T2, h2, X2, e2, W2, st2⟩ := putF X1 hx hZ hown (host := "") (Or.inl (hw _ (List.mem_of_getElem? (i := 73) rfl))) Via.refl e1 F_sz'1 E_a'1 (Or.inl (hw _ (List.mem_of_getElem? (i := 74) rfl))) (hw _ (List.mem_of_getElem? (i := 10) rfl)) (ty := .int) (by decide) rfl rfl (g := (mkF m 19 #[.val (.ref a), .val (.ref y), .val (.ref ed), .val (.int i)] [(.int (i + (1 : Int32))), (.ref a)])) rfl rfl (hb hby d11_19)
  refine own_st st2 ?_
  have F_ed'2 := F_ed'1.other W2 (Or.inr (slot_ne (Or.inl (hw _ (List.mem_of_getElem? (i := 32) rfl))) (Or.inl (hw _ (List.mem_of_getElem? (i := 74) rfl))) (by decide) (t := (.array (.object "java/lang/Object"))) (t' := .int) (by decide) (by decide)))
  have F_sz'2 := F_sz'1.same W2
  have F_mc'2 := F_mc'1.other W2 (Or.inr (slot_ne (Or.inl (hw _ (List.mem_of_getElem? (i := 29) rfl))) (Or.inl (hw _ (List.mem_of_getElem? (i := 74) rfl))) (by decide) (t := .int) (t' := .int) (by decide) (by decide)))
  have E_a'2 := E_a'1.wr W2
  have O_ed'2 := O_ed'1.wr W2
  have E_y'2 := E_y'1.wr W2
  have K0'2 := K0'1.wr W2 (Or.inl (List.mem_of_getElem? (i := 0) rfl))
  have N2 := Fr.snoc X2 N1 g_a
  have Z2 : n0 ≤ h2.size := by rw [W2.size]; exact Z1
  show own_Fin p.tables e below _ (T2.setTop (mkF m 22 #[.val (.ref a), .val (.ref y), .val (.ref ed), .val (.int i)] []))
  obtain ⟨fs, hr, hrun, hended, hW, hsame⟩ := X2.leave (v := none) (fun _ => rfl)
  refine ⟨_, _, X2.returnOut hx Bd.returns (hb hby d11_22) hr, hrun, hended, _, _, rfl, ?_, ⟨_, rfl⟩, hW, hsame.mono (by decide) (by decide)⟩
  show QP1 Z a y mc ed i j h0 n0 _ T2.heap _
  rw [e2]
  exact ⟨rfl, N2, K0'2, F_ed'2, hj ▸ F_sz'2, _, F_mc'2⟩
def QA0 (Z : State) (a : Addr) (y : Addr) (mc : Int32) (aE : Addr) (kE : ClassId) (h0 : Heap) (n0 : Nat) (v : Option Value) (h : Heap) (L : List Loc) : Prop := v = some (.int 1) ∧ Fr n0 L ∧ Keep h0 h [a] ∧ ∃ x, Fld Z h a "java/util/ArrayList" "elementData" "[Ljava/lang/Object;" (.ref x) ∧ Fld Z h a "java/util/ArrayList" "size" "I" (.int (1 : Int32)) ∧ (∃ mc', Fld Z h a "java/util/AbstractList" "modCount" "I" (.int mc')) ∧ own_O Z h x "java/lang/Object" 10 ∧ h0.size ≤ x
set_option maxRecDepth 65536 in
set_option maxHeartbeats 40000000 in
theorem rmA0 (l : Launch) (Z : State) (a0 : Array Value) (hw : ∀ d ∈ tables_1, d.before a0 Z = true) (ws : List Jvm.Cond) (a : Addr) (y : Addr) (mc : Int32) (aE : Addr) (kE : ClassId) (h0 : Heap) (n0 : Nat) (Z0 : n0 ≤ h0.size) (F_ed : Fld Z h0 a "java/util/ArrayList" "elementData" "[Ljava/lang/Object;" (.ref aE)) (F_sz : Fld Z h0 a "java/util/ArrayList" "size" "I" (.int (0 : Int32))) (F_mc : Fld Z h0 a "java/util/AbstractList" "modCount" "I" (.int mc)) (E_a : Exa Z h0 a "java/util/ArrayList") (g_a : n0 ≤ a) (O0 : Old Z n0 h0) (S_D : Sta Z Z.heap "java/util/ArrayList" "DEFAULTCAPACITY_EMPTY_ELEMENTDATA" "[Ljava/lang/Object;" (.ref aE)) (V_E : Arv Z Z.heap aE kE (.object "java/lang/Object") 0 [] .null) (E_y : Exa Z h0 y "[Ljava/math/BigInteger;") :
    MetFree l (⟨"java/util/ArrayList", "add", "(Ljava/lang/Object;)Z"⟩ : MethodName) (head1 (Jvm.Cond.code (⟨"java/util/ArrayList", "add", "(Ljava/lang/Object;)Z"⟩ : MethodName) jdk_38_method_25_code 2 (some .boolean) :: ws) ({ frames := 5, cells := 1, slots := 10, locals := 76 } : Room)) (fun xs U => xs = #[(.ref a), (.ref y)] ∧ Z.Warmed39 U.vm ∧ U.heap = h0) (fun _ _ _ _ _ => True) (fun _ U o U' => ∃ v L, o = .returned v ∧ QA0 Z a y mc aE kE h0 n0 v U'.heap L ∧ FrameEnd U o U' L ({ frames := 5, cells := 1, slots := 10, locals := 76 } : Room).cells ({ frames := 5, cells := 1, slots := 10, locals := 76 } : Room).slots) := by
  refine MetFree.of_bodySF (plainFor_of_name pn_java_util_ArrayList) hisR ?_
  intro p e s m args below meth c s₁ Bd hml0 hP hK
  obtain ⟨rfl, hZ, hh⟩ := hP
  have hx := Bd.exec
  have hby := Bd.bytes
  have hml : c.maxLocals = 2 := hml0
  have hown : s.vm.findClass "java/util/ArrayList" = some m.cls := findClass_of_methodNamed Bd.named
  have hnm := (name_of_methodNamed Bd.named Bd.method).1
  have X0 : Stand p l e ({ frames := 5, cells := 1, slots := 10, locals := 76 } : Room) s m #[(.ref a), (.ref y)] below meth c s₁ [] 0 0 := Stand.of_body Bd
  have e0 : s₁.heap = h0 := by rw [← hh, Bd.state]; rfl
  have N0 := Fr.nil n0
  change own_Fin p.tables e below (fun s₂ o => ∃ v L, o = .returned v ∧ QA0 Z a y mc aE kE h0 n0 v s₂.heap L ∧ FrameEnd s o s₂ L ({ frames := 5, cells := 1, slots := 10, locals := 76 } : Room).cells ({ frames := 5, cells := 1, slots := 10, locals := 76 } : Room).slots) (s₁.setTop (entryFrame m #[(.ref a), (.ref y)] 2))
  refine own_st (fun t k => castTop (show entryFrame m #[(.ref a), (.ref y)] 2 = mkF m 0 #[.val (.ref a), .val (.ref y)] [] by first | (simp [entryFrame, mkF, argsToLocals, Value.category, maxLocals]; done) | rfl) k) ?_
  show own_Fin p.tables e below _ (s₁.setTop (mkF m 0 #[.val (.ref a), .val (.ref y)] []))
  have K0 : Keep h0 h0 [a] := Keep.refl h0 [a]
  refine own_st (fun t k => XS.aloadN X0.here hx rfl (hb hby d10_0) rfl rfl k) ?_
  show own_Fin p.tables e below _ (s₁.setTop (mkF m 1 #[.val (.ref a), .val (.ref y)] [(.ref a)]))
  refine own_st (fun t k => XS.dup X0.here hx rfl (hb hby d10_1) rfl rfl k) ?_
  show own_Fin p.tables e below _ (s₁.setTop (mkF m 2 #[.val (.ref a), .val (.ref y)] [(.ref a), (.ref a)]))
  obtain ⟨T1, X1, e1, st1⟩ := getF X0 hx hZ hown (host := "") (Or.inl (hw _ (List.mem_of_getElem? (i := 71) rfl))) (Via.of (hw _ (List.mem_of_getElem? (i := 72) rfl))) e0 F_mc (g := (mkF m 2 #[.val (.ref a), .val (.ref y)] [(.ref a), (.ref a)])) rfl rfl (hb hby d10_2)
  refine own_st st1 ?_
  show own_Fin p.tables e below _ (T1.setTop (mkF m 5 #[.val (.ref a), .val (.ref y)] [(.int mc), (.ref a)]))
  refine own_st (fun t k => XS.iconst X1.here hx rfl (hb hby d10_5) k) ?_
  show own_Fin p.tables e below _ (T1.setTop (mkF m 6 #[.val (.ref a), .val (.ref y)] [(.int (1 : Int32)), (.int mc), (.ref a)]))
  refine own_st (fun t k => XS.iadd X1.here hx rfl (hb hby d10_6) rfl k) ?_
  show own_Fin p.tables e below _ (T1.setTop (mkF m 7 #[.val (.ref a), .val (.ref y)] [(.int (mc + (1 : Int32))), (.ref a)]))
  obtain ⟨T2, h2, X2, e2, W2, st2⟩ := putF X1 hx hZ hown (host := "") (Or.inl (hw _ (List.mem_of_getElem? (i := 71) rfl))) (Via.of (hw _ (List.mem_of_getElem? (i := 72) rfl))) e1 F_mc E_a (Or.inl (hw _ (List.mem_of_getElem? (i := 29) rfl))) (hw _ (List.mem_of_getElem? (i := 10) rfl)) (ty := .int) (by decide) rfl rfl (g := (mkF m 7 #[.val (.ref a), .val (.ref y)] [(.int (mc + (1 : Int32))), (.ref a)])) rfl rfl (hb hby d10_7)
  refine own_st st2 ?_
  have F_ed'2 := F_ed.other W2 (Or.inr (slot_ne (Or.inl (hw _ (List.mem_of_getElem? (i := 32) rfl))) (Or.inl (hw _ (List.mem_of_getElem? (i := 29) rfl))) (by decide) (t := (.array (.object "java/lang/Object"))) (t' := .int) (by decide) (by decide)))
  have F_sz'2 := F_sz.other W2 (Or.inr (slot_ne (Or.inl (hw _ (List.mem_of_getElem? (i := 74) rfl))) (Or.inl (hw _ (List.mem_of_getElem? (i := 29) rfl))) (by decide) (t := .int) (t' := .int) (by decide) (by decide)))
  have F_mc'2 := F_mc.same W2
  have E_a'2 := E_a.wr W2
  have O0'2 := O0.wr W2 g_a
  have E_y'2 := E_y.wr W2
  have K0'2 := K0.wr W2 (Or.inl (List.mem_of_getElem? (i := 0) rfl))
  have N2 := Fr.snoc X2 N0 g_a
  have Z2 : n0 ≤ h2.size := by rw [W2.size]; exact Z0
  show own_Fin p.tables e below _ (T2.setTop (mkF m 10 #[.val (.ref a), .val (.ref y)] []))
  refine own_st (fun t k => XS.aloadN X2.here hx rfl (hb hby d10_10) rfl rfl k) ?_
  show own_Fin p.tables e below _ (T2.setTop (mkF m 11 #[.val (.ref a), .val (.ref y)] [(.ref a)]))
  refine own_st (fun t k => XS.aloadN X2.here hx rfl (hb hby d10_11) rfl rfl k) ?_
  show own_Fin p.tables e below _ (T2.setTop (mkF m 12 #[.val (.ref a), .val (.ref y)] [(.ref y), (.ref a)]))
  refine own_st (fun t k => XS.aloadN X2.here hx rfl (hb hby d10_12) rfl rfl k) ?_
  show own_Fin p.tables e below _ (T2.setTop (mkF m 13 #[.val (.ref a), .val (.ref y)] [(.ref a), (.ref y), (.ref a)]))
  obtain ⟨T3, X3, e3, st3⟩ := getF X2 hx hZ hown (host := "") (Or.inl (hw _ (List.mem_of_getElem? (i := 31) rfl))) Via.refl e2 F_ed'2 (g := (mkF m 13 #[.val (.ref a), .val (.ref y)] [(.ref a), (.ref y), (.ref a)])) rfl rfl (hb hby d10_13)
  refine own_st st3 ?_
  show own_Fin p.tables e below _ (T3.setTop (mkF m 16 #[.val (.ref a), .val (.ref y)] [(.ref aE), (.ref y), (.ref a)]))
  refine own_st (fun t k => XS.aloadN X3.here hx rfl (hb hby d10_16) rfl rfl k) ?_
  show own_Fin p.tables e below _ (T3.setTop (mkF m 17 #[.val (.ref a), .val (.ref y)] [(.ref a), (.ref aE), (.ref y), (.ref a)]))
  obtain ⟨T4, X4, e4, st4⟩ := getF X3 hx hZ hown (host := "") (Or.inl (hw _ (List.mem_of_getElem? (i := 73) rfl))) Via.refl e3 F_sz'2 (g := (mkF m 17 #[.val (.ref a), .val (.ref y)] [(.ref a), (.ref aE), (.ref y), (.ref a)])) rfl rfl (hb hby d10_17)
  refine own_st st4 ?_
  show own_Fin p.tables e below _ (T4.setTop (mkF m 20 #[.val (.ref a), .val (.ref y)] [(.int (0 : Int32)), (.ref aE), (.ref y), (.ref a)]))
  obtain ⟨cq5, qa5, qb5⟩ := E_a'2.cell
  obtain ⟨_, _, ⟨T5, L5, k5, n5⟩, -, X5, ⟨Lc5, hQ5, l5, y5, z5⟩, st5⟩ := X4.privateBack hx (y := (⟨"java/util/ArrayList", "add", "(Ljava/lang/Object;[Ljava/lang/Object;I)V"⟩ : MethodName)) hown (mvT hZ (hw _ (List.mem_of_getElem? (i := 75) rfl))) (mvT hZ (hw _ (List.mem_of_getElem? (i := 76) rfl))) (mvT hZ (hw _ (List.mem_of_getElem? (i := 78) rfl))) (Cond.privateMethod_at (mvP hZ (hw _ (List.mem_of_getElem? (i := 77) rfl)) (args := #[]))) (mvT hZ (hw _ (List.mem_of_getElem? (i := 79) rfl))) (by decide) (backOf (W := 0) (rmP0 l Z a0 hw [] a y _ aE kE h2 n0 Z2 F_ed'2 F_sz'2 F_mc'2 E_a'2 g_a O0'2 S_D V_E E_y'2) hZ (hw _ (List.mem_of_getElem? (i := 79) rfl)) (hw _ (List.mem_of_getElem? (i := 11) rfl)) (by decide) (by decide)) (g := (mkF m 20 #[.val (.ref a), .val (.ref y)] [(.int (0 : Int32)), (.ref aE), (.ref y), (.ref a)])) rfl (by rw [hml]; rfl) (Steps.refl _) (a := a) (by rw [e4]; exact qa5) qb5 (argsL := [(.ref y), (.ref aE), (.int (0 : Int32))]) (rest := []) (lenOf pd__Ljava_lang_Object__Ljava_lang_Object_I_V rfl) rfl (by show 2 * 0 + _ ≤ _; exact Nat.le_of_eq rfl) (hb hby d10_20) (fun _ _ => ⟨rfl, e4, (by decide : 0 + 1 ≤ _), (by decide : 0 + 10 ≤ _)⟩)
  dsimp only [Pt.U, Pt.locs, Pt.cells, Pt.slots] at X5 l5 y5 z5 st5 hQ5
  subst l5 y5 z5
  obtain ⟨rfl, N5, K5, x5, Fe5, Fs5, ⟨mc5, Fm5⟩, Ox5, sx5⟩ := hQ5
  refine own_st (fun t k => st5.trans k) ?_
  have sz0_5 := Nat.le_trans K0'2.1 sx5
  have E_a'5 := E_a'2.keep K5
  have O0'5 := O0'2.keep K5 (allS g_a all0)
  have E_y'5 := E_y'2.keep K5
  have K0'5 := K0'2.trans K5 (allS (P := fun x => x ∈ ([a] : List Addr) ∨ h0.size ≤ x) (Or.inl (List.mem_of_getElem? (i := 0) rfl)) all0)
  have Z5 : n0 ≤ T5.heap.size := Nat.le_trans Z2 K5.1
  have N5a := Fr.app N2 N5
  show own_Fin p.tables e below _ (T5.setTop (mkF m 23 #[.val (.ref a), .val (.ref y)] []))
  refine own_st (fun t k => XS.iconst X5.here hx rfl (hb hby d10_23) k) ?_
  show own_Fin p.tables e below _ (T5.setTop (mkF m 24 #[.val (.ref a), .val (.ref y)] [(.int (1 : Int32))]))
  obtain ⟨fs, hr, hrun, hended, hW, hsame⟩ := X5.leave (v := (some (.int (1 : Int32)))) (fun h => by rw [Bd.returns] at h; cases h)
  refine ⟨_, _, retN X5 hx (t := .boolean) Bd.returns (by simp) (hb hby d10_24) hr, hrun, hended, _, _, rfl, ?_, ⟨_, rfl⟩, hW, hsame.mono (by decide) (by decide)⟩
  show QA0 Z a y mc aE kE h0 n0 _ T5.heap _
  exact ⟨rfl, N5a, K0'5, x5, Fe5, Fs5, ⟨_, Fm5⟩, Ox5, sz0_5⟩
def QA1 (Z : State) (a : Addr) (y : Addr) (mc : Int32) (ed : Addr) (i : Int32) (j : Int32) (h0 : Heap) (n0 : Nat) (v : Option Value) (h : Heap) (L : List Loc) : Prop := v = some (.int 1) ∧ Fr n0 L ∧ Keep h0 h [a, ed] ∧ Fld Z h a "java/util/ArrayList" "elementData" "[Ljava/lang/Object;" (.ref ed) ∧ Fld Z h a "java/util/ArrayList" "size" "I" (.int j) ∧ (∃ mc', Fld Z h a "java/util/AbstractList" "modCount" "I" (.int mc'))
set_option maxRecDepth 65536 in
set_option maxHeartbeats 40000000 in
theorem rmA1 (l : Launch) (Z : State) (a0 : Array Value) (hw : ∀ d ∈ tables_1, d.before a0 Z = true) (ws : List Jvm.Cond) (a : Addr) (y : Addr) (mc : Int32) (ed : Addr) (i : Int32) (j : Int32) (h0 : Heap) (n0 : Nat) (Z0 : n0 ≤ h0.size) (F_ed : Fld Z h0 a "java/util/ArrayList" "elementData" "[Ljava/lang/Object;" (.ref ed)) (F_sz : Fld Z h0 a "java/util/ArrayList" "size" "I" (.int i)) (F_mc : Fld Z h0 a "java/util/AbstractList" "modCount" "I" (.int mc)) (E_a : Exa Z h0 a "java/util/ArrayList") (g_a : n0 ≤ a) (O_ed : own_O Z h0 ed "java/lang/Object" 10) (g_ed : n0 ≤ ed) (E_y : Exa Z h0 y "[Ljava/math/BigInteger;") (hi : i = 1 ∨ i = 2 ∨ i = 3 ∨ i = 4 ∨ i = 5 ∨ i = 6) (hj : i + 1 = j) :
    MetFree l (⟨"java/util/ArrayList", "add", "(Ljava/lang/Object;)Z"⟩ : MethodName) (head1 (Jvm.Cond.code (⟨"java/util/ArrayList", "add", "(Ljava/lang/Object;)Z"⟩ : MethodName) jdk_38_method_25_code 2 (some .boolean) :: ws) ({ frames := 5, cells := 1, slots := 10, locals := 76 } : Room)) (fun xs U => xs = #[(.ref a), (.ref y)] ∧ Z.Warmed39 U.vm ∧ U.heap = h0) (fun _ _ _ _ _ => True) (fun _ U o U' => ∃ v L, o = .returned v ∧ QA1 Z a y mc ed i j h0 n0 v U'.heap L ∧ FrameEnd U o U' L ({ frames := 5, cells := 1, slots := 10, locals := 76 } : Room).cells ({ frames := 5, cells := 1, slots := 10, locals := 76 } : Room).slots) := by
  refine MetFree.of_bodySF (plainFor_of_name pn_java_util_ArrayList) hisR ?_
  intro p e s m args below meth c s₁ Bd hml0 hP hK
  obtain ⟨rfl, hZ, hh⟩ := hP
  have hx := Bd.exec
  have hby := Bd.bytes
  have hml : c.maxLocals = 2 := hml0
  have hown : s.vm.findClass "java/util/ArrayList" = some m.cls := findClass_of_methodNamed Bd.named
  have hnm := (name_of_methodNamed Bd.named Bd.method).1
  have X0 : Stand p l e ({ frames := 5, cells := 1, slots := 10, locals := 76 } : Room) s m #[(.ref a), (.ref y)] below meth c s₁ [] 0 0 := Stand.of_body Bd
  have e0 : s₁.heap = h0 := by rw [← hh, Bd.state]; rfl
  have N0 := Fr.nil n0
  change own_Fin p.tables e below (fun s₂ o => ∃ v L, o = .returned v ∧ QA1 Z a y mc ed i j h0 n0 v s₂.heap L ∧ FrameEnd s o s₂ L ({ frames := 5, cells := 1, slots := 10, locals := 76 } : Room).cells ({ frames := 5, cells := 1, slots := 10, locals := 76 } : Room).slots) (s₁.setTop (entryFrame m #[(.ref a), (.ref y)] 2))
  refine own_st (fun t k => castTop (show entryFrame m #[(.ref a), (.ref y)] 2 = mkF m 0 #[.val (.ref a), .val (.ref y)] [] by first | (simp [entryFrame, mkF, argsToLocals, Value.category, maxLocals]; done) | rfl) k) ?_
  show own_Fin p.tables e below _ (s₁.setTop (mkF m 0 #[.val (.ref a), .val (.ref y)] []))
  have K0 : Keep h0 h0 [a, ed] := Keep.refl h0 [a, ed]
  refine own_st (fun t k => XS.aloadN X0.here hx rfl (hb hby d10_0) rfl rfl k) ?_
  show own_Fin p.tables e below _ (s₁.setTop (mkF m 1 #[.val (.ref a), .val (.ref y)] [(.ref a)]))
  refine own_st (fun t k => XS.dup X0.here hx rfl (hb hby d10_1) rfl rfl k) ?_
  show own_Fin p.tables e below _ (s₁.setTop (mkF m 2 #[.val (.ref a), .val (.ref y)] [(.ref a), (.ref a)]))
  obtain ⟨T1, X1, e1, st1⟩ := getF X0 hx hZ hown (host := "") (Or.inl (hw _ (List.mem_of_getElem? (i := 71) rfl))) (Via.of (hw _ (List.mem_of_getElem? (i := 72) rfl))) e0 F_mc (g := (mkF m 2 #[.val (.ref a), .val (.ref y)] [(.ref a), (.ref a)])) rfl rfl (hb hby d10_2)
  refine own_st st1 ?_
  show own_Fin p.tables e below _ (T1.setTop (mkF m 5 #[.val (.ref a), .val (.ref y)] [(.int mc), (.ref a)]))
  refine own_st (fun t k => XS.iconst X1.here hx rfl (hb hby d10_5) k) ?_
  show own_Fin p.tables e below _ (T1.setTop (mkF m 6 #[.val (.ref a), .val (.ref y)] [(.int (1 : Int32)), (.int mc), (.ref a)]))
  refine own_st (fun t k => XS.iadd X1.here hx rfl (hb hby d10_6) rfl k) ?_
  show own_Fin p.tables e below _ (T1.setTop (mkF m 7 #[.val (.ref a), .val (.ref y)] [(.int (mc + (1 : Int32))), (.ref a)]))
  obtain ⟨T2, h2, X2, e2, W2, st2⟩ := putF X1 hx hZ hown (host := "") (Or.inl (hw _ (List.mem_of_getElem? (i := 71) rfl))) (Via.of (hw _ (List.mem_of_getElem? (i := 72) rfl))) e1 F_mc E_a (Or.inl (hw _ (List.mem_of_getElem? (i := 29) rfl))) (hw _ (List.mem_of_getElem? (i := 10) rfl)) (ty := .int) (by decide) rfl rfl (g := (mkF m 7 #[.val (.ref a), .val (.ref y)] [(.int (mc + (1 : Int32))), (.ref a)])) rfl rfl (hb hby d10_7)
  refine own_st st2 ?_
  have F_ed'2 := F_ed.other W2 (Or.inr (slot_ne (Or.inl (hw _ (List.mem_of_getElem? (i := 32) rfl))) (Or.inl (hw _ (List.mem_of_getElem? (i := 29) rfl))) (by decide) (t := (.array (.object "java/lang/Object"))) (t' := .int) (by decide) (by decide)))
  have F_sz'2 := F_sz.other W2 (Or.inr (slot_ne (Or.inl (hw _ (List.mem_of_getElem? (i := 74) rfl))) (Or.inl (hw _ (List.mem_of_getElem? (i := 29) rfl))) (by decide) (t := .int) (t' := .int) (by decide) (by decide)))
  have F_mc'2 := F_mc.same W2
  have E_a'2 := E_a.wr W2
  have O_ed'2 := O_ed.wr W2
  have E_y'2 := E_y.wr W2
  have K0'2 := K0.wr W2 (Or.inl (List.mem_of_getElem? (i := 0) rfl))
  have N2 := Fr.snoc X2 N0 g_a
  have Z2 : n0 ≤ h2.size := by rw [W2.size]; exact Z0
  show own_Fin p.tables e below _ (T2.setTop (mkF m 10 #[.val (.ref a), .val (.ref y)] []))
  refine own_st (fun t k => XS.aloadN X2.here hx rfl (hb hby d10_10) rfl rfl k) ?_
  show own_Fin p.tables e below _ (T2.setTop (mkF m 11 #[.val (.ref a), .val (.ref y)] [(.ref a)]))
  refine own_st (fun t k => XS.aloadN X2.here hx rfl (hb hby d10_11) rfl rfl k) ?_
  show own_Fin p.tables e below _ (T2.setTop (mkF m 12 #[.val (.ref a), .val (.ref y)] [(.ref y), (.ref a)]))
  refine own_st (fun t k => XS.aloadN X2.here hx rfl (hb hby d10_12) rfl rfl k) ?_
  show own_Fin p.tables e below _ (T2.setTop (mkF m 13 #[.val (.ref a), .val (.ref y)] [(.ref a), (.ref y), (.ref a)]))
  obtain ⟨T3, X3, e3, st3⟩ := getF X2 hx hZ hown (host := "") (Or.inl (hw _ (List.mem_of_getElem? (i := 31) rfl))) Via.refl e2 F_ed'2 (g := (mkF m 13 #[.val (.ref a), .val (.ref y)] [(.ref a), (.ref y), (.ref a)])) rfl rfl (hb hby d10_13)
  refine own_st st3 ?_
  show own_Fin p.tables e below _ (T3.setTop (mkF m 16 #[.val (.ref a), .val (.ref y)] [(.ref ed), (.ref y), (.ref a)]))
  refine own_st (fun t k => XS.aloadN X3.here hx rfl (hb hby d10_16) rfl rfl k) ?_
  show own_Fin p.tables e below _ (T3.setTop (mkF m 17 #[.val (.ref a), .val (.ref y)] [(.ref a), (.ref ed), (.ref y), (.ref a)]))
  obtain ⟨T4, X4, e4, st4⟩ := getF X3 hx hZ hown (host := "") (Or.inl (hw _ (List.mem_of_getElem? (i := 73) rfl))) Via.refl e3 F_sz'2 (g := (mkF m 17 #[.val (.ref a), .val (.ref y)] [(.ref a), (.ref ed), (.ref y), (.ref a)])) rfl rfl (hb hby d10_17)
  refine own_st st4 ?_
  show own_Fin p.tables e below _ (T4.setTop (mkF m 20 #[.val (.ref a), .val (.ref y)] [(.int i), (.ref ed), (.ref y), (.ref a)]))
  obtain ⟨cq5, qa5, qb5⟩ := E_a'2.cell
  obtain ⟨_, _, ⟨T5, L5, k5, n5⟩, -, X5, ⟨Lc5, hQ5, l5, y5, z5⟩, st5⟩ := X4.privateBack hx (y := (⟨"java/util/ArrayList", "add", "(Ljava/lang/Object;[Ljava/lang/Object;I)V"⟩ : MethodName)) hown (mvT hZ (hw _ (List.mem_of_getElem? (i := 75) rfl))) (mvT hZ (hw _ (List.mem_of_getElem? (i := 76) rfl))) (mvT hZ (hw _ (List.mem_of_getElem? (i := 78) rfl))) (Cond.privateMethod_at (mvP hZ (hw _ (List.mem_of_getElem? (i := 77) rfl)) (args := #[]))) (mvT hZ (hw _ (List.mem_of_getElem? (i := 79) rfl))) (by decide) (backOf (W := 0) (rmP1 l Z a0 hw [] a y _ ed i j h2 n0 Z2 F_ed'2 F_sz'2 F_mc'2 E_a'2 g_a O_ed'2 g_ed E_y'2 hi hj) hZ (hw _ (List.mem_of_getElem? (i := 79) rfl)) (hw _ (List.mem_of_getElem? (i := 11) rfl)) (by decide) (by decide)) (g := (mkF m 20 #[.val (.ref a), .val (.ref y)] [(.int i), (.ref ed), (.ref y), (.ref a)])) rfl (by rw [hml]; rfl) (Steps.refl _) (a := a) (by rw [e4]; exact qa5) qb5 (argsL := [(.ref y), (.ref ed), (.int i)]) (rest := []) (lenOf pd__Ljava_lang_Object__Ljava_lang_Object_I_V rfl) rfl (by show 2 * 0 + _ ≤ _; exact Nat.le_of_eq rfl) (hb hby d10_20) (fun _ _ => ⟨rfl, e4, (by decide : 0 + 1 ≤ _), (by decide : 0 + 10 ≤ _)⟩)
  dsimp only [Pt.U, Pt.locs, Pt.cells, Pt.slots] at X5 l5 y5 z5 st5 hQ5
  subst l5 y5 z5
  obtain ⟨rfl, N5, K5, Fe5, Fs5, mc5, Fm5⟩ := hQ5
  refine own_st (fun t k => st5.trans k) ?_
  have E_a'5 := E_a'2.keep K5
  have O_ed'5 := O_ed'2.keep K5
  have E_y'5 := E_y'2.keep K5
  have K0'5 := K0'2.trans K5 (allS (P := fun x => x ∈ ([a, ed] : List Addr) ∨ h0.size ≤ x) (Or.inl (List.mem_of_getElem? (i := 0) rfl)) (allS (P := fun x => x ∈ ([a, ed] : List Addr) ∨ h0.size ≤ x) (Or.inl (List.mem_of_getElem? (i := 1) rfl)) all0))
  have Z5 : n0 ≤ T5.heap.size := Nat.le_trans Z2 K5.1
  have N5a := Fr.app N2 N5
  show own_Fin p.tables e below _ (T5.setTop (mkF m 23 #[.val (.ref a), .val (.ref y)] []))
  refine own_st (fun t k => XS.iconst X5.here hx rfl (hb hby d10_23) k) ?_
  show own_Fin p.tables e below _ (T5.setTop (mkF m 24 #[.val (.ref a), .val (.ref y)] [(.int (1 : Int32))]))
  obtain ⟨fs, hr, hrun, hended, hW, hsame⟩ := X5.leave (v := (some (.int (1 : Int32)))) (fun h => by rw [Bd.returns] at h; cases h)
  refine ⟨_, _, retN X5 hx (t := .boolean) Bd.returns (by simp) (hb hby d10_24) hr, hrun, hended, _, _, rfl, ?_, ⟨_, rfl⟩, hW, hsame.mono (by decide) (by decide)⟩
  show QA1 Z a y mc ed i j h0 n0 _ T5.heap _
  exact ⟨rfl, N5a, K0'5, Fe5, Fs5, _, Fm5⟩
def Q7 (Z : State) (w : Int32) (aE : Addr) (kE : ClassId) (aZ : Addr) (aO : Addr) (h0 : Heap) (n0 : Nat) (v : Option Value) (h : Heap) (L : List Loc) : Prop := ∃ r, v = some (.ref r) ∧ Fr n0 L ∧ Old Z n0 h ∧ Exa Z h r "com/example/condense/condense/analysis/AffineHull" ∧ ∃ bs, Fld Z h r "com/example/condense/condense/analysis/AffineHull" "base" "[Ljava/math/BigInteger;" (.ref bs)
set_option maxRecDepth 65536 in
set_option maxHeartbeats 40000000 in
theorem rm7 (l : Launch) (Z : State) (a0 : Array Value) (hw : ∀ d ∈ tables_1, d.before a0 Z = true) (ws : List Jvm.Cond) (w : Int32) (aE : Addr) (kE : ClassId) (aZ : Addr) (aO : Addr) (h0 : Heap) (n0 : Nat) (Z0 : n0 ≤ h0.size) (hw0 : ¬ w < 0) (hle7 : ¬ (7 : Int32) < w) (O0 : Old Z n0 h0) (S_D : Sta Z Z.heap "java/util/ArrayList" "DEFAULTCAPACITY_EMPTY_ELEMENTDATA" "[Ljava/lang/Object;" (.ref aE)) (V_E : Arv Z Z.heap aE kE (.object "java/lang/Object") 0 [] .null) (S_Z : Sta Z Z.heap "java/math/BigInteger" "ZERO" "Ljava/math/BigInteger;" (.ref aZ)) (E_Z : Exa Z Z.heap aZ "java/math/BigInteger") (S_O : Sta Z Z.heap "java/math/BigInteger" "ONE" "Ljava/math/BigInteger;" (.ref aO)) (E_O : Exa Z Z.heap aO "java/math/BigInteger") :
    MetFree l (⟨"com/example/condense/condense/analysis/AffineHull", "whole", "(I)Lcom/example/condense/condense/analysis/AffineHull;"⟩ : MethodName) (head1 (Jvm.Cond.code (⟨"com/example/condense/condense/analysis/AffineHull", "whole", "(I)Lcom/example/condense/condense/analysis/AffineHull;"⟩ : MethodName) prog_1_method_2_code 4 (some (.object "com/example/condense/condense/analysis/AffineHull")) :: ws) ({ frames := 6, cells := 17, slots := 132, locals := 96 } : Room)) (fun xs U => xs = #[(.int w)] ∧ Z.Warmed39 U.vm ∧ U.heap = h0) (fun _ _ _ _ _ => True) (fun _ U o U' => ∃ v L, o = .returned v ∧ Q7 Z w aE kE aZ aO h0 n0 v U'.heap L ∧ FrameEnd U o U' L ({ frames := 6, cells := 17, slots := 132, locals := 96 } : Room).cells ({ frames := 6, cells := 17, slots := 132, locals := 96 } : Room).slots) := by
  refine MetFree.of_bodySF (plainFor_of_name pn_com_example_condense_condense_analysis_AffineHull) hisR ?_
  intro p e s m args below meth c s₁ Bd hml0 hP hK
  obtain ⟨rfl, hZ, hh⟩ := hP
  have hx := Bd.exec
  have hby := Bd.bytes
  have hml : c.maxLocals = 4 := hml0
  have hown : s.vm.findClass "com/example/condense/condense/analysis/AffineHull" = some m.cls := findClass_of_methodNamed Bd.named
  have hnm := (name_of_methodNamed Bd.named Bd.method).1
  have X0 : Stand p l e ({ frames := 6, cells := 17, slots := 132, locals := 96 } : Room) s m #[(.int w)] below meth c s₁ [] 0 0 := Stand.of_body Bd
  have e0 : s₁.heap = h0 := by rw [← hh, Bd.state]; rfl
  have N0 := Fr.nil n0
  change own_Fin p.tables e below (fun s₂ o => ∃ v L, o = .returned v ∧ Q7 Z w aE kE aZ aO h0 n0 v s₂.heap L ∧ FrameEnd s o s₂ L ({ frames := 6, cells := 17, slots := 132, locals := 96 } : Room).cells ({ frames := 6, cells := 17, slots := 132, locals := 96 } : Room).slots) (s₁.setTop (entryFrame m #[(.int w)] 4))
  refine own_st (fun t k => castTop (show entryFrame m #[(.int w)] 4 = mkF m 0 #[.val (.int w), .unset, .unset, .unset] [] by first | (simp [entryFrame, mkF, argsToLocals, Value.category, maxLocals]; done) | rfl) k) ?_
  show own_Fin p.tables e below _ (s₁.setTop (mkF m 0 #[.val (.int w), .unset, .unset, .unset] []))
  obtain ⟨T1, h1, X1, e1, E1, A1, D1, U1, st1⟩ := newO X0 hx hZ hown (hw _ (List.mem_of_getElem? (i := 47) rfl)) (hw _ (List.mem_of_getElem? (i := 1) rfl)) (hw _ (List.mem_of_getElem? (i := 2) rfl)) e0 (g := (mkF m 0 #[.val (.int w), .unset, .unset, .unset] [])) rfl (hb hby d7_0) (by decide) (by decide)
  obtain ⟨b1, g1⟩ : ∃ z, z = h0.size := ⟨_, rfl⟩
  have g_b1 : n0 ≤ b1 := Nat.le_trans Z0 (Nat.le_of_eq g1.symm)
  rw [← g1] at A1 D1 U1 st1
  refine own_st st1 ?_
  have O0'1 := O0.ext E1
  have Z1 : n0 ≤ h1.size := Nat.le_trans Z0 E1.1
  have F_directions_b1 : Fld Z h1 b1 "com/example/condense/condense/analysis/AffineHull" "directions" "Ljava/util/List;" .null := D1 (Or.inr (hw _ (List.mem_of_getElem? (i := 34) rfl))) (ty := (.object "java/util/List")) (by decide)
  have F_dimension_b1 : Fld Z h1 b1 "com/example/condense/condense/analysis/AffineHull" "dimension" "I" (.int (0 : Int32)) := D1 (Or.inr (hw _ (List.mem_of_getElem? (i := 36) rfl))) (ty := .int) (by decide)
  have F_base_b1 : Fld Z h1 b1 "com/example/condense/condense/analysis/AffineHull" "base" "[Ljava/math/BigInteger;" .null := D1 (Or.inl (hw _ (List.mem_of_getElem? (i := 43) rfl))) (ty := (.array (.object "java/math/BigInteger"))) (by decide)
  show own_Fin p.tables e below _ (T1.setTop (mkF m 3 #[.val (.int w), .unset, .unset, .unset] [(.ref b1)]))
  refine own_st (fun t k => XS.dup X1.here hx rfl (hb hby d7_3) rfl rfl k) ?_
  show own_Fin p.tables e below _ (T1.setTop (mkF m 4 #[.val (.int w), .unset, .unset, .unset] [(.ref b1), (.ref b1)]))
  refine own_st (fun t k => XS.iloadN X1.here hx rfl (hb hby d7_4) rfl k) ?_
  show own_Fin p.tables e below _ (T1.setTop (mkF m 5 #[.val (.int w), .unset, .unset, .unset] [(.int w), (.ref b1), (.ref b1)]))
  obtain ⟨_, _, ⟨T2, L2, k2, n2⟩, -, X2, ⟨Lc2, hQ2, l2, y2, z2⟩, st2⟩ := X1.specialBack hx (y := (⟨"com/example/condense/condense/analysis/AffineHull", "<init>", "(I)V"⟩ : MethodName)) rfl hown (mvT hZ (hw _ (List.mem_of_getElem? (i := 48) rfl))) (mvT hZ (hw _ (List.mem_of_getElem? (i := 4) rfl))) (mvT hZ (hw _ (List.mem_of_getElem? (i := 5) rfl))) (by decide) (backOf (W := 1) (rm1 l Z a0 hw [] b1 w aE h1 n0 Z1 F_base_b1 F_dimension_b1 F_directions_b1 A1 g_b1 O0'1 S_D) hZ (hw _ (List.mem_of_getElem? (i := 5) rfl)) (hw _ (List.mem_of_getElem? (i := 2) rfl)) (by decide) (by decide)) (g := (mkF m 5 #[.val (.int w), .unset, .unset, .unset] [(.int w), (.ref b1), (.ref b1)])) rfl (by rw [hml]; rfl) (Steps.refl _) (a := b1) (argsL := [(.int w)]) (rest := [(.ref b1)]) (lenOf pd__I_V rfl) rfl (by show 2 * 0 + _ ≤ _; exact Nat.le_of_eq rfl) (hb hby d7_5) (fun _ _ => ⟨rfl, e1, (by decide : 1 + 1 ≤ _), (by decide : 3 + 3 ≤ _)⟩)
  dsimp only [Pt.U, Pt.locs, Pt.cells, Pt.slots] at X2 l2 y2 z2 st2 hQ2
  subst l2 y2 z2
  obtain ⟨rfl, N2, K2, ls2, Fb2, Fd2, Fl2, Fe2, Fs2, Fm2, Els2, g_ls2⟩ := hQ2
  refine own_st (fun t k => st2.trans k) ?_
  have O0'2 := O0'1.keep K2 (allS g_b1 all0)
  have A1'2 := A1.keep K2
  have Z2 : n0 ≤ T2.heap.size := Nat.le_trans Z1 K2.1
  have N2a := Fr.app N0 N2
  show own_Fin p.tables e below _ (T2.setTop (mkF m 8 #[.val (.int w), .unset, .unset, .unset] [(.ref b1)]))
  refine own_st (fun t k => XS.astoreN X2.here hx rfl (hb hby d7_8) rfl rfl (l' := #[.val (.int w), .val (.ref b1), .unset, .unset]) rfl k) ?_
  show own_Fin p.tables e below _ (T2.setTop (mkF m 9 #[.val (.int w), .val (.ref b1), .unset, .unset] []))
  refine own_st (fun t k => XS.aloadN X2.here hx rfl (hb hby d7_9) rfl rfl k) ?_
  show own_Fin p.tables e below _ (T2.setTop (mkF m 10 #[.val (.int w), .val (.ref b1), .unset, .unset] [(.ref b1)]))
  refine own_st (fun t k => XS.iloadN X2.here hx rfl (hb hby d7_10) rfl k) ?_
  show own_Fin p.tables e below _ (T2.setTop (mkF m 11 #[.val (.int w), .val (.ref b1), .unset, .unset] [(.int w), (.ref b1)]))
  obtain ⟨_, _, ⟨T3, L3, k3, n3⟩, -, X3, ⟨Lc3, hQ3, l3, y3, z3⟩, st3⟩ := Jvm.LawKit.callS X2 hx (y := (⟨"com/example/condense/condense/analysis/AffineHull", "zero", "(I)[Ljava/math/BigInteger;"⟩ : MethodName)) hown (mvT hZ (hw _ (List.mem_of_getElem? (i := 49) rfl))) (mvT hZ (hw _ (List.mem_of_getElem? (i := 50) rfl))) (mvT hZ (hw _ (List.mem_of_getElem? (i := 2) rfl))) (mvT hZ (hw _ (List.mem_of_getElem? (i := 51) rfl))) (by decide) (backOf (W := 1) (rm8 l Z a0 hw [] w aZ T2.heap n0 Z2 hw0 hle7 O0'2 S_Z E_Z) hZ (hw _ (List.mem_of_getElem? (i := 51) rfl)) (hw _ (List.mem_of_getElem? (i := 2) rfl)) (by decide) (by decide)) (g := (mkF m 11 #[.val (.int w), .val (.ref b1), .unset, .unset] [(.int w), (.ref b1)])) rfl (by rw [hml]; rfl) (argsL := [(.int w)]) (rest := [(.ref b1)]) (lenOf pd__I__Ljava_math_BigInteger_ rfl) rfl (by show 2 * 0 + _ ≤ _; exact Nat.le_of_eq rfl) (hb hby d7_11) (fun _ _ => ⟨rfl, rfl, (by decide : 2 + 1 ≤ _), (by decide : 6 + 7 ≤ _)⟩)
  dsimp only [Pt.U, Pt.locs, Pt.cells, Pt.slots] at X3 l3 y3 z3 st3 hQ3
  subst l3 y3 z3
  obtain ⟨x3, rfl, N3, K3, Ox3, Ex3, g_x3⟩ := hQ3
  refine own_st (st3) ?_
  have O0'3 := O0'2.keep K3 all0
  have A1'3 := A1'2.keep K3
  have Fb2'3 := Fb2.keep K3 nin0
  have Fd2'3 := Fd2.keep K3 nin0
  have Fl2'3 := Fl2.keep K3 nin0
  have Fe2'3 := Fe2.keep K3 nin0
  have Fs2'3 := Fs2.keep K3 nin0
  have Fm2'3 := Fm2.keep K3 nin0
  have Els2'3 := Els2.keep K3
  have Z3 : n0 ≤ T3.heap.size := Nat.le_trans Z2 K3.1
  have N3a := Fr.app N2a N3
  show own_Fin p.tables e below _ (T3.setTop (mkF m 14 #[.val (.int w), .val (.ref b1), .unset, .unset] [(.ref x3), (.ref b1)]))
  obtain ⟨T4, h4, X4, e4, W4, st4⟩ := putF X3 hx hZ hown (host := "") (Or.inl (hw _ (List.mem_of_getElem? (i := 42) rfl))) Via.refl rfl Fb2'3 A1'3 (Or.inl (hw _ (List.mem_of_getElem? (i := 43) rfl))) (hw _ (List.mem_of_getElem? (i := 1) rfl)) (ty := (.array (.object "java/math/BigInteger"))) (by decide) rfl rfl (g := (mkF m 14 #[.val (.int w), .val (.ref b1), .unset, .unset] [(.ref x3), (.ref b1)])) rfl rfl (hb hby d7_14)
  refine own_st st4 ?_
  have O0'4 := O0'3.wr W4 g_b1
  have A1'4 := A1'3.wr W4
  have Fb2'4 := Fb2'3.same W4
  have Fd2'4 := Fd2'3.other W4 (Or.inr (slot_ne (Or.inr (hw _ (List.mem_of_getElem? (i := 36) rfl))) (Or.inl (hw _ (List.mem_of_getElem? (i := 43) rfl))) (by decide) (t := .int) (t' := (.array (.object "java/math/BigInteger"))) (by decide) (by decide)))
  have Fl2'4 := Fl2'3.other W4 (Or.inr (slot_ne (Or.inr (hw _ (List.mem_of_getElem? (i := 34) rfl))) (Or.inl (hw _ (List.mem_of_getElem? (i := 43) rfl))) (by decide) (t := (.object "java/util/List")) (t' := (.array (.object "java/math/BigInteger"))) (by decide) (by decide)))
  have Fe2'4 := Fe2'3.other W4 (Or.inl (ne_exa Els2'3 A1'3 (by decide)))
  have Fs2'4 := Fs2'3.other W4 (Or.inl (ne_exa Els2'3 A1'3 (by decide)))
  have Fm2'4 := Fm2'3.other W4 (Or.inl (ne_exa Els2'3 A1'3 (by decide)))
  have Els2'4 := Els2'3.wr W4
  have Ox3'4 := Ox3.wr W4
  have Ex3'4 := Ex3.wr W4
  have N4 := Fr.snoc X4 N3a g_b1
  have Z4 : n0 ≤ h4.size := by rw [W4.size]; exact Z3
  show own_Fin p.tables e below _ (T4.setTop (mkF m 17 #[.val (.int w), .val (.ref b1), .unset, .unset] []))
  refine own_st (fun t k => XS.iconst X4.here hx rfl (hb hby d7_17) k) ?_
  show own_Fin p.tables e below _ (T4.setTop (mkF m 18 #[.val (.int w), .val (.ref b1), .unset, .unset] [(.int (0 : Int32))]))
  refine own_st (fun t k => XS.istoreN X4.here hx rfl (hb hby d7_18) rfl (l' := #[.val (.int w), .val (.ref b1), .val (.int (0 : Int32)), .unset]) rfl k) ?_
  show own_Fin p.tables e below _ (T4.setTop (mkF m 19 #[.val (.int w), .val (.ref b1), .val (.int (0 : Int32)), .unset] []))
  refine own_st (fun t k => XS.iloadN X4.here hx rfl (hb hby d7_19) rfl k) ?_
  show own_Fin p.tables e below _ (T4.setTop (mkF m 20 #[.val (.int w), .val (.ref b1), .val (.int (0 : Int32)), .unset] [(.int (0 : Int32))]))
  refine own_st (fun t k => XS.iloadN X4.here hx rfl (hb hby d7_20) rfl k) ?_
  show own_Fin p.tables e below _ (T4.setTop (mkF m 21 #[.val (.int w), .val (.ref b1), .val (.int (0 : Int32)), .unset] [(.int w), (.int (0 : Int32))]))
  rcases Decidable.em ((0 : Int32) < w) with c0 | c0
  · have _ := c0
    refine own_st (fun t k => XS.icmpNo X4.here hx rfl (hb hby d7_21) rfl (XT.ii_ge_f c0) k) ?_
    show own_Fin p.tables e below _ (T4.setTop (mkF m 24 #[.val (.int w), .val (.ref b1), .val (.int (0 : Int32)), .unset] []))
    refine own_st (fun t k => XS.iloadN X4.here hx rfl (hb hby d7_24) rfl k) ?_
    show own_Fin p.tables e below _ (T4.setTop (mkF m 25 #[.val (.int w), .val (.ref b1), .val (.int (0 : Int32)), .unset] [(.int w)]))
    obtain ⟨_, _, ⟨T5, L5, k5, n5⟩, -, X5, ⟨Lc5, hQ5, l5, y5, z5⟩, st5⟩ := Jvm.LawKit.callS X4 hx (y := (⟨"com/example/condense/condense/analysis/AffineHull", "zero", "(I)[Ljava/math/BigInteger;"⟩ : MethodName)) hown (mvT hZ (hw _ (List.mem_of_getElem? (i := 49) rfl))) (mvT hZ (hw _ (List.mem_of_getElem? (i := 50) rfl))) (mvT hZ (hw _ (List.mem_of_getElem? (i := 2) rfl))) (mvT hZ (hw _ (List.mem_of_getElem? (i := 51) rfl))) (by decide) (backOf (W := 0) (rm8 l Z a0 hw [] w aZ h4 n0 Z4 hw0 hle7 O0'4 S_Z E_Z) hZ (hw _ (List.mem_of_getElem? (i := 51) rfl)) (hw _ (List.mem_of_getElem? (i := 2) rfl)) (by decide) (by decide)) (g := (mkF m 25 #[.val (.int w), .val (.ref b1), .val (.int (0 : Int32)), .unset] [(.int w)])) rfl (by rw [hml]; rfl) (argsL := [(.int w)]) (rest := []) (lenOf pd__I__Ljava_math_BigInteger_ rfl) rfl (by show 2 * 0 + _ ≤ _; exact Nat.le_of_eq rfl) (hb hby d7_25) (fun _ _ => ⟨rfl, e4, (by decide : 3 + 1 ≤ _), (by decide : 13 + 7 ≤ _)⟩)
    dsimp only [Pt.U, Pt.locs, Pt.cells, Pt.slots] at X5 l5 y5 z5 st5 hQ5
    subst l5 y5 z5
    obtain ⟨x5, rfl, N5, K5, Ox5, Ex5, g_x5⟩ := hQ5
    refine own_st (st5) ?_
    have O0'5 := O0'4.keep K5 all0
    have A1'5 := A1'4.keep K5
    have Fb2'5 := Fb2'4.keep K5 nin0
    have Fd2'5 := Fd2'4.keep K5 nin0
    have Fl2'5 := Fl2'4.keep K5 nin0
    have Fe2'5 := Fe2'4.keep K5 nin0
    have Fs2'5 := Fs2'4.keep K5 nin0
    have Fm2'5 := Fm2'4.keep K5 nin0
    have Els2'5 := Els2'4.keep K5
    have Ox3'5 := Ox3'4.keep K5
    have Ex3'5 := Ex3'4.keep K5
    have Z5 : n0 ≤ T5.heap.size := Nat.le_trans Z4 K5.1
    have N5a := Fr.app N4 N5
    show own_Fin p.tables e below _ (T5.setTop (mkF m 28 #[.val (.int w), .val (.ref b1), .val (.int (0 : Int32)), .unset] [(.ref x5)]))
    refine own_st (fun t k => XS.astoreN X5.here hx rfl (hb hby d7_28) rfl rfl (l' := #[.val (.int w), .val (.ref b1), .val (.int (0 : Int32)), .val (.ref x5)]) rfl k) ?_
    show own_Fin p.tables e below _ (T5.setTop (mkF m 29 #[.val (.int w), .val (.ref b1), .val (.int (0 : Int32)), .val (.ref x5)] []))
    refine own_st (fun t k => XS.aloadN X5.here hx rfl (hb hby d7_29) rfl rfl k) ?_
    show own_Fin p.tables e below _ (T5.setTop (mkF m 30 #[.val (.int w), .val (.ref b1), .val (.int (0 : Int32)), .val (.ref x5)] [(.ref x5)]))
    refine own_st (fun t k => XS.iloadN X5.here hx rfl (hb hby d7_30) rfl k) ?_
    show own_Fin p.tables e below _ (T5.setTop (mkF m 31 #[.val (.int w), .val (.ref b1), .val (.int (0 : Int32)), .val (.ref x5)] [(.int (0 : Int32)), (.ref x5)]))
    obtain ⟨T6, X6, e6, st6⟩ := getS (host := "") X5 hx hZ hown (hw _ (List.mem_of_getElem? (i := 61) rfl)) Via.refl rfl (Sta.ext O0'5.2 S_O) (g := (mkF m 31 #[.val (.int w), .val (.ref b1), .val (.int (0 : Int32)), .val (.ref x5)] [(.int (0 : Int32)), (.ref x5)])) rfl (hb hby d7_31)
    refine own_st st6 ?_
    show own_Fin p.tables e below _ (T6.setTop (mkF m 34 #[.val (.int w), .val (.ref b1), .val (.int (0 : Int32)), .val (.ref x5)] [(.ref aO), (.int (0 : Int32)), (.ref x5)]))
    obtain ⟨T7, h7, X7, e7, W7, st7⟩ := own_stR X6 hx hZ e6 Ox5 (j := (0 : Int32)) ⟨by decide, c0⟩ (Or.inr ⟨_, rfl, Ins.self (Exa.ext O0'5.2 E_O)⟩) (g := (mkF m 34 #[.val (.int w), .val (.ref b1), .val (.int (0 : Int32)), .val (.ref x5)] [(.ref aO), (.int (0 : Int32)), (.ref x5)])) rfl rfl (hb hby d7_34)
    refine own_st st7 ?_
    have O0'7 := O0'5.wr W7 g_x5
    have A1'7 := A1'5.wr W7
    have Fb2'7 := Fb2'5.other W7 (Or.inl (own_neEA A1'5 (hw _ (List.mem_of_getElem? (i := 1) rfl)) (own_O.A Ox5)))
    have Fd2'7 := Fd2'5.other W7 (Or.inl (own_neEA A1'5 (hw _ (List.mem_of_getElem? (i := 1) rfl)) (own_O.A Ox5)))
    have Fl2'7 := Fl2'5.other W7 (Or.inl (own_neEA A1'5 (hw _ (List.mem_of_getElem? (i := 1) rfl)) (own_O.A Ox5)))
    have Fe2'7 := Fe2'5.other W7 (Or.inl (own_neEA Els2'5 (hw _ (List.mem_of_getElem? (i := 10) rfl)) (own_O.A Ox5)))
    have Fs2'7 := Fs2'5.other W7 (Or.inl (own_neEA Els2'5 (hw _ (List.mem_of_getElem? (i := 10) rfl)) (own_O.A Ox5)))
    have Fm2'7 := Fm2'5.other W7 (Or.inl (own_neEA Els2'5 (hw _ (List.mem_of_getElem? (i := 10) rfl)) (own_O.A Ox5)))
    have Els2'7 := Els2'5.wr W7
    have Ox3'7 := Ox3'5.wr W7
    have Ex3'7 := Ex3'5.wr W7
    have Ox5'7 := Ox5.wr W7
    have Ex5'7 := Ex5.wr W7
    have N7 := Fr.snoc X7 N5a g_x5
    have Z7 : n0 ≤ h7.size := by rw [W7.size]; exact Z5
    show own_Fin p.tables e below _ (T7.setTop (mkF m 35 #[.val (.int w), .val (.ref b1), .val (.int (0 : Int32)), .val (.ref x5)] []))
    refine own_st (fun t k => XS.aloadN X7.here hx rfl (hb hby d7_35) rfl rfl k) ?_
    show own_Fin p.tables e below _ (T7.setTop (mkF m 36 #[.val (.int w), .val (.ref b1), .val (.int (0 : Int32)), .val (.ref x5)] [(.ref b1)]))
    obtain ⟨T8, X8, e8, st8⟩ := getF X7 hx hZ hown (host := "") (Or.inl (hw _ (List.mem_of_getElem? (i := 33) rfl))) Via.refl e7 Fl2'7 (g := (mkF m 36 #[.val (.int w), .val (.ref b1), .val (.int (0 : Int32)), .val (.ref x5)] [(.ref b1)])) rfl rfl (hb hby d7_36)
    refine own_st st8 ?_
    show own_Fin p.tables e below _ (T8.setTop (mkF m 39 #[.val (.int w), .val (.ref b1), .val (.int (0 : Int32)), .val (.ref x5)] [(.ref ls2)]))
    refine own_st (fun t k => XS.aloadN X8.here hx rfl (hb hby d7_39) rfl rfl k) ?_
    show own_Fin p.tables e below _ (T8.setTop (mkF m 40 #[.val (.int w), .val (.ref b1), .val (.int (0 : Int32)), .val (.ref x5)] [(.ref x5), (.ref ls2)]))
    obtain ⟨cq9, kq9, qa9, qb9, qc9⟩ := isOf hZ e8 Els2'7
    obtain ⟨_, _, ⟨T9, L9, k9, n9⟩, -, X9, ⟨Lc9, hQ9, l9, y9, z9⟩, st9⟩ := X8.interfaceBack hx (xi := (⟨"java/util/List", "add", "(Ljava/lang/Object;)Z"⟩ : MethodName)) (y := (⟨"java/util/ArrayList", "add", "(Ljava/lang/Object;)Z"⟩ : MethodName)) hown (mvT hZ (hw _ (List.mem_of_getElem? (i := 62) rfl))) (mvT hZ (hw _ (List.mem_of_getElem? (i := 63) rfl))) (mvT hZ (hw _ (List.mem_of_getElem? (i := 64) rfl))) (mvT hZ (hw _ (List.mem_of_getElem? (i := 65) rfl))) (mvT hZ (hw _ (List.mem_of_getElem? (i := 66) rfl))) (mvT hZ (hw _ (List.mem_of_getElem? (i := 67) rfl))) (mvT hZ (hw _ (List.mem_of_getElem? (i := 68) rfl))) (mvT hZ (hw _ (List.mem_of_getElem? (i := 69) rfl))) (by decide) (backOf (W := 0) (rmA0 l Z a0 hw [] ls2 x5 _ aE kE h7 n0 Z7 Fe2'7 Fs2'7 Fm2'7 Els2'7 g_ls2 O0'7 S_D V_E Ex5'7) hZ (hw _ (List.mem_of_getElem? (i := 70) rfl)) (hw _ (List.mem_of_getElem? (i := 11) rfl)) (by decide) (by decide)) qa9 qb9 qc9 (g := (mkF m 40 #[.val (.int w), .val (.ref b1), .val (.int (0 : Int32)), .val (.ref x5)] [(.ref x5), (.ref ls2)])) rfl (by rw [hml]; rfl) (Steps.refl _) (argsL := [(.ref x5)]) (rest := []) (lenOf pd__Ljava_lang_Object__Z rfl) rfl (by show 2 * 0 + _ ≤ _; exact Nat.le_of_eq rfl) (hb hby d7_40) (fun _ _ => ⟨rfl, e8, (by decide : 4 + 1 ≤ _), (by decide : 20 + 10 ≤ _)⟩)
    dsimp only [Pt.U, Pt.locs, Pt.cells, Pt.slots] at X9 l9 y9 z9 st9 hQ9
    subst l9 y9 z9
    obtain ⟨rfl, N9, K9, ed, Fe9, Fs9, ⟨mc9, Fm9⟩, Oed9, sx9⟩ := hQ9
    refine own_st (fun t k => st9.trans k) ?_
    have g_ed : n0 ≤ ed := Nat.le_trans Z7 sx9
    have O0'9 := O0'7.keep K9 (allS g_ls2 all0)
    have A1'9 := A1'7.keep K9
    have Fb2'9 := Fb2'7.keep K9 (ninS (ne_exa A1'7 Els2'7 (by decide)) nin0)
    have Fd2'9 := Fd2'7.keep K9 (ninS (ne_exa A1'7 Els2'7 (by decide)) nin0)
    have Fl2'9 := Fl2'7.keep K9 (ninS (ne_exa A1'7 Els2'7 (by decide)) nin0)
    have Els2'9 := Els2'7.keep K9
    have Ox3'9 := Ox3'7.keep K9
    have Ex3'9 := Ex3'7.keep K9
    have Ox5'9 := Ox5'7.keep K9
    have Ex5'9 := Ex5'7.keep K9
    have Z9 : n0 ≤ T9.heap.size := Nat.le_trans Z7 K9.1
    have N9a := Fr.app N7 N9
    show own_Fin p.tables e below _ (T9.setTop (mkF m 45 #[.val (.int w), .val (.ref b1), .val (.int (0 : Int32)), .val (.ref x5)] [(.int (1 : Int32))]))
    refine own_st (fun t k => XS.pop X9.here hx rfl (hb hby d7_45) rfl rfl k) ?_
    show own_Fin p.tables e below _ (T9.setTop (mkF m 46 #[.val (.int w), .val (.ref b1), .val (.int (0 : Int32)), .val (.ref x5)] []))
    refine own_st (fun t k => XS.iinc X9.here hx rfl (hb hby d7_46) rfl (l' := #[.val (.int w), .val (.ref b1), .val (.int (1 : Int32)), .val (.ref x5)]) rfl k) ?_
    show own_Fin p.tables e below _ (T9.setTop (mkF m 49 #[.val (.int w), .val (.ref b1), .val (.int (1 : Int32)), .val (.ref x5)] []))
    refine own_st (fun t k => XS.goto X9.here hx rfl (pc0 := 49) (pc' := 19) rfl (hb hby d7_49) (by decide) (by decide) k) ?_
    show own_Fin p.tables e below _ (T9.setTop (mkF m 19 #[.val (.int w), .val (.ref b1), .val (.int (1 : Int32)), .val (.ref x5)] []))
    refine own_st (fun t k => XS.iloadN X9.here hx rfl (hb hby d7_19) rfl k) ?_
    show own_Fin p.tables e below _ (T9.setTop (mkF m 20 #[.val (.int w), .val (.ref b1), .val (.int (1 : Int32)), .val (.ref x5)] [(.int (1 : Int32))]))
    refine own_st (fun t k => XS.iloadN X9.here hx rfl (hb hby d7_20) rfl k) ?_
    show own_Fin p.tables e below _ (T9.setTop (mkF m 21 #[.val (.int w), .val (.ref b1), .val (.int (1 : Int32)), .val (.ref x5)] [(.int w), (.int (1 : Int32))]))
    rcases Decidable.em ((1 : Int32) < w) with c1 | c1
    · have _ := c1
      refine own_st (fun t k => XS.icmpNo X9.here hx rfl (hb hby d7_21) rfl (XT.ii_ge_f c1) k) ?_
      show own_Fin p.tables e below _ (T9.setTop (mkF m 24 #[.val (.int w), .val (.ref b1), .val (.int (1 : Int32)), .val (.ref x5)] []))
      refine own_st (fun t k => XS.iloadN X9.here hx rfl (hb hby d7_24) rfl k) ?_
      show own_Fin p.tables e below _ (T9.setTop (mkF m 25 #[.val (.int w), .val (.ref b1), .val (.int (1 : Int32)), .val (.ref x5)] [(.int w)]))
      obtain ⟨_, _, ⟨T10, L10, k10, n10⟩, -, X10, ⟨Lc10, hQ10, l10, y10, z10⟩, st10⟩ := Jvm.LawKit.callS X9 hx (y := (⟨"com/example/condense/condense/analysis/AffineHull", "zero", "(I)[Ljava/math/BigInteger;"⟩ : MethodName)) hown (mvT hZ (hw _ (List.mem_of_getElem? (i := 49) rfl))) (mvT hZ (hw _ (List.mem_of_getElem? (i := 50) rfl))) (mvT hZ (hw _ (List.mem_of_getElem? (i := 2) rfl))) (mvT hZ (hw _ (List.mem_of_getElem? (i := 51) rfl))) (by decide) (backOf (W := 0) (rm8 l Z a0 hw [] w aZ T9.heap n0 Z9 hw0 hle7 O0'9 S_Z E_Z) hZ (hw _ (List.mem_of_getElem? (i := 51) rfl)) (hw _ (List.mem_of_getElem? (i := 2) rfl)) (by decide) (by decide)) (g := (mkF m 25 #[.val (.int w), .val (.ref b1), .val (.int (1 : Int32)), .val (.ref x5)] [(.int w)])) rfl (by rw [hml]; rfl) (argsL := [(.int w)]) (rest := []) (lenOf pd__I__Ljava_math_BigInteger_ rfl) rfl (by show 2 * 0 + _ ≤ _; exact Nat.le_of_eq rfl) (hb hby d7_25) (fun _ _ => ⟨rfl, rfl, (by decide : 5 + 1 ≤ _), (by decide : 30 + 7 ≤ _)⟩)
      dsimp only [Pt.U, Pt.locs, Pt.cells, Pt.slots] at X10 l10 y10 z10 st10 hQ10
      subst l10 y10 z10
      obtain ⟨x10, rfl, N10, K10, Ox10, Ex10, g_x10⟩ := hQ10
      refine own_st (st10) ?_
      have O0'10 := O0'9.keep K10 all0
      have A1'10 := A1'9.keep K10
      have Fb2'10 := Fb2'9.keep K10 nin0
      have Fd2'10 := Fd2'9.keep K10 nin0
      have Fl2'10 := Fl2'9.keep K10 nin0
      have Els2'10 := Els2'9.keep K10
      have Ox3'10 := Ox3'9.keep K10
      have Ex3'10 := Ex3'9.keep K10
      have Oed9'10 := Oed9.keep K10
      have Fe9'10 := Fe9.keep K10 nin0
      have Fs9'10 := Fs9.keep K10 nin0
      have Fm9'10 := Fm9.keep K10 nin0
      have Z10 : n0 ≤ T10.heap.size := Nat.le_trans Z9 K10.1
      have N10a := Fr.app N9a N10
      show own_Fin p.tables e below _ (T10.setTop (mkF m 28 #[.val (.int w), .val (.ref b1), .val (.int (1 : Int32)), .val (.ref x5)] [(.ref x10)]))
      refine own_st (fun t k => XS.astoreN X10.here hx rfl (hb hby d7_28) rfl rfl (l' := #[.val (.int w), .val (.ref b1), .val (.int (1 : Int32)), .val (.ref x10)]) rfl k) ?_
      show own_Fin p.tables e below _ (T10.setTop (mkF m 29 #[.val (.int w), .val (.ref b1), .val (.int (1 : Int32)), .val (.ref x10)] []))
      refine own_st (fun t k => XS.aloadN X10.here hx rfl (hb hby d7_29) rfl rfl k) ?_
      show own_Fin p.tables e below _ (T10.setTop (mkF m 30 #[.val (.int w), .val (.ref b1), .val (.int (1 : Int32)), .val (.ref x10)] [(.ref x10)]))
      refine own_st (fun t k => XS.iloadN X10.here hx rfl (hb hby d7_30) rfl k) ?_
      show own_Fin p.tables e below _ (T10.setTop (mkF m 31 #[.val (.int w), .val (.ref b1), .val (.int (1 : Int32)), .val (.ref x10)] [(.int (1 : Int32)), (.ref x10)]))
      obtain ⟨T11, X11, e11, st11⟩ := getS (host := "") X10 hx hZ hown (hw _ (List.mem_of_getElem? (i := 61) rfl)) Via.refl rfl (Sta.ext O0'10.2 S_O) (g := (mkF m 31 #[.val (.int w), .val (.ref b1), .val (.int (1 : Int32)), .val (.ref x10)] [(.int (1 : Int32)), (.ref x10)])) rfl (hb hby d7_31)
      refine own_st st11 ?_
      show own_Fin p.tables e below _ (T11.setTop (mkF m 34 #[.val (.int w), .val (.ref b1), .val (.int (1 : Int32)), .val (.ref x10)] [(.ref aO), (.int (1 : Int32)), (.ref x10)]))
      obtain ⟨T12, h12, X12, e12, W12, st12⟩ := own_stR X11 hx hZ e11 Ox10 (j := (1 : Int32)) ⟨by decide, c1⟩ (Or.inr ⟨_, rfl, Ins.self (Exa.ext O0'10.2 E_O)⟩) (g := (mkF m 34 #[.val (.int w), .val (.ref b1), .val (.int (1 : Int32)), .val (.ref x10)] [(.ref aO), (.int (1 : Int32)), (.ref x10)])) rfl rfl (hb hby d7_34)
      refine own_st st12 ?_
      have O0'12 := O0'10.wr W12 g_x10
      have A1'12 := A1'10.wr W12
      have Fb2'12 := Fb2'10.other W12 (Or.inl (own_neEA A1'10 (hw _ (List.mem_of_getElem? (i := 1) rfl)) (own_O.A Ox10)))
      have Fd2'12 := Fd2'10.other W12 (Or.inl (own_neEA A1'10 (hw _ (List.mem_of_getElem? (i := 1) rfl)) (own_O.A Ox10)))
      have Fl2'12 := Fl2'10.other W12 (Or.inl (own_neEA A1'10 (hw _ (List.mem_of_getElem? (i := 1) rfl)) (own_O.A Ox10)))
      have Els2'12 := Els2'10.wr W12
      have Ox3'12 := Ox3'10.wr W12
      have Ex3'12 := Ex3'10.wr W12
      have Oed9'12 := Oed9'10.wr W12
      have Fe9'12 := Fe9'10.other W12 (Or.inl (own_neEA Els2'10 (hw _ (List.mem_of_getElem? (i := 10) rfl)) (own_O.A Ox10)))
      have Fs9'12 := Fs9'10.other W12 (Or.inl (own_neEA Els2'10 (hw _ (List.mem_of_getElem? (i := 10) rfl)) (own_O.A Ox10)))
      have Fm9'12 := Fm9'10.other W12 (Or.inl (own_neEA Els2'10 (hw _ (List.mem_of_getElem? (i := 10) rfl)) (own_O.A Ox10)))
      have Ox10'12 := Ox10.wr W12
      have Ex10'12 := Ex10.wr W12
      have N12 := Fr.snoc X12 N10a g_x10
      have Z12 : n0 ≤ h12.size := by rw [W12.size]; exact Z10
      show own_Fin p.tables e below _ (T12.setTop (mkF m 35 #[.val (.int w), .val (.ref b1), .val (.int (1 : Int32)), .val (.ref x10)] []))
      refine own_st (fun t k => XS.aloadN X12.here hx rfl (hb hby d7_35) rfl rfl k) ?_
      show own_Fin p.tables e below _ (T12.setTop (mkF m 36 #[.val (.int w), .val (.ref b1), .val (.int (1 : Int32)), .val (.ref x10)] [(.ref b1)]))
      obtain ⟨T13, X13, e13, st13⟩ := getF X12 hx hZ hown (host := "") (Or.inl (hw _ (List.mem_of_getElem? (i := 33) rfl))) Via.refl e12 Fl2'12 (g := (mkF m 36 #[.val (.int w), .val (.ref b1), .val (.int (1 : Int32)), .val (.ref x10)] [(.ref b1)])) rfl rfl (hb hby d7_36)
      refine own_st st13 ?_
      show own_Fin p.tables e below _ (T13.setTop (mkF m 39 #[.val (.int w), .val (.ref b1), .val (.int (1 : Int32)), .val (.ref x10)] [(.ref ls2)]))
      refine own_st (fun t k => XS.aloadN X13.here hx rfl (hb hby d7_39) rfl rfl k) ?_
      show own_Fin p.tables e below _ (T13.setTop (mkF m 40 #[.val (.int w), .val (.ref b1), .val (.int (1 : Int32)), .val (.ref x10)] [(.ref x10), (.ref ls2)]))
      obtain ⟨cq14, kq14, qa14, qb14, qc14⟩ := isOf hZ e13 Els2'12
      obtain ⟨_, _, ⟨T14, L14, k14, n14⟩, -, X14, ⟨Lc14, hQ14, l14, y14, z14⟩, st14⟩ := X13.interfaceBack hx (xi := (⟨"java/util/List", "add", "(Ljava/lang/Object;)Z"⟩ : MethodName)) (y := (⟨"java/util/ArrayList", "add", "(Ljava/lang/Object;)Z"⟩ : MethodName)) hown (mvT hZ (hw _ (List.mem_of_getElem? (i := 62) rfl))) (mvT hZ (hw _ (List.mem_of_getElem? (i := 63) rfl))) (mvT hZ (hw _ (List.mem_of_getElem? (i := 64) rfl))) (mvT hZ (hw _ (List.mem_of_getElem? (i := 65) rfl))) (mvT hZ (hw _ (List.mem_of_getElem? (i := 66) rfl))) (mvT hZ (hw _ (List.mem_of_getElem? (i := 67) rfl))) (mvT hZ (hw _ (List.mem_of_getElem? (i := 68) rfl))) (mvT hZ (hw _ (List.mem_of_getElem? (i := 69) rfl))) (by decide) (backOf (W := 0) (rmA1 l Z a0 hw [] ls2 x10 _ ed 1 2 h12 n0 Z12 Fe9'12 Fs9'12 Fm9'12 Els2'12 g_ls2 Oed9'12 g_ed Ex10'12 (by decide) (by decide)) hZ (hw _ (List.mem_of_getElem? (i := 70) rfl)) (hw _ (List.mem_of_getElem? (i := 11) rfl)) (by decide) (by decide)) qa14 qb14 qc14 (g := (mkF m 40 #[.val (.int w), .val (.ref b1), .val (.int (1 : Int32)), .val (.ref x10)] [(.ref x10), (.ref ls2)])) rfl (by rw [hml]; rfl) (Steps.refl _) (argsL := [(.ref x10)]) (rest := []) (lenOf pd__Ljava_lang_Object__Z rfl) rfl (by show 2 * 0 + _ ≤ _; exact Nat.le_of_eq rfl) (hb hby d7_40) (fun _ _ => ⟨rfl, e13, (by decide : 6 + 1 ≤ _), (by decide : 37 + 10 ≤ _)⟩)
      dsimp only [Pt.U, Pt.locs, Pt.cells, Pt.slots] at X14 l14 y14 z14 st14 hQ14
      subst l14 y14 z14
      obtain ⟨rfl, N14, K14, Fe14, Fs14, mc14, Fm14⟩ := hQ14
      refine own_st (fun t k => st14.trans k) ?_
      have O0'14 := O0'12.keep K14 (allS g_ls2 (allS g_ed all0))
      have A1'14 := A1'12.keep K14
      have Fb2'14 := Fb2'12.keep K14 (ninS (ne_exa A1'12 Els2'12 (by decide)) (ninS (own_neEA A1'12 (hw _ (List.mem_of_getElem? (i := 1) rfl)) (own_O.A Oed9'12)) nin0))
      have Fd2'14 := Fd2'12.keep K14 (ninS (ne_exa A1'12 Els2'12 (by decide)) (ninS (own_neEA A1'12 (hw _ (List.mem_of_getElem? (i := 1) rfl)) (own_O.A Oed9'12)) nin0))
      have Fl2'14 := Fl2'12.keep K14 (ninS (ne_exa A1'12 Els2'12 (by decide)) (ninS (own_neEA A1'12 (hw _ (List.mem_of_getElem? (i := 1) rfl)) (own_O.A Oed9'12)) nin0))
      have Els2'14 := Els2'12.keep K14
      have Ox3'14 := Ox3'12.keep K14
      have Ex3'14 := Ex3'12.keep K14
      have Oed9'14 := Oed9'12.keep K14
      have Ox10'14 := Ox10'12.keep K14
      have Ex10'14 := Ex10'12.keep K14
      have Z14 : n0 ≤ T14.heap.size := Nat.le_trans Z12 K14.1
      have N14a := Fr.app N12 N14
      show own_Fin p.tables e below _ (T14.setTop (mkF m 45 #[.val (.int w), .val (.ref b1), .val (.int (1 : Int32)), .val (.ref x10)] [(.int (1 : Int32))]))
      refine own_st (fun t k => XS.pop X14.here hx rfl (hb hby d7_45) rfl rfl k) ?_
      show own_Fin p.tables e below _ (T14.setTop (mkF m 46 #[.val (.int w), .val (.ref b1), .val (.int (1 : Int32)), .val (.ref x10)] []))
      refine own_st (fun t k => XS.iinc X14.here hx rfl (hb hby d7_46) rfl (l' := #[.val (.int w), .val (.ref b1), .val (.int (2 : Int32)), .val (.ref x10)]) rfl k) ?_
      show own_Fin p.tables e below _ (T14.setTop (mkF m 49 #[.val (.int w), .val (.ref b1), .val (.int (2 : Int32)), .val (.ref x10)] []))
      refine own_st (fun t k => XS.goto X14.here hx rfl (pc0 := 49) (pc' := 19) rfl (hb hby d7_49) (by decide) (by decide) k) ?_
      show own_Fin p.tables e below _ (T14.setTop (mkF m 19 #[.val (.int w), .val (.ref b1), .val (.int (2 : Int32)), .val (.ref x10)] []))
      refine own_st (fun t k => XS.iloadN X14.here hx rfl (hb hby d7_19) rfl k) ?_
      show own_Fin p.tables e below _ (T14.setTop (mkF m 20 #[.val (.int w), .val (.ref b1), .val (.int (2 : Int32)), .val (.ref x10)] [(.int (2 : Int32))]))
      refine own_st (fun t k => XS.iloadN X14.here hx rfl (hb hby d7_20) rfl k) ?_
      show own_Fin p.tables e below _ (T14.setTop (mkF m 21 #[.val (.int w), .val (.ref b1), .val (.int (2 : Int32)), .val (.ref x10)] [(.int w), (.int (2 : Int32))]))
      rcases Decidable.em ((2 : Int32) < w) with c2 | c2
      · have _ := c2
        refine own_st (fun t k => XS.icmpNo X14.here hx rfl (hb hby d7_21) rfl (XT.ii_ge_f c2) k) ?_
        show own_Fin p.tables e below _ (T14.setTop (mkF m 24 #[.val (.int w), .val (.ref b1), .val (.int (2 : Int32)), .val (.ref x10)] []))
        refine own_st (fun t k => XS.iloadN X14.here hx rfl (hb hby d7_24) rfl k) ?_
        show own_Fin p.tables e below _ (T14.setTop (mkF m 25 #[.val (.int w), .val (.ref b1), .val (.int (2 : Int32)), .val (.ref x10)] [(.int w)]))
        obtain ⟨_, _, ⟨T15, L15, k15, n15⟩, -, X15, ⟨Lc15, hQ15, l15, y15, z15⟩, st15⟩ := Jvm.LawKit.callS X14 hx (y := (⟨"com/example/condense/condense/analysis/AffineHull", "zero", "(I)[Ljava/math/BigInteger;"⟩ : MethodName)) hown (mvT hZ (hw _ (List.mem_of_getElem? (i := 49) rfl))) (mvT hZ (hw _ (List.mem_of_getElem? (i := 50) rfl))) (mvT hZ (hw _ (List.mem_of_getElem? (i := 2) rfl))) (mvT hZ (hw _ (List.mem_of_getElem? (i := 51) rfl))) (by decide) (backOf (W := 0) (rm8 l Z a0 hw [] w aZ T14.heap n0 Z14 hw0 hle7 O0'14 S_Z E_Z) hZ (hw _ (List.mem_of_getElem? (i := 51) rfl)) (hw _ (List.mem_of_getElem? (i := 2) rfl)) (by decide) (by decide)) (g := (mkF m 25 #[.val (.int w), .val (.ref b1), .val (.int (2 : Int32)), .val (.ref x10)] [(.int w)])) rfl (by rw [hml]; rfl) (argsL := [(.int w)]) (rest := []) (lenOf pd__I__Ljava_math_BigInteger_ rfl) rfl (by show 2 * 0 + _ ≤ _; exact Nat.le_of_eq rfl) (hb hby d7_25) (fun _ _ => ⟨rfl, rfl, (by decide : 7 + 1 ≤ _), (by decide : 47 + 7 ≤ _)⟩)
        dsimp only [Pt.U, Pt.locs, Pt.cells, Pt.slots] at X15 l15 y15 z15 st15 hQ15
        subst l15 y15 z15
        obtain ⟨x15, rfl, N15, K15, Ox15, Ex15, g_x15⟩ := hQ15
        refine own_st (st15) ?_
        have O0'15 := O0'14.keep K15 all0
        have A1'15 := A1'14.keep K15
        have Fb2'15 := Fb2'14.keep K15 nin0
        have Fd2'15 := Fd2'14.keep K15 nin0
        have Fl2'15 := Fl2'14.keep K15 nin0
        have Els2'15 := Els2'14.keep K15
        have Ox3'15 := Ox3'14.keep K15
        have Ex3'15 := Ex3'14.keep K15
        have Oed9'15 := Oed9'14.keep K15
        have Fe14'15 := Fe14.keep K15 nin0
        have Fs14'15 := Fs14.keep K15 nin0
        have Fm14'15 := Fm14.keep K15 nin0
        have Z15 : n0 ≤ T15.heap.size := Nat.le_trans Z14 K15.1
        have N15a := Fr.app N14a N15
        show own_Fin p.tables e below _ (T15.setTop (mkF m 28 #[.val (.int w), .val (.ref b1), .val (.int (2 : Int32)), .val (.ref x10)] [(.ref x15)]))
        refine own_st (fun t k => XS.astoreN X15.here hx rfl (hb hby d7_28) rfl rfl (l' := #[.val (.int w), .val (.ref b1), .val (.int (2 : Int32)), .val (.ref x15)]) rfl k) ?_
        show own_Fin p.tables e below _ (T15.setTop (mkF m 29 #[.val (.int w), .val (.ref b1), .val (.int (2 : Int32)), .val (.ref x15)] []))
        refine own_st (fun t k => XS.aloadN X15.here hx rfl (hb hby d7_29) rfl rfl k) ?_
        show own_Fin p.tables e below _ (T15.setTop (mkF m 30 #[.val (.int w), .val (.ref b1), .val (.int (2 : Int32)), .val (.ref x15)] [(.ref x15)]))
        refine own_st (fun t k => XS.iloadN X15.here hx rfl (hb hby d7_30) rfl k) ?_
        show own_Fin p.tables e below _ (T15.setTop (mkF m 31 #[.val (.int w), .val (.ref b1), .val (.int (2 : Int32)), .val (.ref x15)] [(.int (2 : Int32)), (.ref x15)]))
        obtain ⟨T16, X16, e16, st16⟩ := getS (host := "") X15 hx hZ hown (hw _ (List.mem_of_getElem? (i := 61) rfl)) Via.refl rfl (Sta.ext O0'15.2 S_O) (g := (mkF m 31 #[.val (.int w), .val (.ref b1), .val (.int (2 : Int32)), .val (.ref x15)] [(.int (2 : Int32)), (.ref x15)])) rfl (hb hby d7_31)
        refine own_st st16 ?_
        show own_Fin p.tables e below _ (T16.setTop (mkF m 34 #[.val (.int w), .val (.ref b1), .val (.int (2 : Int32)), .val (.ref x15)] [(.ref aO), (.int (2 : Int32)), (.ref x15)]))
        obtain ⟨T17, h17, X17, e17, W17, st17⟩ := own_stR X16 hx hZ e16 Ox15 (j := (2 : Int32)) ⟨by decide, c2⟩ (Or.inr ⟨_, rfl, Ins.self (Exa.ext O0'15.2 E_O)⟩) (g := (mkF m 34 #[.val (.int w), .val (.ref b1), .val (.int (2 : Int32)), .val (.ref x15)] [(.ref aO), (.int (2 : Int32)), (.ref x15)])) rfl rfl (hb hby d7_34)
        refine own_st st17 ?_
        have O0'17 := O0'15.wr W17 g_x15
        have A1'17 := A1'15.wr W17
        have Fb2'17 := Fb2'15.other W17 (Or.inl (own_neEA A1'15 (hw _ (List.mem_of_getElem? (i := 1) rfl)) (own_O.A Ox15)))
        have Fd2'17 := Fd2'15.other W17 (Or.inl (own_neEA A1'15 (hw _ (List.mem_of_getElem? (i := 1) rfl)) (own_O.A Ox15)))
        have Fl2'17 := Fl2'15.other W17 (Or.inl (own_neEA A1'15 (hw _ (List.mem_of_getElem? (i := 1) rfl)) (own_O.A Ox15)))
        have Els2'17 := Els2'15.wr W17
        have Ox3'17 := Ox3'15.wr W17
        have Ex3'17 := Ex3'15.wr W17
        have Oed9'17 := Oed9'15.wr W17
        have Fe14'17 := Fe14'15.other W17 (Or.inl (own_neEA Els2'15 (hw _ (List.mem_of_getElem? (i := 10) rfl)) (own_O.A Ox15)))
        have Fs14'17 := Fs14'15.other W17 (Or.inl (own_neEA Els2'15 (hw _ (List.mem_of_getElem? (i := 10) rfl)) (own_O.A Ox15)))
        have Fm14'17 := Fm14'15.other W17 (Or.inl (own_neEA Els2'15 (hw _ (List.mem_of_getElem? (i := 10) rfl)) (own_O.A Ox15)))
        have Ox15'17 := Ox15.wr W17
        have Ex15'17 := Ex15.wr W17
        have N17 := Fr.snoc X17 N15a g_x15
        have Z17 : n0 ≤ h17.size := by rw [W17.size]; exact Z15
        show own_Fin p.tables e below _ (T17.setTop (mkF m 35 #[.val (.int w), .val (.ref b1), .val (.int (2 : Int32)), .val (.ref x15)] []))
        refine own_st (fun t k => XS.aloadN X17.here hx rfl (hb hby d7_35) rfl rfl k) ?_
        show own_Fin p.tables e below _ (T17.setTop (mkF m 36 #[.val (.int w), .val (.ref b1), .val (.int (2 : Int32)), .val (.ref x15)] [(.ref b1)]))
        obtain ⟨T18, X18, e18, st18⟩ := getF X17 hx hZ hown (host := "") (Or.inl (hw _ (List.mem_of_getElem? (i := 33) rfl))) Via.refl e17 Fl2'17 (g := (mkF m 36 #[.val (.int w), .val (.ref b1), .val (.int (2 : Int32)), .val (.ref x15)] [(.ref b1)])) rfl rfl (hb hby d7_36)
        refine own_st st18 ?_
        show own_Fin p.tables e below _ (T18.setTop (mkF m 39 #[.val (.int w), .val (.ref b1), .val (.int (2 : Int32)), .val (.ref x15)] [(.ref ls2)]))
        refine own_st (fun t k => XS.aloadN X18.here hx rfl (hb hby d7_39) rfl rfl k) ?_
        show own_Fin p.tables e below _ (T18.setTop (mkF m 40 #[.val (.int w), .val (.ref b1), .val (.int (2 : Int32)), .val (.ref x15)] [(.ref x15), (.ref ls2)]))
        obtain ⟨cq19, kq19, qa19, qb19, qc19⟩ := isOf hZ e18 Els2'17
        obtain ⟨_, _, ⟨T19, L19, k19, n19⟩, -, X19, ⟨Lc19, hQ19, l19, y19, z19⟩, st19⟩ := X18.interfaceBack hx (xi := (⟨"java/util/List", "add", "(Ljava/lang/Object;)Z"⟩ : MethodName)) (y := (⟨"java/util/ArrayList", "add", "(Ljava/lang/Object;)Z"⟩ : MethodName)) hown (mvT hZ (hw _ (List.mem_of_getElem? (i := 62) rfl))) (mvT hZ (hw _ (List.mem_of_getElem? (i := 63) rfl))) (mvT hZ (hw _ (List.mem_of_getElem? (i := 64) rfl))) (mvT hZ (hw _ (List.mem_of_getElem? (i := 65) rfl))) (mvT hZ (hw _ (List.mem_of_getElem? (i := 66) rfl))) (mvT hZ (hw _ (List.mem_of_getElem? (i := 67) rfl))) (mvT hZ (hw _ (List.mem_of_getElem? (i := 68) rfl))) (mvT hZ (hw _ (List.mem_of_getElem? (i := 69) rfl))) (by decide) (backOf (W := 0) (rmA1 l Z a0 hw [] ls2 x15 _ ed 2 3 h17 n0 Z17 Fe14'17 Fs14'17 Fm14'17 Els2'17 g_ls2 Oed9'17 g_ed Ex15'17 (by decide) (by decide)) hZ (hw _ (List.mem_of_getElem? (i := 70) rfl)) (hw _ (List.mem_of_getElem? (i := 11) rfl)) (by decide) (by decide)) qa19 qb19 qc19 (g := (mkF m 40 #[.val (.int w), .val (.ref b1), .val (.int (2 : Int32)), .val (.ref x15)] [(.ref x15), (.ref ls2)])) rfl (by rw [hml]; rfl) (Steps.refl _) (argsL := [(.ref x15)]) (rest := []) (lenOf pd__Ljava_lang_Object__Z rfl) rfl (by show 2 * 0 + _ ≤ _; exact Nat.le_of_eq rfl) (hb hby d7_40) (fun _ _ => ⟨rfl, e18, (by decide : 8 + 1 ≤ _), (by decide : 54 + 10 ≤ _)⟩)
        dsimp only [Pt.U, Pt.locs, Pt.cells, Pt.slots] at X19 l19 y19 z19 st19 hQ19
        subst l19 y19 z19
        obtain ⟨rfl, N19, K19, Fe19, Fs19, mc19, Fm19⟩ := hQ19
        refine own_st (fun t k => st19.trans k) ?_
        have O0'19 := O0'17.keep K19 (allS g_ls2 (allS g_ed all0))
        have A1'19 := A1'17.keep K19
        have Fb2'19 := Fb2'17.keep K19 (ninS (ne_exa A1'17 Els2'17 (by decide)) (ninS (own_neEA A1'17 (hw _ (List.mem_of_getElem? (i := 1) rfl)) (own_O.A Oed9'17)) nin0))
        have Fd2'19 := Fd2'17.keep K19 (ninS (ne_exa A1'17 Els2'17 (by decide)) (ninS (own_neEA A1'17 (hw _ (List.mem_of_getElem? (i := 1) rfl)) (own_O.A Oed9'17)) nin0))
        have Fl2'19 := Fl2'17.keep K19 (ninS (ne_exa A1'17 Els2'17 (by decide)) (ninS (own_neEA A1'17 (hw _ (List.mem_of_getElem? (i := 1) rfl)) (own_O.A Oed9'17)) nin0))
        have Els2'19 := Els2'17.keep K19
        have Ox3'19 := Ox3'17.keep K19
        have Ex3'19 := Ex3'17.keep K19
        have Oed9'19 := Oed9'17.keep K19
        have Ox15'19 := Ox15'17.keep K19
        have Ex15'19 := Ex15'17.keep K19
        have Z19 : n0 ≤ T19.heap.size := Nat.le_trans Z17 K19.1
        have N19a := Fr.app N17 N19
        show own_Fin p.tables e below _ (T19.setTop (mkF m 45 #[.val (.int w), .val (.ref b1), .val (.int (2 : Int32)), .val (.ref x15)] [(.int (1 : Int32))]))
        refine own_st (fun t k => XS.pop X19.here hx rfl (hb hby d7_45) rfl rfl k) ?_
        show own_Fin p.tables e below _ (T19.setTop (mkF m 46 #[.val (.int w), .val (.ref b1), .val (.int (2 : Int32)), .val (.ref x15)] []))
        refine own_st (fun t k => XS.iinc X19.here hx rfl (hb hby d7_46) rfl (l' := #[.val (.int w), .val (.ref b1), .val (.int (3 : Int32)), .val (.ref x15)]) rfl k) ?_
        show own_Fin p.tables e below _ (T19.setTop (mkF m 49 #[.val (.int w), .val (.ref b1), .val (.int (3 : Int32)), .val (.ref x15)] []))
        refine own_st (fun t k => XS.goto X19.here hx rfl (pc0 := 49) (pc' := 19) rfl (hb hby d7_49) (by decide) (by decide) k) ?_
        show own_Fin p.tables e below _ (T19.setTop (mkF m 19 #[.val (.int w), .val (.ref b1), .val (.int (3 : Int32)), .val (.ref x15)] []))
        refine own_st (fun t k => XS.iloadN X19.here hx rfl (hb hby d7_19) rfl k) ?_
        show own_Fin p.tables e below _ (T19.setTop (mkF m 20 #[.val (.int w), .val (.ref b1), .val (.int (3 : Int32)), .val (.ref x15)] [(.int (3 : Int32))]))
        refine own_st (fun t k => XS.iloadN X19.here hx rfl (hb hby d7_20) rfl k) ?_
        show own_Fin p.tables e below _ (T19.setTop (mkF m 21 #[.val (.int w), .val (.ref b1), .val (.int (3 : Int32)), .val (.ref x15)] [(.int w), (.int (3 : Int32))]))
        rcases Decidable.em ((3 : Int32) < w) with c3 | c3
        · have _ := c3
          refine own_st (fun t k => XS.icmpNo X19.here hx rfl (hb hby d7_21) rfl (XT.ii_ge_f c3) k) ?_
          show own_Fin p.tables e below _ (T19.setTop (mkF m 24 #[.val (.int w), .val (.ref b1), .val (.int (3 : Int32)), .val (.ref x15)] []))
          refine own_st (fun t k => XS.iloadN X19.here hx rfl (hb hby d7_24) rfl k) ?_
          show own_Fin p.tables e below _ (T19.setTop (mkF m 25 #[.val (.int w), .val (.ref b1), .val (.int (3 : Int32)), .val (.ref x15)] [(.int w)]))
          obtain ⟨_, _, ⟨T20, L20, k20, n20⟩, -, X20, ⟨Lc20, hQ20, l20, y20, z20⟩, st20⟩ := Jvm.LawKit.callS X19 hx (y := (⟨"com/example/condense/condense/analysis/AffineHull", "zero", "(I)[Ljava/math/BigInteger;"⟩ : MethodName)) hown (mvT hZ (hw _ (List.mem_of_getElem? (i := 49) rfl))) (mvT hZ (hw _ (List.mem_of_getElem? (i := 50) rfl))) (mvT hZ (hw _ (List.mem_of_getElem? (i := 2) rfl))) (mvT hZ (hw _ (List.mem_of_getElem? (i := 51) rfl))) (by decide) (backOf (W := 0) (rm8 l Z a0 hw [] w aZ T19.heap n0 Z19 hw0 hle7 O0'19 S_Z E_Z) hZ (hw _ (List.mem_of_getElem? (i := 51) rfl)) (hw _ (List.mem_of_getElem? (i := 2) rfl)) (by decide) (by decide)) (g := (mkF m 25 #[.val (.int w), .val (.ref b1), .val (.int (3 : Int32)), .val (.ref x15)] [(.int w)])) rfl (by rw [hml]; rfl) (argsL := [(.int w)]) (rest := []) (lenOf pd__I__Ljava_math_BigInteger_ rfl) rfl (by show 2 * 0 + _ ≤ _; exact Nat.le_of_eq rfl) (hb hby d7_25) (fun _ _ => ⟨rfl, rfl, (by decide : 9 + 1 ≤ _), (by decide : 64 + 7 ≤ _)⟩)
          dsimp only [Pt.U, Pt.locs, Pt.cells, Pt.slots] at X20 l20 y20 z20 st20 hQ20
          subst l20 y20 z20
          obtain ⟨x20, rfl, N20, K20, Ox20, Ex20, g_x20⟩ := hQ20
          refine own_st (st20) ?_
          have O0'20 := O0'19.keep K20 all0
          have A1'20 := A1'19.keep K20
          have Fb2'20 := Fb2'19.keep K20 nin0
          have Fd2'20 := Fd2'19.keep K20 nin0
          have Fl2'20 := Fl2'19.keep K20 nin0
          have Els2'20 := Els2'19.keep K20
          have Ox3'20 := Ox3'19.keep K20
          have Ex3'20 := Ex3'19.keep K20
          have Oed9'20 := Oed9'19.keep K20
          have Fe19'20 := Fe19.keep K20 nin0
          have Fs19'20 := Fs19.keep K20 nin0
          have Fm19'20 := Fm19.keep K20 nin0
          have Z20 : n0 ≤ T20.heap.size := Nat.le_trans Z19 K20.1
          have N20a := Fr.app N19a N20
          show own_Fin p.tables e below _ (T20.setTop (mkF m 28 #[.val (.int w), .val (.ref b1), .val (.int (3 : Int32)), .val (.ref x15)] [(.ref x20)]))
          refine own_st (fun t k => XS.astoreN X20.here hx rfl (hb hby d7_28) rfl rfl (l' := #[.val (.int w), .val (.ref b1), .val (.int (3 : Int32)), .val (.ref x20)]) rfl k) ?_
          show own_Fin p.tables e below _ (T20.setTop (mkF m 29 #[.val (.int w), .val (.ref b1), .val (.int (3 : Int32)), .val (.ref x20)] []))
          refine own_st (fun t k => XS.aloadN X20.here hx rfl (hb hby d7_29) rfl rfl k) ?_
          show own_Fin p.tables e below _ (T20.setTop (mkF m 30 #[.val (.int w), .val (.ref b1), .val (.int (3 : Int32)), .val (.ref x20)] [(.ref x20)]))
          refine own_st (fun t k => XS.iloadN X20.here hx rfl (hb hby d7_30) rfl k) ?_
          show own_Fin p.tables e below _ (T20.setTop (mkF m 31 #[.val (.int w), .val (.ref b1), .val (.int (3 : Int32)), .val (.ref x20)] [(.int (3 : Int32)), (.ref x20)]))
          obtain ⟨T21, X21, e21, st21⟩ := getS (host := "") X20 hx hZ hown (hw _ (List.mem_of_getElem? (i := 61) rfl)) Via.refl rfl (Sta.ext O0'20.2 S_O) (g := (mkF m 31 #[.val (.int w), .val (.ref b1), .val (.int (3 : Int32)), .val (.ref x20)] [(.int (3 : Int32)), (.ref x20)])) rfl (hb hby d7_31)
          refine own_st st21 ?_
          show own_Fin p.tables e below _ (T21.setTop (mkF m 34 #[.val (.int w), .val (.ref b1), .val (.int (3 : Int32)), .val (.ref x20)] [(.ref aO), (.int (3 : Int32)), (.ref x20)]))
          obtain ⟨T22, h22, X22, e22, W22, st22⟩ := own_stR X21 hx hZ e21 Ox20 (j := (3 : Int32)) ⟨by decide, c3⟩ (Or.inr ⟨_, rfl, Ins.self (Exa.ext O0'20.2 E_O)⟩) (g := (mkF m 34 #[.val (.int w), .val (.ref b1), .val (.int (3 : Int32)), .val (.ref x20)] [(.ref aO), (.int (3 : Int32)), (.ref x20)])) rfl rfl (hb hby d7_34)
          refine own_st st22 ?_
          have O0'22 := O0'20.wr W22 g_x20
          have A1'22 := A1'20.wr W22
          have Fb2'22 := Fb2'20.other W22 (Or.inl (own_neEA A1'20 (hw _ (List.mem_of_getElem? (i := 1) rfl)) (own_O.A Ox20)))
          have Fd2'22 := Fd2'20.other W22 (Or.inl (own_neEA A1'20 (hw _ (List.mem_of_getElem? (i := 1) rfl)) (own_O.A Ox20)))
          have Fl2'22 := Fl2'20.other W22 (Or.inl (own_neEA A1'20 (hw _ (List.mem_of_getElem? (i := 1) rfl)) (own_O.A Ox20)))
          have Els2'22 := Els2'20.wr W22
          have Ox3'22 := Ox3'20.wr W22
          have Ex3'22 := Ex3'20.wr W22
          have Oed9'22 := Oed9'20.wr W22
          have Fe19'22 := Fe19'20.other W22 (Or.inl (own_neEA Els2'20 (hw _ (List.mem_of_getElem? (i := 10) rfl)) (own_O.A Ox20)))
          have Fs19'22 := Fs19'20.other W22 (Or.inl (own_neEA Els2'20 (hw _ (List.mem_of_getElem? (i := 10) rfl)) (own_O.A Ox20)))
          have Fm19'22 := Fm19'20.other W22 (Or.inl (own_neEA Els2'20 (hw _ (List.mem_of_getElem? (i := 10) rfl)) (own_O.A Ox20)))
          have Ox20'22 := Ox20.wr W22
          have Ex20'22 := Ex20.wr W22
          have N22 := Fr.snoc X22 N20a g_x20
          have Z22 : n0 ≤ h22.size := by rw [W22.size]; exact Z20
          show own_Fin p.tables e below _ (T22.setTop (mkF m 35 #[.val (.int w), .val (.ref b1), .val (.int (3 : Int32)), .val (.ref x20)] []))
          refine own_st (fun t k => XS.aloadN X22.here hx rfl (hb hby d7_35) rfl rfl k) ?_
          show own_Fin p.tables e below _ (T22.setTop (mkF m 36 #[.val (.int w), .val (.ref b1), .val (.int (3 : Int32)), .val (.ref x20)] [(.ref b1)]))
          obtain ⟨T23, X23, e23, st23⟩ := getF X22 hx hZ hown (host := "") (Or.inl (hw _ (List.mem_of_getElem? (i := 33) rfl))) Via.refl e22 Fl2'22 (g := (mkF m 36 #[.val (.int w), .val (.ref b1), .val (.int (3 : Int32)), .val (.ref x20)] [(.ref b1)])) rfl rfl (hb hby d7_36)
          refine own_st st23 ?_
          show own_Fin p.tables e below _ (T23.setTop (mkF m 39 #[.val (.int w), .val (.ref b1), .val (.int (3 : Int32)), .val (.ref x20)] [(.ref ls2)]))
          refine own_st (fun t k => XS.aloadN X23.here hx rfl (hb hby d7_39) rfl rfl k) ?_
          show own_Fin p.tables e below _ (T23.setTop (mkF m 40 #[.val (.int w), .val (.ref b1), .val (.int (3 : Int32)), .val (.ref x20)] [(.ref x20), (.ref ls2)]))
          obtain ⟨cq24, kq24, qa24, qb24, qc24⟩ := isOf hZ e23 Els2'22
          obtain ⟨_, _, ⟨T24, L24, k24, n24⟩, -, X24, ⟨Lc24, hQ24, l24, y24, z24⟩, st24⟩ := X23.interfaceBack hx (xi := (⟨"java/util/List", "add", "(Ljava/lang/Object;)Z"⟩ : MethodName)) (y := (⟨"java/util/ArrayList", "add", "(Ljava/lang/Object;)Z"⟩ : MethodName)) hown (mvT hZ (hw _ (List.mem_of_getElem? (i := 62) rfl))) (mvT hZ (hw _ (List.mem_of_getElem? (i := 63) rfl))) (mvT hZ (hw _ (List.mem_of_getElem? (i := 64) rfl))) (mvT hZ (hw _ (List.mem_of_getElem? (i := 65) rfl))) (mvT hZ (hw _ (List.mem_of_getElem? (i := 66) rfl))) (mvT hZ (hw _ (List.mem_of_getElem? (i := 67) rfl))) (mvT hZ (hw _ (List.mem_of_getElem? (i := 68) rfl))) (mvT hZ (hw _ (List.mem_of_getElem? (i := 69) rfl))) (by decide) (backOf (W := 0) (rmA1 l Z a0 hw [] ls2 x20 _ ed 3 4 h22 n0 Z22 Fe19'22 Fs19'22 Fm19'22 Els2'22 g_ls2 Oed9'22 g_ed Ex20'22 (by decide) (by decide)) hZ (hw _ (List.mem_of_getElem? (i := 70) rfl)) (hw _ (List.mem_of_getElem? (i := 11) rfl)) (by decide) (by decide)) qa24 qb24 qc24 (g := (mkF m 40 #[.val (.int w), .val (.ref b1), .val (.int (3 : Int32)), .val (.ref x20)] [(.ref x20), (.ref ls2)])) rfl (by rw [hml]; rfl) (Steps.refl _) (argsL := [(.ref x20)]) (rest := []) (lenOf pd__Ljava_lang_Object__Z rfl) rfl (by show 2 * 0 + _ ≤ _; exact Nat.le_of_eq rfl) (hb hby d7_40) (fun _ _ => ⟨rfl, e23, (by decide : 10 + 1 ≤ _), (by decide : 71 + 10 ≤ _)⟩)
          dsimp only [Pt.U, Pt.locs, Pt.cells, Pt.slots] at X24 l24 y24 z24 st24 hQ24
          subst l24 y24 z24
          obtain ⟨rfl, N24, K24, Fe24, Fs24, mc24, Fm24⟩ := hQ24
          refine own_st (fun t k => st24.trans k) ?_
          have O0'24 := O0'22.keep K24 (allS g_ls2 (allS g_ed all0))
          have A1'24 := A1'22.keep K24
          have Fb2'24 := Fb2'22.keep K24 (ninS (ne_exa A1'22 Els2'22 (by decide)) (ninS (own_neEA A1'22 (hw _ (List.mem_of_getElem? (i := 1) rfl)) (own_O.A Oed9'22)) nin0))
          have Fd2'24 := Fd2'22.keep K24 (ninS (ne_exa A1'22 Els2'22 (by decide)) (ninS (own_neEA A1'22 (hw _ (List.mem_of_getElem? (i := 1) rfl)) (own_O.A Oed9'22)) nin0))
          have Fl2'24 := Fl2'22.keep K24 (ninS (ne_exa A1'22 Els2'22 (by decide)) (ninS (own_neEA A1'22 (hw _ (List.mem_of_getElem? (i := 1) rfl)) (own_O.A Oed9'22)) nin0))
          have Els2'24 := Els2'22.keep K24
          have Ox3'24 := Ox3'22.keep K24
          have Ex3'24 := Ex3'22.keep K24
          have Oed9'24 := Oed9'22.keep K24
          have Ox20'24 := Ox20'22.keep K24
          have Ex20'24 := Ex20'22.keep K24
          have Z24 : n0 ≤ T24.heap.size := Nat.le_trans Z22 K24.1
          have N24a := Fr.app N22 N24
          show own_Fin p.tables e below _ (T24.setTop (mkF m 45 #[.val (.int w), .val (.ref b1), .val (.int (3 : Int32)), .val (.ref x20)] [(.int (1 : Int32))]))
          refine own_st (fun t k => XS.pop X24.here hx rfl (hb hby d7_45) rfl rfl k) ?_
          show own_Fin p.tables e below _ (T24.setTop (mkF m 46 #[.val (.int w), .val (.ref b1), .val (.int (3 : Int32)), .val (.ref x20)] []))
          refine own_st (fun t k => XS.iinc X24.here hx rfl (hb hby d7_46) rfl (l' := #[.val (.int w), .val (.ref b1), .val (.int (4 : Int32)), .val (.ref x20)]) rfl k) ?_
          show own_Fin p.tables e below _ (T24.setTop (mkF m 49 #[.val (.int w), .val (.ref b1), .val (.int (4 : Int32)), .val (.ref x20)] []))
          refine own_st (fun t k => XS.goto X24.here hx rfl (pc0 := 49) (pc' := 19) rfl (hb hby d7_49) (by decide) (by decide) k) ?_
          show own_Fin p.tables e below _ (T24.setTop (mkF m 19 #[.val (.int w), .val (.ref b1), .val (.int (4 : Int32)), .val (.ref x20)] []))
          refine own_st (fun t k => XS.iloadN X24.here hx rfl (hb hby d7_19) rfl k) ?_
          show own_Fin p.tables e below _ (T24.setTop (mkF m 20 #[.val (.int w), .val (.ref b1), .val (.int (4 : Int32)), .val (.ref x20)] [(.int (4 : Int32))]))
          refine own_st (fun t k => XS.iloadN X24.here hx rfl (hb hby d7_20) rfl k) ?_
          show own_Fin p.tables e below _ (T24.setTop (mkF m 21 #[.val (.int w), .val (.ref b1), .val (.int (4 : Int32)), .val (.ref x20)] [(.int w), (.int (4 : Int32))]))
          rcases Decidable.em ((4 : Int32) < w) with c4 | c4
          · have _ := c4
            refine own_st (fun t k => XS.icmpNo X24.here hx rfl (hb hby d7_21) rfl (XT.ii_ge_f c4) k) ?_
            show own_Fin p.tables e below _ (T24.setTop (mkF m 24 #[.val (.int w), .val (.ref b1), .val (.int (4 : Int32)), .val (.ref x20)] []))
            refine own_st (fun t k => XS.iloadN X24.here hx rfl (hb hby d7_24) rfl k) ?_
            show own_Fin p.tables e below _ (T24.setTop (mkF m 25 #[.val (.int w), .val (.ref b1), .val (.int (4 : Int32)), .val (.ref x20)] [(.int w)]))
            obtain ⟨_, _, ⟨T25, L25, k25, n25⟩, -, X25, ⟨Lc25, hQ25, l25, y25, z25⟩, st25⟩ := Jvm.LawKit.callS X24 hx (y := (⟨"com/example/condense/condense/analysis/AffineHull", "zero", "(I)[Ljava/math/BigInteger;"⟩ : MethodName)) hown (mvT hZ (hw _ (List.mem_of_getElem? (i := 49) rfl))) (mvT hZ (hw _ (List.mem_of_getElem? (i := 50) rfl))) (mvT hZ (hw _ (List.mem_of_getElem? (i := 2) rfl))) (mvT hZ (hw _ (List.mem_of_getElem? (i := 51) rfl))) (by decide) (backOf (W := 0) (rm8 l Z a0 hw [] w aZ T24.heap n0 Z24 hw0 hle7 O0'24 S_Z E_Z) hZ (hw _ (List.mem_of_getElem? (i := 51) rfl)) (hw _ (List.mem_of_getElem? (i := 2) rfl)) (by decide) (by decide)) (g := (mkF m 25 #[.val (.int w), .val (.ref b1), .val (.int (4 : Int32)), .val (.ref x20)] [(.int w)])) rfl (by rw [hml]; rfl) (argsL := [(.int w)]) (rest := []) (lenOf pd__I__Ljava_math_BigInteger_ rfl) rfl (by show 2 * 0 + _ ≤ _; exact Nat.le_of_eq rfl) (hb hby d7_25) (fun _ _ => ⟨rfl, rfl, (by decide : 11 + 1 ≤ _), (by decide : 81 + 7 ≤ _)⟩)
            dsimp only [Pt.U, Pt.locs, Pt.cells, Pt.slots] at X25 l25 y25 z25 st25 hQ25
            subst l25 y25 z25
            obtain ⟨x25, rfl, N25, K25, Ox25, Ex25, g_x25⟩ := hQ25
            refine own_st (st25) ?_
            have O0'25 := O0'24.keep K25 all0
            have A1'25 := A1'24.keep K25
            have Fb2'25 := Fb2'24.keep K25 nin0
            have Fd2'25 := Fd2'24.keep K25 nin0
            have Fl2'25 := Fl2'24.keep K25 nin0
            have Els2'25 := Els2'24.keep K25
            have Ox3'25 := Ox3'24.keep K25
            have Ex3'25 := Ex3'24.keep K25
            have Oed9'25 := Oed9'24.keep K25
            have Fe24'25 := Fe24.keep K25 nin0
            have Fs24'25 := Fs24.keep K25 nin0
            have Fm24'25 := Fm24.keep K25 nin0
            have Z25 : n0 ≤ T25.heap.size := Nat.le_trans Z24 K25.1
            have N25a := Fr.app N24a N25
            show own_Fin p.tables e below _ (T25.setTop (mkF m 28 #[.val (.int w), .val (.ref b1), .val (.int (4 : Int32)), .val (.ref x20)] [(.ref x25)]))
            refine own_st (fun t k => XS.astoreN X25.here hx rfl (hb hby d7_28) rfl rfl (l' := #[.val (.int w), .val (.ref b1), .val (.int (4 : Int32)), .val (.ref x25)]) rfl k) ?_
            show own_Fin p.tables e below _ (T25.setTop (mkF m 29 #[.val (.int w), .val (.ref b1), .val (.int (4 : Int32)), .val (.ref x25)] []))
            refine own_st (fun t k => XS.aloadN X25.here hx rfl (hb hby d7_29) rfl rfl k) ?_
            show own_Fin p.tables e below _ (T25.setTop (mkF m 30 #[.val (.int w), .val (.ref b1), .val (.int (4 : Int32)), .val (.ref x25)] [(.ref x25)]))
            refine own_st (fun t k => XS.iloadN X25.here hx rfl (hb hby d7_30) rfl k) ?_
            show own_Fin p.tables e below _ (T25.setTop (mkF m 31 #[.val (.int w), .val (.ref b1), .val (.int (4 : Int32)), .val (.ref x25)] [(.int (4 : Int32)), (.ref x25)]))
            obtain ⟨T26, X26, e26, st26⟩ := getS (host := "") X25 hx hZ hown (hw _ (List.mem_of_getElem? (i := 61) rfl)) Via.refl rfl (Sta.ext O0'25.2 S_O) (g := (mkF m 31 #[.val (.int w), .val (.ref b1), .val (.int (4 : Int32)), .val (.ref x25)] [(.int (4 : Int32)), (.ref x25)])) rfl (hb hby d7_31)
            refine own_st st26 ?_
            show own_Fin p.tables e below _ (T26.setTop (mkF m 34 #[.val (.int w), .val (.ref b1), .val (.int (4 : Int32)), .val (.ref x25)] [(.ref aO), (.int (4 : Int32)), (.ref x25)]))
            obtain ⟨T27, h27, X27, e27, W27, st27⟩ := own_stR X26 hx hZ e26 Ox25 (j := (4 : Int32)) ⟨by decide, c4⟩ (Or.inr ⟨_, rfl, Ins.self (Exa.ext O0'25.2 E_O)⟩) (g := (mkF m 34 #[.val (.int w), .val (.ref b1), .val (.int (4 : Int32)), .val (.ref x25)] [(.ref aO), (.int (4 : Int32)), (.ref x25)])) rfl rfl (hb hby d7_34)
            refine own_st st27 ?_
            have O0'27 := O0'25.wr W27 g_x25
            have A1'27 := A1'25.wr W27
            have Fb2'27 := Fb2'25.other W27 (Or.inl (own_neEA A1'25 (hw _ (List.mem_of_getElem? (i := 1) rfl)) (own_O.A Ox25)))
            have Fd2'27 := Fd2'25.other W27 (Or.inl (own_neEA A1'25 (hw _ (List.mem_of_getElem? (i := 1) rfl)) (own_O.A Ox25)))
            have Fl2'27 := Fl2'25.other W27 (Or.inl (own_neEA A1'25 (hw _ (List.mem_of_getElem? (i := 1) rfl)) (own_O.A Ox25)))
            have Els2'27 := Els2'25.wr W27
            have Ox3'27 := Ox3'25.wr W27
            have Ex3'27 := Ex3'25.wr W27
            have Oed9'27 := Oed9'25.wr W27
            have Fe24'27 := Fe24'25.other W27 (Or.inl (own_neEA Els2'25 (hw _ (List.mem_of_getElem? (i := 10) rfl)) (own_O.A Ox25)))
            have Fs24'27 := Fs24'25.other W27 (Or.inl (own_neEA Els2'25 (hw _ (List.mem_of_getElem? (i := 10) rfl)) (own_O.A Ox25)))
            have Fm24'27 := Fm24'25.other W27 (Or.inl (own_neEA Els2'25 (hw _ (List.mem_of_getElem? (i := 10) rfl)) (own_O.A Ox25)))
            have Ox25'27 := Ox25.wr W27
            have Ex25'27 := Ex25.wr W27
            have N27 := Fr.snoc X27 N25a g_x25
            have Z27 : n0 ≤ h27.size := by rw [W27.size]; exact Z25
            show own_Fin p.tables e below _ (T27.setTop (mkF m 35 #[.val (.int w), .val (.ref b1), .val (.int (4 : Int32)), .val (.ref x25)] []))
            refine own_st (fun t k => XS.aloadN X27.here hx rfl (hb hby d7_35) rfl rfl k) ?_
            show own_Fin p.tables e below _ (T27.setTop (mkF m 36 #[.val (.int w), .val (.ref b1), .val (.int (4 : Int32)), .val (.ref x25)] [(.ref b1)]))
            obtain ⟨T28, X28, e28, st28⟩ := getF X27 hx hZ hown (host := "") (Or.inl (hw _ (List.mem_of_getElem? (i := 33) rfl))) Via.refl e27 Fl2'27 (g := (mkF m 36 #[.val (.int w), .val (.ref b1), .val (.int (4 : Int32)), .val (.ref x25)] [(.ref b1)])) rfl rfl (hb hby d7_36)
            refine own_st st28 ?_
            show own_Fin p.tables e below _ (T28.setTop (mkF m 39 #[.val (.int w), .val (.ref b1), .val (.int (4 : Int32)), .val (.ref x25)] [(.ref ls2)]))
            refine own_st (fun t k => XS.aloadN X28.here hx rfl (hb hby d7_39) rfl rfl k) ?_
            show own_Fin p.tables e below _ (T28.setTop (mkF m 40 #[.val (.int w), .val (.ref b1), .val (.int (4 : Int32)), .val (.ref x25)] [(.ref x25), (.ref ls2)]))
            obtain ⟨cq29, kq29, qa29, qb29, qc29⟩ := isOf hZ e28 Els2'27
            obtain ⟨_, _, ⟨T29, L29, k29, n29⟩, -, X29, ⟨Lc29, hQ29, l29, y29, z29⟩, st29⟩ := X28.interfaceBack hx (xi := (⟨"java/util/List", "add", "(Ljava/lang/Object;)Z"⟩ : MethodName)) (y := (⟨"java/util/ArrayList", "add", "(Ljava/lang/Object;)Z"⟩ : MethodName)) hown (mvT hZ (hw _ (List.mem_of_getElem? (i := 62) rfl))) (mvT hZ (hw _ (List.mem_of_getElem? (i := 63) rfl))) (mvT hZ (hw _ (List.mem_of_getElem? (i := 64) rfl))) (mvT hZ (hw _ (List.mem_of_getElem? (i := 65) rfl))) (mvT hZ (hw _ (List.mem_of_getElem? (i := 66) rfl))) (mvT hZ (hw _ (List.mem_of_getElem? (i := 67) rfl))) (mvT hZ (hw _ (List.mem_of_getElem? (i := 68) rfl))) (mvT hZ (hw _ (List.mem_of_getElem? (i := 69) rfl))) (by decide) (backOf (W := 0) (rmA1 l Z a0 hw [] ls2 x25 _ ed 4 5 h27 n0 Z27 Fe24'27 Fs24'27 Fm24'27 Els2'27 g_ls2 Oed9'27 g_ed Ex25'27 (by decide) (by decide)) hZ (hw _ (List.mem_of_getElem? (i := 70) rfl)) (hw _ (List.mem_of_getElem? (i := 11) rfl)) (by decide) (by decide)) qa29 qb29 qc29 (g := (mkF m 40 #[.val (.int w), .val (.ref b1), .val (.int (4 : Int32)), .val (.ref x25)] [(.ref x25), (.ref ls2)])) rfl (by rw [hml]; rfl) (Steps.refl _) (argsL := [(.ref x25)]) (rest := []) (lenOf pd__Ljava_lang_Object__Z rfl) rfl (by show 2 * 0 + _ ≤ _; exact Nat.le_of_eq rfl) (hb hby d7_40) (fun _ _ => ⟨rfl, e28, (by decide : 12 + 1 ≤ _), (by decide : 88 + 10 ≤ _)⟩)
            dsimp only [Pt.U, Pt.locs, Pt.cells, Pt.slots] at X29 l29 y29 z29 st29 hQ29
            subst l29 y29 z29
            obtain ⟨rfl, N29, K29, Fe29, Fs29, mc29, Fm29⟩ := hQ29
            refine own_st (fun t k => st29.trans k) ?_
            have O0'29 := O0'27.keep K29 (allS g_ls2 (allS g_ed all0))
            have A1'29 := A1'27.keep K29
            have Fb2'29 := Fb2'27.keep K29 (ninS (ne_exa A1'27 Els2'27 (by decide)) (ninS (own_neEA A1'27 (hw _ (List.mem_of_getElem? (i := 1) rfl)) (own_O.A Oed9'27)) nin0))
            have Fd2'29 := Fd2'27.keep K29 (ninS (ne_exa A1'27 Els2'27 (by decide)) (ninS (own_neEA A1'27 (hw _ (List.mem_of_getElem? (i := 1) rfl)) (own_O.A Oed9'27)) nin0))
            have Fl2'29 := Fl2'27.keep K29 (ninS (ne_exa A1'27 Els2'27 (by decide)) (ninS (own_neEA A1'27 (hw _ (List.mem_of_getElem? (i := 1) rfl)) (own_O.A Oed9'27)) nin0))
            have Els2'29 := Els2'27.keep K29
            have Ox3'29 := Ox3'27.keep K29
            have Ex3'29 := Ex3'27.keep K29
            have Oed9'29 := Oed9'27.keep K29
            have Ox25'29 := Ox25'27.keep K29
            have Ex25'29 := Ex25'27.keep K29
            have Z29 : n0 ≤ T29.heap.size := Nat.le_trans Z27 K29.1
            have N29a := Fr.app N27 N29
            show own_Fin p.tables e below _ (T29.setTop (mkF m 45 #[.val (.int w), .val (.ref b1), .val (.int (4 : Int32)), .val (.ref x25)] [(.int (1 : Int32))]))
            refine own_st (fun t k => XS.pop X29.here hx rfl (hb hby d7_45) rfl rfl k) ?_
            show own_Fin p.tables e below _ (T29.setTop (mkF m 46 #[.val (.int w), .val (.ref b1), .val (.int (4 : Int32)), .val (.ref x25)] []))
            refine own_st (fun t k => XS.iinc X29.here hx rfl (hb hby d7_46) rfl (l' := #[.val (.int w), .val (.ref b1), .val (.int (5 : Int32)), .val (.ref x25)]) rfl k) ?_
            show own_Fin p.tables e below _ (T29.setTop (mkF m 49 #[.val (.int w), .val (.ref b1), .val (.int (5 : Int32)), .val (.ref x25)] []))
            refine own_st (fun t k => XS.goto X29.here hx rfl (pc0 := 49) (pc' := 19) rfl (hb hby d7_49) (by decide) (by decide) k) ?_
            show own_Fin p.tables e below _ (T29.setTop (mkF m 19 #[.val (.int w), .val (.ref b1), .val (.int (5 : Int32)), .val (.ref x25)] []))
            refine own_st (fun t k => XS.iloadN X29.here hx rfl (hb hby d7_19) rfl k) ?_
            show own_Fin p.tables e below _ (T29.setTop (mkF m 20 #[.val (.int w), .val (.ref b1), .val (.int (5 : Int32)), .val (.ref x25)] [(.int (5 : Int32))]))
            refine own_st (fun t k => XS.iloadN X29.here hx rfl (hb hby d7_20) rfl k) ?_
            show own_Fin p.tables e below _ (T29.setTop (mkF m 21 #[.val (.int w), .val (.ref b1), .val (.int (5 : Int32)), .val (.ref x25)] [(.int w), (.int (5 : Int32))]))
            rcases Decidable.em ((5 : Int32) < w) with c5 | c5
            · have _ := c5
              refine own_st (fun t k => XS.icmpNo X29.here hx rfl (hb hby d7_21) rfl (XT.ii_ge_f c5) k) ?_
              show own_Fin p.tables e below _ (T29.setTop (mkF m 24 #[.val (.int w), .val (.ref b1), .val (.int (5 : Int32)), .val (.ref x25)] []))
              refine own_st (fun t k => XS.iloadN X29.here hx rfl (hb hby d7_24) rfl k) ?_
              show own_Fin p.tables e below _ (T29.setTop (mkF m 25 #[.val (.int w), .val (.ref b1), .val (.int (5 : Int32)), .val (.ref x25)] [(.int w)]))
              obtain ⟨_, _, ⟨T30, L30, k30, n30⟩, -, X30, ⟨Lc30, hQ30, l30, y30, z30⟩, st30⟩ := Jvm.LawKit.callS X29 hx (y := (⟨"com/example/condense/condense/analysis/AffineHull", "zero", "(I)[Ljava/math/BigInteger;"⟩ : MethodName)) hown (mvT hZ (hw _ (List.mem_of_getElem? (i := 49) rfl))) (mvT hZ (hw _ (List.mem_of_getElem? (i := 50) rfl))) (mvT hZ (hw _ (List.mem_of_getElem? (i := 2) rfl))) (mvT hZ (hw _ (List.mem_of_getElem? (i := 51) rfl))) (by decide) (backOf (W := 0) (rm8 l Z a0 hw [] w aZ T29.heap n0 Z29 hw0 hle7 O0'29 S_Z E_Z) hZ (hw _ (List.mem_of_getElem? (i := 51) rfl)) (hw _ (List.mem_of_getElem? (i := 2) rfl)) (by decide) (by decide)) (g := (mkF m 25 #[.val (.int w), .val (.ref b1), .val (.int (5 : Int32)), .val (.ref x25)] [(.int w)])) rfl (by rw [hml]; rfl) (argsL := [(.int w)]) (rest := []) (lenOf pd__I__Ljava_math_BigInteger_ rfl) rfl (by show 2 * 0 + _ ≤ _; exact Nat.le_of_eq rfl) (hb hby d7_25) (fun _ _ => ⟨rfl, rfl, (by decide : 13 + 1 ≤ _), (by decide : 98 + 7 ≤ _)⟩)
              dsimp only [Pt.U, Pt.locs, Pt.cells, Pt.slots] at X30 l30 y30 z30 st30 hQ30
              subst l30 y30 z30
              obtain ⟨x30, rfl, N30, K30, Ox30, Ex30, g_x30⟩ := hQ30
              refine own_st (st30) ?_
              have O0'30 := O0'29.keep K30 all0
              have A1'30 := A1'29.keep K30
              have Fb2'30 := Fb2'29.keep K30 nin0
              have Fd2'30 := Fd2'29.keep K30 nin0
              have Fl2'30 := Fl2'29.keep K30 nin0
              have Els2'30 := Els2'29.keep K30
              have Ox3'30 := Ox3'29.keep K30
              have Ex3'30 := Ex3'29.keep K30
              have Oed9'30 := Oed9'29.keep K30
              have Fe29'30 := Fe29.keep K30 nin0
              have Fs29'30 := Fs29.keep K30 nin0
              have Fm29'30 := Fm29.keep K30 nin0
              have Z30 : n0 ≤ T30.heap.size := Nat.le_trans Z29 K30.1
              have N30a := Fr.app N29a N30
              show own_Fin p.tables e below _ (T30.setTop (mkF m 28 #[.val (.int w), .val (.ref b1), .val (.int (5 : Int32)), .val (.ref x25)] [(.ref x30)]))
              refine own_st (fun t k => XS.astoreN X30.here hx rfl (hb hby d7_28) rfl rfl (l' := #[.val (.int w), .val (.ref b1), .val (.int (5 : Int32)), .val (.ref x30)]) rfl k) ?_
              show own_Fin p.tables e below _ (T30.setTop (mkF m 29 #[.val (.int w), .val (.ref b1), .val (.int (5 : Int32)), .val (.ref x30)] []))
              refine own_st (fun t k => XS.aloadN X30.here hx rfl (hb hby d7_29) rfl rfl k) ?_
              show own_Fin p.tables e below _ (T30.setTop (mkF m 30 #[.val (.int w), .val (.ref b1), .val (.int (5 : Int32)), .val (.ref x30)] [(.ref x30)]))
              refine own_st (fun t k => XS.iloadN X30.here hx rfl (hb hby d7_30) rfl k) ?_
              show own_Fin p.tables e below _ (T30.setTop (mkF m 31 #[.val (.int w), .val (.ref b1), .val (.int (5 : Int32)), .val (.ref x30)] [(.int (5 : Int32)), (.ref x30)]))
              obtain ⟨T31, X31, e31, st31⟩ := getS (host := "") X30 hx hZ hown (hw _ (List.mem_of_getElem? (i := 61) rfl)) Via.refl rfl (Sta.ext O0'30.2 S_O) (g := (mkF m 31 #[.val (.int w), .val (.ref b1), .val (.int (5 : Int32)), .val (.ref x30)] [(.int (5 : Int32)), (.ref x30)])) rfl (hb hby d7_31)
              refine own_st st31 ?_
              show own_Fin p.tables e below _ (T31.setTop (mkF m 34 #[.val (.int w), .val (.ref b1), .val (.int (5 : Int32)), .val (.ref x30)] [(.ref aO), (.int (5 : Int32)), (.ref x30)]))
              obtain ⟨T32, h32, X32, e32, W32, st32⟩ := own_stR X31 hx hZ e31 Ox30 (j := (5 : Int32)) ⟨by decide, c5⟩ (Or.inr ⟨_, rfl, Ins.self (Exa.ext O0'30.2 E_O)⟩) (g := (mkF m 34 #[.val (.int w), .val (.ref b1), .val (.int (5 : Int32)), .val (.ref x30)] [(.ref aO), (.int (5 : Int32)), (.ref x30)])) rfl rfl (hb hby d7_34)
              refine own_st st32 ?_
              have O0'32 := O0'30.wr W32 g_x30
              have A1'32 := A1'30.wr W32
              have Fb2'32 := Fb2'30.other W32 (Or.inl (own_neEA A1'30 (hw _ (List.mem_of_getElem? (i := 1) rfl)) (own_O.A Ox30)))
              have Fd2'32 := Fd2'30.other W32 (Or.inl (own_neEA A1'30 (hw _ (List.mem_of_getElem? (i := 1) rfl)) (own_O.A Ox30)))
              have Fl2'32 := Fl2'30.other W32 (Or.inl (own_neEA A1'30 (hw _ (List.mem_of_getElem? (i := 1) rfl)) (own_O.A Ox30)))
              have Els2'32 := Els2'30.wr W32
              have Ox3'32 := Ox3'30.wr W32
              have Ex3'32 := Ex3'30.wr W32
              have Oed9'32 := Oed9'30.wr W32
              have Fe29'32 := Fe29'30.other W32 (Or.inl (own_neEA Els2'30 (hw _ (List.mem_of_getElem? (i := 10) rfl)) (own_O.A Ox30)))
              have Fs29'32 := Fs29'30.other W32 (Or.inl (own_neEA Els2'30 (hw _ (List.mem_of_getElem? (i := 10) rfl)) (own_O.A Ox30)))
              have Fm29'32 := Fm29'30.other W32 (Or.inl (own_neEA Els2'30 (hw _ (List.mem_of_getElem? (i := 10) rfl)) (own_O.A Ox30)))
              have Ox30'32 := Ox30.wr W32
              have Ex30'32 := Ex30.wr W32
              have N32 := Fr.snoc X32 N30a g_x30
              have Z32 : n0 ≤ h32.size := by rw [W32.size]; exact Z30
              show own_Fin p.tables e below _ (T32.setTop (mkF m 35 #[.val (.int w), .val (.ref b1), .val (.int (5 : Int32)), .val (.ref x30)] []))
              refine own_st (fun t k => XS.aloadN X32.here hx rfl (hb hby d7_35) rfl rfl k) ?_
              show own_Fin p.tables e below _ (T32.setTop (mkF m 36 #[.val (.int w), .val (.ref b1), .val (.int (5 : Int32)), .val (.ref x30)] [(.ref b1)]))
              obtain ⟨T33, X33, e33, st33⟩ := getF X32 hx hZ hown (host := "") (Or.inl (hw _ (List.mem_of_getElem? (i := 33) rfl))) Via.refl e32 Fl2'32 (g := (mkF m 36 #[.val (.int w), .val (.ref b1), .val (.int (5 : Int32)), .val (.ref x30)] [(.ref b1)])) rfl rfl (hb hby d7_36)
              refine own_st st33 ?_
              show own_Fin p.tables e below _ (T33.setTop (mkF m 39 #[.val (.int w), .val (.ref b1), .val (.int (5 : Int32)), .val (.ref x30)] [(.ref ls2)]))
              refine own_st (fun t k => XS.aloadN X33.here hx rfl (hb hby d7_39) rfl rfl k) ?_
              show own_Fin p.tables e below _ (T33.setTop (mkF m 40 #[.val (.int w), .val (.ref b1), .val (.int (5 : Int32)), .val (.ref x30)] [(.ref x30), (.ref ls2)]))
              obtain ⟨cq34, kq34, qa34, qb34, qc34⟩ := isOf hZ e33 Els2'32
              obtain ⟨_, _, ⟨T34, L34, k34, n34⟩, -, X34, ⟨Lc34, hQ34, l34, y34, z34⟩, st34⟩ := X33.interfaceBack hx (xi := (⟨"java/util/List", "add", "(Ljava/lang/Object;)Z"⟩ : MethodName)) (y := (⟨"java/util/ArrayList", "add", "(Ljava/lang/Object;)Z"⟩ : MethodName)) hown (mvT hZ (hw _ (List.mem_of_getElem? (i := 62) rfl))) (mvT hZ (hw _ (List.mem_of_getElem? (i := 63) rfl))) (mvT hZ (hw _ (List.mem_of_getElem? (i := 64) rfl))) (mvT hZ (hw _ (List.mem_of_getElem? (i := 65) rfl))) (mvT hZ (hw _ (List.mem_of_getElem? (i := 66) rfl))) (mvT hZ (hw _ (List.mem_of_getElem? (i := 67) rfl))) (mvT hZ (hw _ (List.mem_of_getElem? (i := 68) rfl))) (mvT hZ (hw _ (List.mem_of_getElem? (i := 69) rfl))) (by decide) (backOf (W := 0) (rmA1 l Z a0 hw [] ls2 x30 _ ed 5 6 h32 n0 Z32 Fe29'32 Fs29'32 Fm29'32 Els2'32 g_ls2 Oed9'32 g_ed Ex30'32 (by decide) (by decide)) hZ (hw _ (List.mem_of_getElem? (i := 70) rfl)) (hw _ (List.mem_of_getElem? (i := 11) rfl)) (by decide) (by decide)) qa34 qb34 qc34 (g := (mkF m 40 #[.val (.int w), .val (.ref b1), .val (.int (5 : Int32)), .val (.ref x30)] [(.ref x30), (.ref ls2)])) rfl (by rw [hml]; rfl) (Steps.refl _) (argsL := [(.ref x30)]) (rest := []) (lenOf pd__Ljava_lang_Object__Z rfl) rfl (by show 2 * 0 + _ ≤ _; exact Nat.le_of_eq rfl) (hb hby d7_40) (fun _ _ => ⟨rfl, e33, (by decide : 14 + 1 ≤ _), (by decide : 105 + 10 ≤ _)⟩)
              dsimp only [Pt.U, Pt.locs, Pt.cells, Pt.slots] at X34 l34 y34 z34 st34 hQ34
              subst l34 y34 z34
              obtain ⟨rfl, N34, K34, Fe34, Fs34, mc34, Fm34⟩ := hQ34
              refine own_st (fun t k => st34.trans k) ?_
              have O0'34 := O0'32.keep K34 (allS g_ls2 (allS g_ed all0))
              have A1'34 := A1'32.keep K34
              have Fb2'34 := Fb2'32.keep K34 (ninS (ne_exa A1'32 Els2'32 (by decide)) (ninS (own_neEA A1'32 (hw _ (List.mem_of_getElem? (i := 1) rfl)) (own_O.A Oed9'32)) nin0))
              have Fd2'34 := Fd2'32.keep K34 (ninS (ne_exa A1'32 Els2'32 (by decide)) (ninS (own_neEA A1'32 (hw _ (List.mem_of_getElem? (i := 1) rfl)) (own_O.A Oed9'32)) nin0))
              have Fl2'34 := Fl2'32.keep K34 (ninS (ne_exa A1'32 Els2'32 (by decide)) (ninS (own_neEA A1'32 (hw _ (List.mem_of_getElem? (i := 1) rfl)) (own_O.A Oed9'32)) nin0))
              have Els2'34 := Els2'32.keep K34
              have Ox3'34 := Ox3'32.keep K34
              have Ex3'34 := Ex3'32.keep K34
              have Oed9'34 := Oed9'32.keep K34
              have Ox30'34 := Ox30'32.keep K34
              have Ex30'34 := Ex30'32.keep K34
              have Z34 : n0 ≤ T34.heap.size := Nat.le_trans Z32 K34.1
              have N34a := Fr.app N32 N34
              show own_Fin p.tables e below _ (T34.setTop (mkF m 45 #[.val (.int w), .val (.ref b1), .val (.int (5 : Int32)), .val (.ref x30)] [(.int (1 : Int32))]))
              refine own_st (fun t k => XS.pop X34.here hx rfl (hb hby d7_45) rfl rfl k) ?_
              show own_Fin p.tables e below _ (T34.setTop (mkF m 46 #[.val (.int w), .val (.ref b1), .val (.int (5 : Int32)), .val (.ref x30)] []))
              refine own_st (fun t k => XS.iinc X34.here hx rfl (hb hby d7_46) rfl (l' := #[.val (.int w), .val (.ref b1), .val (.int (6 : Int32)), .val (.ref x30)]) rfl k) ?_
              show own_Fin p.tables e below _ (T34.setTop (mkF m 49 #[.val (.int w), .val (.ref b1), .val (.int (6 : Int32)), .val (.ref x30)] []))
              refine own_st (fun t k => XS.goto X34.here hx rfl (pc0 := 49) (pc' := 19) rfl (hb hby d7_49) (by decide) (by decide) k) ?_
              show own_Fin p.tables e below _ (T34.setTop (mkF m 19 #[.val (.int w), .val (.ref b1), .val (.int (6 : Int32)), .val (.ref x30)] []))
              refine own_st (fun t k => XS.iloadN X34.here hx rfl (hb hby d7_19) rfl k) ?_
              show own_Fin p.tables e below _ (T34.setTop (mkF m 20 #[.val (.int w), .val (.ref b1), .val (.int (6 : Int32)), .val (.ref x30)] [(.int (6 : Int32))]))
              refine own_st (fun t k => XS.iloadN X34.here hx rfl (hb hby d7_20) rfl k) ?_
              show own_Fin p.tables e below _ (T34.setTop (mkF m 21 #[.val (.int w), .val (.ref b1), .val (.int (6 : Int32)), .val (.ref x30)] [(.int w), (.int (6 : Int32))]))
              rcases Decidable.em ((6 : Int32) < w) with c6 | c6
              · have _ := c6
                refine own_st (fun t k => XS.icmpNo X34.here hx rfl (hb hby d7_21) rfl (XT.ii_ge_f c6) k) ?_
                show own_Fin p.tables e below _ (T34.setTop (mkF m 24 #[.val (.int w), .val (.ref b1), .val (.int (6 : Int32)), .val (.ref x30)] []))
                refine own_st (fun t k => XS.iloadN X34.here hx rfl (hb hby d7_24) rfl k) ?_
                show own_Fin p.tables e below _ (T34.setTop (mkF m 25 #[.val (.int w), .val (.ref b1), .val (.int (6 : Int32)), .val (.ref x30)] [(.int w)]))
                obtain ⟨_, _, ⟨T35, L35, k35, n35⟩, -, X35, ⟨Lc35, hQ35, l35, y35, z35⟩, st35⟩ := Jvm.LawKit.callS X34 hx (y := (⟨"com/example/condense/condense/analysis/AffineHull", "zero", "(I)[Ljava/math/BigInteger;"⟩ : MethodName)) hown (mvT hZ (hw _ (List.mem_of_getElem? (i := 49) rfl))) (mvT hZ (hw _ (List.mem_of_getElem? (i := 50) rfl))) (mvT hZ (hw _ (List.mem_of_getElem? (i := 2) rfl))) (mvT hZ (hw _ (List.mem_of_getElem? (i := 51) rfl))) (by decide) (backOf (W := 0) (rm8 l Z a0 hw [] w aZ T34.heap n0 Z34 hw0 hle7 O0'34 S_Z E_Z) hZ (hw _ (List.mem_of_getElem? (i := 51) rfl)) (hw _ (List.mem_of_getElem? (i := 2) rfl)) (by decide) (by decide)) (g := (mkF m 25 #[.val (.int w), .val (.ref b1), .val (.int (6 : Int32)), .val (.ref x30)] [(.int w)])) rfl (by rw [hml]; rfl) (argsL := [(.int w)]) (rest := []) (lenOf pd__I__Ljava_math_BigInteger_ rfl) rfl (by show 2 * 0 + _ ≤ _; exact Nat.le_of_eq rfl) (hb hby d7_25) (fun _ _ => ⟨rfl, rfl, (by decide : 15 + 1 ≤ _), (by decide : 115 + 7 ≤ _)⟩)
                dsimp only [Pt.U, Pt.locs, Pt.cells, Pt.slots] at X35 l35 y35 z35 st35 hQ35
                subst l35 y35 z35
                obtain ⟨x35, rfl, N35, K35, Ox35, Ex35, g_x35⟩ := hQ35
                refine own_st (st35) ?_
                have O0'35 := O0'34.keep K35 all0
                have A1'35 := A1'34.keep K35
                have Fb2'35 := Fb2'34.keep K35 nin0
                have Fd2'35 := Fd2'34.keep K35 nin0
                have Fl2'35 := Fl2'34.keep K35 nin0
                have Els2'35 := Els2'34.keep K35
                have Ox3'35 := Ox3'34.keep K35
                have Ex3'35 := Ex3'34.keep K35
                have Oed9'35 := Oed9'34.keep K35
                have Fe34'35 := Fe34.keep K35 nin0
                have Fs34'35 := Fs34.keep K35 nin0
                have Fm34'35 := Fm34.keep K35 nin0
                have Z35 : n0 ≤ T35.heap.size := Nat.le_trans Z34 K35.1
                have N35a := Fr.app N34a N35
                show own_Fin p.tables e below _ (T35.setTop (mkF m 28 #[.val (.int w), .val (.ref b1), .val (.int (6 : Int32)), .val (.ref x30)] [(.ref x35)]))
                refine own_st (fun t k => XS.astoreN X35.here hx rfl (hb hby d7_28) rfl rfl (l' := #[.val (.int w), .val (.ref b1), .val (.int (6 : Int32)), .val (.ref x35)]) rfl k) ?_
                show own_Fin p.tables e below _ (T35.setTop (mkF m 29 #[.val (.int w), .val (.ref b1), .val (.int (6 : Int32)), .val (.ref x35)] []))
                refine own_st (fun t k => XS.aloadN X35.here hx rfl (hb hby d7_29) rfl rfl k) ?_
                show own_Fin p.tables e below _ (T35.setTop (mkF m 30 #[.val (.int w), .val (.ref b1), .val (.int (6 : Int32)), .val (.ref x35)] [(.ref x35)]))
                refine own_st (fun t k => XS.iloadN X35.here hx rfl (hb hby d7_30) rfl k) ?_
                show own_Fin p.tables e below _ (T35.setTop (mkF m 31 #[.val (.int w), .val (.ref b1), .val (.int (6 : Int32)), .val (.ref x35)] [(.int (6 : Int32)), (.ref x35)]))
                obtain ⟨T36, X36, e36, st36⟩ := getS (host := "") X35 hx hZ hown (hw _ (List.mem_of_getElem? (i := 61) rfl)) Via.refl rfl (Sta.ext O0'35.2 S_O) (g := (mkF m 31 #[.val (.int w), .val (.ref b1), .val (.int (6 : Int32)), .val (.ref x35)] [(.int (6 : Int32)), (.ref x35)])) rfl (hb hby d7_31)
                refine own_st st36 ?_
                show own_Fin p.tables e below _ (T36.setTop (mkF m 34 #[.val (.int w), .val (.ref b1), .val (.int (6 : Int32)), .val (.ref x35)] [(.ref aO), (.int (6 : Int32)), (.ref x35)]))
                obtain ⟨T37, h37, X37, e37, W37, st37⟩ := own_stR X36 hx hZ e36 Ox35 (j := (6 : Int32)) ⟨by decide, c6⟩ (Or.inr ⟨_, rfl, Ins.self (Exa.ext O0'35.2 E_O)⟩) (g := (mkF m 34 #[.val (.int w), .val (.ref b1), .val (.int (6 : Int32)), .val (.ref x35)] [(.ref aO), (.int (6 : Int32)), (.ref x35)])) rfl rfl (hb hby d7_34)
                refine own_st st37 ?_
                have O0'37 := O0'35.wr W37 g_x35
                have A1'37 := A1'35.wr W37
                have Fb2'37 := Fb2'35.other W37 (Or.inl (own_neEA A1'35 (hw _ (List.mem_of_getElem? (i := 1) rfl)) (own_O.A Ox35)))
                have Fd2'37 := Fd2'35.other W37 (Or.inl (own_neEA A1'35 (hw _ (List.mem_of_getElem? (i := 1) rfl)) (own_O.A Ox35)))
                have Fl2'37 := Fl2'35.other W37 (Or.inl (own_neEA A1'35 (hw _ (List.mem_of_getElem? (i := 1) rfl)) (own_O.A Ox35)))
                have Els2'37 := Els2'35.wr W37
                have Ox3'37 := Ox3'35.wr W37
                have Ex3'37 := Ex3'35.wr W37
                have Oed9'37 := Oed9'35.wr W37
                have Fe34'37 := Fe34'35.other W37 (Or.inl (own_neEA Els2'35 (hw _ (List.mem_of_getElem? (i := 10) rfl)) (own_O.A Ox35)))
                have Fs34'37 := Fs34'35.other W37 (Or.inl (own_neEA Els2'35 (hw _ (List.mem_of_getElem? (i := 10) rfl)) (own_O.A Ox35)))
                have Fm34'37 := Fm34'35.other W37 (Or.inl (own_neEA Els2'35 (hw _ (List.mem_of_getElem? (i := 10) rfl)) (own_O.A Ox35)))
                have Ox35'37 := Ox35.wr W37
                have Ex35'37 := Ex35.wr W37
                have N37 := Fr.snoc X37 N35a g_x35
                have Z37 : n0 ≤ h37.size := by rw [W37.size]; exact Z35
                show own_Fin p.tables e below _ (T37.setTop (mkF m 35 #[.val (.int w), .val (.ref b1), .val (.int (6 : Int32)), .val (.ref x35)] []))
                refine own_st (fun t k => XS.aloadN X37.here hx rfl (hb hby d7_35) rfl rfl k) ?_
                show own_Fin p.tables e below _ (T37.setTop (mkF m 36 #[.val (.int w), .val (.ref b1), .val (.int (6 : Int32)), .val (.ref x35)] [(.ref b1)]))
                obtain ⟨T38, X38, e38, st38⟩ := getF X37 hx hZ hown (host := "") (Or.inl (hw _ (List.mem_of_getElem? (i := 33) rfl))) Via.refl e37 Fl2'37 (g := (mkF m 36 #[.val (.int w), .val (.ref b1), .val (.int (6 : Int32)), .val (.ref x35)] [(.ref b1)])) rfl rfl (hb hby d7_36)
                refine own_st st38 ?_
                show own_Fin p.tables e below _ (T38.setTop (mkF m 39 #[.val (.int w), .val (.ref b1), .val (.int (6 : Int32)), .val (.ref x35)] [(.ref ls2)]))
                refine own_st (fun t k => XS.aloadN X38.here hx rfl (hb hby d7_39) rfl rfl k) ?_
                show own_Fin p.tables e below _ (T38.setTop (mkF m 40 #[.val (.int w), .val (.ref b1), .val (.int (6 : Int32)), .val (.ref x35)] [(.ref x35), (.ref ls2)]))
                obtain ⟨cq39, kq39, qa39, qb39, qc39⟩ := isOf hZ e38 Els2'37
                obtain ⟨_, _, ⟨T39, L39, k39, n39⟩, -, X39, ⟨Lc39, hQ39, l39, y39, z39⟩, st39⟩ := X38.interfaceBack hx (xi := (⟨"java/util/List", "add", "(Ljava/lang/Object;)Z"⟩ : MethodName)) (y := (⟨"java/util/ArrayList", "add", "(Ljava/lang/Object;)Z"⟩ : MethodName)) hown (mvT hZ (hw _ (List.mem_of_getElem? (i := 62) rfl))) (mvT hZ (hw _ (List.mem_of_getElem? (i := 63) rfl))) (mvT hZ (hw _ (List.mem_of_getElem? (i := 64) rfl))) (mvT hZ (hw _ (List.mem_of_getElem? (i := 65) rfl))) (mvT hZ (hw _ (List.mem_of_getElem? (i := 66) rfl))) (mvT hZ (hw _ (List.mem_of_getElem? (i := 67) rfl))) (mvT hZ (hw _ (List.mem_of_getElem? (i := 68) rfl))) (mvT hZ (hw _ (List.mem_of_getElem? (i := 69) rfl))) (by decide) (backOf (W := 0) (rmA1 l Z a0 hw [] ls2 x35 _ ed 6 7 h37 n0 Z37 Fe34'37 Fs34'37 Fm34'37 Els2'37 g_ls2 Oed9'37 g_ed Ex35'37 (by decide) (by decide)) hZ (hw _ (List.mem_of_getElem? (i := 70) rfl)) (hw _ (List.mem_of_getElem? (i := 11) rfl)) (by decide) (by decide)) qa39 qb39 qc39 (g := (mkF m 40 #[.val (.int w), .val (.ref b1), .val (.int (6 : Int32)), .val (.ref x35)] [(.ref x35), (.ref ls2)])) rfl (by rw [hml]; rfl) (Steps.refl _) (argsL := [(.ref x35)]) (rest := []) (lenOf pd__Ljava_lang_Object__Z rfl) rfl (by show 2 * 0 + _ ≤ _; exact Nat.le_of_eq rfl) (hb hby d7_40) (fun _ _ => ⟨rfl, e38, (by decide : 16 + 1 ≤ _), (by decide : 122 + 10 ≤ _)⟩)
                dsimp only [Pt.U, Pt.locs, Pt.cells, Pt.slots] at X39 l39 y39 z39 st39 hQ39
                subst l39 y39 z39
                obtain ⟨rfl, N39, K39, Fe39, Fs39, mc39, Fm39⟩ := hQ39
                refine own_st (fun t k => st39.trans k) ?_
                have O0'39 := O0'37.keep K39 (allS g_ls2 (allS g_ed all0))
                have A1'39 := A1'37.keep K39
                have Fb2'39 := Fb2'37.keep K39 (ninS (ne_exa A1'37 Els2'37 (by decide)) (ninS (own_neEA A1'37 (hw _ (List.mem_of_getElem? (i := 1) rfl)) (own_O.A Oed9'37)) nin0))
                have Fd2'39 := Fd2'37.keep K39 (ninS (ne_exa A1'37 Els2'37 (by decide)) (ninS (own_neEA A1'37 (hw _ (List.mem_of_getElem? (i := 1) rfl)) (own_O.A Oed9'37)) nin0))
                have Fl2'39 := Fl2'37.keep K39 (ninS (ne_exa A1'37 Els2'37 (by decide)) (ninS (own_neEA A1'37 (hw _ (List.mem_of_getElem? (i := 1) rfl)) (own_O.A Oed9'37)) nin0))
                have Els2'39 := Els2'37.keep K39
                have Ox3'39 := Ox3'37.keep K39
                have Ex3'39 := Ex3'37.keep K39
                have Oed9'39 := Oed9'37.keep K39
                have Ox35'39 := Ox35'37.keep K39
                have Ex35'39 := Ex35'37.keep K39
                have Z39 : n0 ≤ T39.heap.size := Nat.le_trans Z37 K39.1
                have N39a := Fr.app N37 N39
                show own_Fin p.tables e below _ (T39.setTop (mkF m 45 #[.val (.int w), .val (.ref b1), .val (.int (6 : Int32)), .val (.ref x35)] [(.int (1 : Int32))]))
                refine own_st (fun t k => XS.pop X39.here hx rfl (hb hby d7_45) rfl rfl k) ?_
                show own_Fin p.tables e below _ (T39.setTop (mkF m 46 #[.val (.int w), .val (.ref b1), .val (.int (6 : Int32)), .val (.ref x35)] []))
                refine own_st (fun t k => XS.iinc X39.here hx rfl (hb hby d7_46) rfl (l' := #[.val (.int w), .val (.ref b1), .val (.int (7 : Int32)), .val (.ref x35)]) rfl k) ?_
                show own_Fin p.tables e below _ (T39.setTop (mkF m 49 #[.val (.int w), .val (.ref b1), .val (.int (7 : Int32)), .val (.ref x35)] []))
                refine own_st (fun t k => XS.goto X39.here hx rfl (pc0 := 49) (pc' := 19) rfl (hb hby d7_49) (by decide) (by decide) k) ?_
                show own_Fin p.tables e below _ (T39.setTop (mkF m 19 #[.val (.int w), .val (.ref b1), .val (.int (7 : Int32)), .val (.ref x35)] []))
                refine own_st (fun t k => XS.iloadN X39.here hx rfl (hb hby d7_19) rfl k) ?_
                show own_Fin p.tables e below _ (T39.setTop (mkF m 20 #[.val (.int w), .val (.ref b1), .val (.int (7 : Int32)), .val (.ref x35)] [(.int (7 : Int32))]))
                refine own_st (fun t k => XS.iloadN X39.here hx rfl (hb hby d7_20) rfl k) ?_
                show own_Fin p.tables e below _ (T39.setTop (mkF m 21 #[.val (.int w), .val (.ref b1), .val (.int (7 : Int32)), .val (.ref x35)] [(.int w), (.int (7 : Int32))]))
                refine own_st (fun t k => XS.icmpYes X39.here hx rfl (pc0 := 21) (pc' := 52) rfl (hb hby d7_21) rfl (XT.ii_ge_t hle7) (by decide) (by decide) k) ?_
                show own_Fin p.tables e below _ (T39.setTop (mkF m 52 #[.val (.int w), .val (.ref b1), .val (.int (7 : Int32)), .val (.ref x35)] []))
                refine own_st (fun t k => XS.aloadN X39.here hx rfl (hb hby d7_52) rfl rfl k) ?_
                show own_Fin p.tables e below _ (T39.setTop (mkF m 53 #[.val (.int w), .val (.ref b1), .val (.int (7 : Int32)), .val (.ref x35)] [(.ref b1)]))
                obtain ⟨fs, hr, hrun, hended, hW, hsame⟩ := X39.leave (v := (some (.ref b1))) (fun h => by rw [Bd.returns] at h; cases h)
                refine ⟨_, _, retOut X39 hx (t := (.object "com/example/condense/condense/analysis/AffineHull")) Bd.returns rfl (Or.inr (Or.inr (Or.inr (Or.inr ⟨rfl, rfl, rfl⟩)))) (hb hby d7_53) hr, hrun, hended, _, _, rfl, ?_, ⟨_, rfl⟩, hW, hsame.mono (by decide) (by decide)⟩
                show Q7 Z w aE kE aZ aO h0 n0 _ T39.heap _
                exact ⟨b1, rfl, N39a, O0'39, A1'39, _, Fb2'39⟩
              · have _ := c6
                refine own_st (fun t k => XS.icmpYes X34.here hx rfl (pc0 := 21) (pc' := 52) rfl (hb hby d7_21) rfl (XT.ii_ge_t c6) (by decide) (by decide) k) ?_
                show own_Fin p.tables e below _ (T34.setTop (mkF m 52 #[.val (.int w), .val (.ref b1), .val (.int (6 : Int32)), .val (.ref x30)] []))
                refine own_st (fun t k => XS.aloadN X34.here hx rfl (hb hby d7_52) rfl rfl k) ?_
                show own_Fin p.tables e below _ (T34.setTop (mkF m 53 #[.val (.int w), .val (.ref b1), .val (.int (6 : Int32)), .val (.ref x30)] [(.ref b1)]))
                obtain ⟨fs, hr, hrun, hended, hW, hsame⟩ := X34.leave (v := (some (.ref b1))) (fun h => by rw [Bd.returns] at h; cases h)
                refine ⟨_, _, retOut X34 hx (t := (.object "com/example/condense/condense/analysis/AffineHull")) Bd.returns rfl (Or.inr (Or.inr (Or.inr (Or.inr ⟨rfl, rfl, rfl⟩)))) (hb hby d7_53) hr, hrun, hended, _, _, rfl, ?_, ⟨_, rfl⟩, hW, hsame.mono (by decide) (by decide)⟩
                show Q7 Z w aE kE aZ aO h0 n0 _ T34.heap _
                exact ⟨b1, rfl, N34a, O0'34, A1'34, _, Fb2'34⟩
            · have _ := c5
              refine own_st (fun t k => XS.icmpYes X29.here hx rfl (pc0 := 21) (pc' := 52) rfl (hb hby d7_21) rfl (XT.ii_ge_t c5) (by decide) (by decide) k) ?_
              show own_Fin p.tables e below _ (T29.setTop (mkF m 52 #[.val (.int w), .val (.ref b1), .val (.int (5 : Int32)), .val (.ref x25)] []))
              refine own_st (fun t k => XS.aloadN X29.here hx rfl (hb hby d7_52) rfl rfl k) ?_
              show own_Fin p.tables e below _ (T29.setTop (mkF m 53 #[.val (.int w), .val (.ref b1), .val (.int (5 : Int32)), .val (.ref x25)] [(.ref b1)]))
              obtain ⟨fs, hr, hrun, hended, hW, hsame⟩ := X29.leave (v := (some (.ref b1))) (fun h => by rw [Bd.returns] at h; cases h)
              refine ⟨_, _, retOut X29 hx (t := (.object "com/example/condense/condense/analysis/AffineHull")) Bd.returns rfl (Or.inr (Or.inr (Or.inr (Or.inr ⟨rfl, rfl, rfl⟩)))) (hb hby d7_53) hr, hrun, hended, _, _, rfl, ?_, ⟨_, rfl⟩, hW, hsame.mono (by decide) (by decide)⟩
              show Q7 Z w aE kE aZ aO h0 n0 _ T29.heap _
              exact ⟨b1, rfl, N29a, O0'29, A1'29, _, Fb2'29⟩
          · have _ := c4
            refine own_st (fun t k => XS.icmpYes X24.here hx rfl (pc0 := 21) (pc' := 52) rfl (hb hby d7_21) rfl (XT.ii_ge_t c4) (by decide) (by decide) k) ?_
            show own_Fin p.tables e below _ (T24.setTop (mkF m 52 #[.val (.int w), .val (.ref b1), .val (.int (4 : Int32)), .val (.ref x20)] []))
            refine own_st (fun t k => XS.aloadN X24.here hx rfl (hb hby d7_52) rfl rfl k) ?_
            show own_Fin p.tables e below _ (T24.setTop (mkF m 53 #[.val (.int w), .val (.ref b1), .val (.int (4 : Int32)), .val (.ref x20)] [(.ref b1)]))
            obtain ⟨fs, hr, hrun, hended, hW, hsame⟩ := X24.leave (v := (some (.ref b1))) (fun h => by rw [Bd.returns] at h; cases h)
            refine ⟨_, _, retOut X24 hx (t := (.object "com/example/condense/condense/analysis/AffineHull")) Bd.returns rfl (Or.inr (Or.inr (Or.inr (Or.inr ⟨rfl, rfl, rfl⟩)))) (hb hby d7_53) hr, hrun, hended, _, _, rfl, ?_, ⟨_, rfl⟩, hW, hsame.mono (by decide) (by decide)⟩
            show Q7 Z w aE kE aZ aO h0 n0 _ T24.heap _
            exact ⟨b1, rfl, N24a, O0'24, A1'24, _, Fb2'24⟩
        · have _ := c3
          refine own_st (fun t k => XS.icmpYes X19.here hx rfl (pc0 := 21) (pc' := 52) rfl (hb hby d7_21) rfl (XT.ii_ge_t c3) (by decide) (by decide) k) ?_
          show own_Fin p.tables e below _ (T19.setTop (mkF m 52 #[.val (.int w), .val (.ref b1), .val (.int (3 : Int32)), .val (.ref x15)] []))
          refine own_st (fun t k => XS.aloadN X19.here hx rfl (hb hby d7_52) rfl rfl k) ?_
          show own_Fin p.tables e below _ (T19.setTop (mkF m 53 #[.val (.int w), .val (.ref b1), .val (.int (3 : Int32)), .val (.ref x15)] [(.ref b1)]))
          obtain ⟨fs, hr, hrun, hended, hW, hsame⟩ := X19.leave (v := (some (.ref b1))) (fun h => by rw [Bd.returns] at h; cases h)
          refine ⟨_, _, retOut X19 hx (t := (.object "com/example/condense/condense/analysis/AffineHull")) Bd.returns rfl (Or.inr (Or.inr (Or.inr (Or.inr ⟨rfl, rfl, rfl⟩)))) (hb hby d7_53) hr, hrun, hended, _, _, rfl, ?_, ⟨_, rfl⟩, hW, hsame.mono (by decide) (by decide)⟩
          show Q7 Z w aE kE aZ aO h0 n0 _ T19.heap _
          exact ⟨b1, rfl, N19a, O0'19, A1'19, _, Fb2'19⟩
      · have _ := c2
        refine own_st (fun t k => XS.icmpYes X14.here hx rfl (pc0 := 21) (pc' := 52) rfl (hb hby d7_21) rfl (XT.ii_ge_t c2) (by decide) (by decide) k) ?_
        show own_Fin p.tables e below _ (T14.setTop (mkF m 52 #[.val (.int w), .val (.ref b1), .val (.int (2 : Int32)), .val (.ref x10)] []))
        refine own_st (fun t k => XS.aloadN X14.here hx rfl (hb hby d7_52) rfl rfl k) ?_
        show own_Fin p.tables e below _ (T14.setTop (mkF m 53 #[.val (.int w), .val (.ref b1), .val (.int (2 : Int32)), .val (.ref x10)] [(.ref b1)]))
        obtain ⟨fs, hr, hrun, hended, hW, hsame⟩ := X14.leave (v := (some (.ref b1))) (fun h => by rw [Bd.returns] at h; cases h)
        refine ⟨_, _, retOut X14 hx (t := (.object "com/example/condense/condense/analysis/AffineHull")) Bd.returns rfl (Or.inr (Or.inr (Or.inr (Or.inr ⟨rfl, rfl, rfl⟩)))) (hb hby d7_53) hr, hrun, hended, _, _, rfl, ?_, ⟨_, rfl⟩, hW, hsame.mono (by decide) (by decide)⟩
        show Q7 Z w aE kE aZ aO h0 n0 _ T14.heap _
        exact ⟨b1, rfl, N14a, O0'14, A1'14, _, Fb2'14⟩
    · have _ := c1
      refine own_st (fun t k => XS.icmpYes X9.here hx rfl (pc0 := 21) (pc' := 52) rfl (hb hby d7_21) rfl (XT.ii_ge_t c1) (by decide) (by decide) k) ?_
      show own_Fin p.tables e below _ (T9.setTop (mkF m 52 #[.val (.int w), .val (.ref b1), .val (.int (1 : Int32)), .val (.ref x5)] []))
      refine own_st (fun t k => XS.aloadN X9.here hx rfl (hb hby d7_52) rfl rfl k) ?_
      show own_Fin p.tables e below _ (T9.setTop (mkF m 53 #[.val (.int w), .val (.ref b1), .val (.int (1 : Int32)), .val (.ref x5)] [(.ref b1)]))
      obtain ⟨fs, hr, hrun, hended, hW, hsame⟩ := X9.leave (v := (some (.ref b1))) (fun h => by rw [Bd.returns] at h; cases h)
      refine ⟨_, _, retOut X9 hx (t := (.object "com/example/condense/condense/analysis/AffineHull")) Bd.returns rfl (Or.inr (Or.inr (Or.inr (Or.inr ⟨rfl, rfl, rfl⟩)))) (hb hby d7_53) hr, hrun, hended, _, _, rfl, ?_, ⟨_, rfl⟩, hW, hsame.mono (by decide) (by decide)⟩
      show Q7 Z w aE kE aZ aO h0 n0 _ T9.heap _
      exact ⟨b1, rfl, N9a, O0'9, A1'9, _, Fb2'9⟩
  · have _ := c0
    refine own_st (fun t k => XS.icmpYes X4.here hx rfl (pc0 := 21) (pc' := 52) rfl (hb hby d7_21) rfl (XT.ii_ge_t c0) (by decide) (by decide) k) ?_
    show own_Fin p.tables e below _ (T4.setTop (mkF m 52 #[.val (.int w), .val (.ref b1), .val (.int (0 : Int32)), .unset] []))
    refine own_st (fun t k => XS.aloadN X4.here hx rfl (hb hby d7_52) rfl rfl k) ?_
    show own_Fin p.tables e below _ (T4.setTop (mkF m 53 #[.val (.int w), .val (.ref b1), .val (.int (0 : Int32)), .unset] [(.ref b1)]))
    obtain ⟨fs, hr, hrun, hended, hW, hsame⟩ := X4.leave (v := (some (.ref b1))) (fun h => by rw [Bd.returns] at h; cases h)
    refine ⟨_, _, retOut X4 hx (t := (.object "com/example/condense/condense/analysis/AffineHull")) Bd.returns rfl (Or.inr (Or.inr (Or.inr (Or.inr ⟨rfl, rfl, rfl⟩)))) (hb hby d7_53) hr, hrun, hended, _, _, rfl, ?_, ⟨_, rfl⟩, hW, hsame.mono (by decide) (by decide)⟩
    show Q7 Z w aE kE aZ aO h0 n0 _ T4.heap _
    rw [e4]
    exact ⟨b1, rfl, N4, O0'4, A1'4, _, Fb2'4⟩
def Q16 (Z : State) (a : Addr) (h0 : Heap) (n0 : Nat) (v : Option Value) (h : Heap) (L : List Loc) : Prop := v = some (.int 0) ∧ Fr n0 L ∧ h = h0
set_option maxRecDepth 65536 in
set_option maxHeartbeats 40000000 in
theorem rm16 (l : Launch) (Z : State) (a0 : Array Value) (hw : ∀ d ∈ tables_1, d.before a0 Z = true) (ws : List Jvm.Cond) (a : Addr) (h0 : Heap) (n0 : Nat) (Z0 : n0 ≤ h0.size) (F_sz : Fld Z h0 a "java/util/ArrayList" "size" "I" (.int (0 : Int32))) :
    MetFree l (⟨"java/util/ArrayList", "size", "()I"⟩ : MethodName) (head1 (Jvm.Cond.code (⟨"java/util/ArrayList", "size", "()I"⟩ : MethodName) jdk_38_method_8_code 1 (some .int) :: ws) ({ frames := 1, cells := 0, slots := 0, locals := 12 } : Room)) (fun xs U => xs = #[(.ref a)] ∧ Z.Warmed39 U.vm ∧ U.heap = h0) (fun _ _ _ _ _ => True) (fun _ U o U' => ∃ v L, o = .returned v ∧ Q16 Z a h0 n0 v U'.heap L ∧ FrameEnd U o U' L ({ frames := 1, cells := 0, slots := 0, locals := 12 } : Room).cells ({ frames := 1, cells := 0, slots := 0, locals := 12 } : Room).slots) := by
  refine MetFree.of_bodySF (plainFor_of_name pn_java_util_ArrayList) hisR ?_
  intro p e s m args below meth c s₁ Bd hml0 hP hK
  obtain ⟨rfl, hZ, hh⟩ := hP
  have hx := Bd.exec
  have hby := Bd.bytes
  have hml : c.maxLocals = 1 := hml0
  have hown : s.vm.findClass "java/util/ArrayList" = some m.cls := findClass_of_methodNamed Bd.named
  have hnm := (name_of_methodNamed Bd.named Bd.method).1
  have X0 : Stand p l e ({ frames := 1, cells := 0, slots := 0, locals := 12 } : Room) s m #[(.ref a)] below meth c s₁ [] 0 0 := Stand.of_body Bd
  have e0 : s₁.heap = h0 := by rw [← hh, Bd.state]; rfl
  have N0 := Fr.nil n0
  change own_Fin p.tables e below (fun s₂ o => ∃ v L, o = .returned v ∧ Q16 Z a h0 n0 v s₂.heap L ∧ FrameEnd s o s₂ L ({ frames := 1, cells := 0, slots := 0, locals := 12 } : Room).cells ({ frames := 1, cells := 0, slots := 0, locals := 12 } : Room).slots) (s₁.setTop (entryFrame m #[(.ref a)] 1))
  refine own_st (fun t k => castTop (show entryFrame m #[(.ref a)] 1 = mkF m 0 #[.val (.ref a)] [] by first | (simp [entryFrame, mkF, argsToLocals, Value.category, maxLocals]; done) | rfl) k) ?_
  show own_Fin p.tables e below _ (s₁.setTop (mkF m 0 #[.val (.ref a)] []))
  refine own_st (fun t k => XS.aloadN X0.here hx rfl (hb hby d16_0) rfl rfl k) ?_
  show own_Fin p.tables e below _ (s₁.setTop (mkF m 1 #[.val (.ref a)] [(.ref a)]))
  obtain ⟨T1, X1, e1, st1⟩ := getF X0 hx hZ hown (host := "") (Or.inl (hw _ (List.mem_of_getElem? (i := 73) rfl))) Via.refl e0 F_sz (g := (mkF m 1 #[.val (.ref a)] [(.ref a)])) rfl rfl (hb hby d16_1)
  refine own_st st1 ?_
  show own_Fin p.tables e below _ (T1.setTop (mkF m 4 #[.val (.ref a)] [(.int (0 : Int32))]))
  obtain ⟨fs, hr, hrun, hended, hW, hsame⟩ := X1.leave (v := (some (.int (0 : Int32)))) (fun h => by rw [Bd.returns] at h; cases h)
  refine ⟨_, _, retOut X1 hx (t := .int) Bd.returns rfl (Or.inl ⟨rfl, Or.inl rfl, _, rfl⟩) (hb hby d16_4) hr, hrun, hended, _, _, rfl, ?_, ⟨_, rfl⟩, hW, hsame.mono (by decide) (by decide)⟩
  show Q16 Z a h0 n0 _ T1.heap _
  rw [e1]
  exact ⟨rfl, N0, rfl⟩
def Q17 (Z : State) (a : Addr) (x : Addr) (kx : ClassId) (aE : Addr) (kE : ClassId) (h0 : Heap) (n0 : Nat) (v : Option Value) (h : Heap) (L : List Loc) : Prop := v = some (.ref x) ∧ Fr n0 L ∧ Keep h0 h [x]
set_option maxRecDepth 65536 in
set_option maxHeartbeats 40000000 in
theorem rm17 (l : Launch) (Z : State) (a0 : Array Value) (hw : ∀ d ∈ tables_1, d.before a0 Z = true) (ws : List Jvm.Cond) (a : Addr) (x : Addr) (kx : ClassId) (aE : Addr) (kE : ClassId) (h0 : Heap) (n0 : Nat) (Z0 : n0 ≤ h0.size) (F_ed : Fld Z h0 a "java/util/ArrayList" "elementData" "[Ljava/lang/Object;" (.ref aE)) (F_sz : Fld Z h0 a "java/util/ArrayList" "size" "I" (.int (0 : Int32))) (V_x : Arv Z h0 x kx (.object "java/math/BigInteger") 0 [] .null) (g_x : n0 ≤ x) (nax : a ≠ x) (O0 : Old Z n0 h0) (V_E : Arv Z Z.heap aE kE (.object "java/lang/Object") 0 [] .null) :
    MetFree l (⟨"java/util/ArrayList", "toArray", "([Ljava/lang/Object;)[Ljava/lang/Object;"⟩ : MethodName) (head1 (Jvm.Cond.code (⟨"java/util/ArrayList", "toArray", "([Ljava/lang/Object;)[Ljava/lang/Object;"⟩ : MethodName) jdk_38_method_17_code 2 (some (.array (.object "java/lang/Object"))) :: ws) ({ frames := 1, cells := 0, slots := 0, locals := 60 } : Room)) (fun xs U => xs = #[(.ref a), (.ref x)] ∧ Z.Warmed39 U.vm ∧ U.heap = h0) (fun _ _ _ _ _ => True) (fun _ U o U' => ∃ v L, o = .returned v ∧ Q17 Z a x kx aE kE h0 n0 v U'.heap L ∧ FrameEnd U o U' L ({ frames := 1, cells := 0, slots := 0, locals := 60 } : Room).cells ({ frames := 1, cells := 0, slots := 0, locals := 60 } : Room).slots) := by
  refine MetFree.of_bodySF (plainFor_of_name pn_java_util_ArrayList) hisR ?_
  intro p e s m args below meth c s₁ Bd hml0 hP hK
  obtain ⟨rfl, hZ, hh⟩ := hP
  have hx := Bd.exec
  have hby := Bd.bytes
  have hml : c.maxLocals = 2 := hml0
  have hown : s.vm.findClass "java/util/ArrayList" = some m.cls := findClass_of_methodNamed Bd.named
  have hnm := (name_of_methodNamed Bd.named Bd.method).1
  have X0 : Stand p l e ({ frames := 1, cells := 0, slots := 0, locals := 60 } : Room) s m #[(.ref a), (.ref x)] below meth c s₁ [] 0 0 := Stand.of_body Bd
  have e0 : s₁.heap = h0 := by rw [← hh, Bd.state]; rfl
  have N0 := Fr.nil n0
  change own_Fin p.tables e below (fun s₂ o => ∃ v L, o = .returned v ∧ Q17 Z a x kx aE kE h0 n0 v s₂.heap L ∧ FrameEnd s o s₂ L ({ frames := 1, cells := 0, slots := 0, locals := 60 } : Room).cells ({ frames := 1, cells := 0, slots := 0, locals := 60 } : Room).slots) (s₁.setTop (entryFrame m #[(.ref a), (.ref x)] 2))
  refine own_st (fun t k => castTop (show entryFrame m #[(.ref a), (.ref x)] 2 = mkF m 0 #[.val (.ref a), .val (.ref x)] [] by first | (simp [entryFrame, mkF, argsToLocals, Value.category, maxLocals]; done) | rfl) k) ?_
  show own_Fin p.tables e below _ (s₁.setTop (mkF m 0 #[.val (.ref a), .val (.ref x)] []))
  refine own_st (fun t k => XS.aloadN X0.here hx rfl (hb hby d17_0) rfl rfl k) ?_
  show own_Fin p.tables e below _ (s₁.setTop (mkF m 1 #[.val (.ref a), .val (.ref x)] [(.ref x)]))
  refine own_st (fun t k => own_alen X0 hx hZ e0 V_x (g := (mkF m 1 #[.val (.ref a), .val (.ref x)] [(.ref x)])) rfl rfl (hb hby d17_1) t k) ?_
  show own_Fin p.tables e below _ (s₁.setTop (mkF m 2 #[.val (.ref a), .val (.ref x)] [(.int (0 : Int32))]))
  refine own_st (fun t k => XS.aloadN X0.here hx rfl (hb hby d17_2) rfl rfl k) ?_
  show own_Fin p.tables e below _ (s₁.setTop (mkF m 3 #[.val (.ref a), .val (.ref x)] [(.ref a), (.int (0 : Int32))]))
  obtain ⟨T1, X1, e1, st1⟩ := getF X0 hx hZ hown (host := "") (Or.inl (hw _ (List.mem_of_getElem? (i := 73) rfl))) Via.refl e0 F_sz (g := (mkF m 3 #[.val (.ref a), .val (.ref x)] [(.ref a), (.int (0 : Int32))])) rfl rfl (hb hby d17_3)
  refine own_st st1 ?_
  show own_Fin p.tables e below _ (T1.setTop (mkF m 6 #[.val (.ref a), .val (.ref x)] [(.int (0 : Int32)), (.int (0 : Int32))]))
  refine own_st (fun t k => XS.icmpYes X1.here hx rfl (pc0 := 6) (pc' := 25) rfl (hb hby d17_6) rfl (XT.ii_ge_t (by decide)) (by decide) (by decide) k) ?_
  show own_Fin p.tables e below _ (T1.setTop (mkF m 25 #[.val (.ref a), .val (.ref x)] []))
  refine own_st (fun t k => XS.aloadN X1.here hx rfl (hb hby d17_25) rfl rfl k) ?_
  show own_Fin p.tables e below _ (T1.setTop (mkF m 26 #[.val (.ref a), .val (.ref x)] [(.ref a)]))
  obtain ⟨T2, X2, e2, st2⟩ := getF X1 hx hZ hown (host := "") (Or.inl (hw _ (List.mem_of_getElem? (i := 31) rfl))) Via.refl e1 F_ed (g := (mkF m 26 #[.val (.ref a), .val (.ref x)] [(.ref a)])) rfl rfl (hb hby d17_26)
  refine own_st st2 ?_
  show own_Fin p.tables e below _ (T2.setTop (mkF m 29 #[.val (.ref a), .val (.ref x)] [(.ref aE)]))
  refine own_st (fun t k => XS.iconst X2.here hx rfl (hb hby d17_29) k) ?_
  show own_Fin p.tables e below _ (T2.setTop (mkF m 30 #[.val (.ref a), .val (.ref x)] [(.int (0 : Int32)), (.ref aE)]))
  refine own_st (fun t k => XS.aloadN X2.here hx rfl (hb hby d17_30) rfl rfl k) ?_
  show own_Fin p.tables e below _ (T2.setTop (mkF m 31 #[.val (.ref a), .val (.ref x)] [(.ref x), (.int (0 : Int32)), (.ref aE)]))
  refine own_st (fun t k => XS.iconst X2.here hx rfl (hb hby d17_31) k) ?_
  show own_Fin p.tables e below _ (T2.setTop (mkF m 32 #[.val (.ref a), .val (.ref x)] [(.int (0 : Int32)), (.ref x), (.int (0 : Int32)), (.ref aE)]))
  refine own_st (fun t k => XS.aloadN X2.here hx rfl (hb hby d17_32) rfl rfl k) ?_
  show own_Fin p.tables e below _ (T2.setTop (mkF m 33 #[.val (.ref a), .val (.ref x)] [(.ref a), (.int (0 : Int32)), (.ref x), (.int (0 : Int32)), (.ref aE)]))
  obtain ⟨T3, X3, e3, st3⟩ := getF X2 hx hZ hown (host := "") (Or.inl (hw _ (List.mem_of_getElem? (i := 73) rfl))) Via.refl e2 F_sz (g := (mkF m 33 #[.val (.ref a), .val (.ref x)] [(.ref a), (.int (0 : Int32)), (.ref x), (.int (0 : Int32)), (.ref aE)])) rfl rfl (hb hby d17_33)
  refine own_st st3 ?_
  show own_Fin p.tables e below _ (T3.setTop (mkF m 36 #[.val (.ref a), .val (.ref x)] [(.int (0 : Int32)), (.int (0 : Int32)), (.ref x), (.int (0 : Int32)), (.ref aE)]))
  obtain ⟨T4, h4, L4, X4, e4, N4, K4, V4, st4⟩ := cpA X3 hx hZ hown (hw _ (List.mem_of_getElem? (i := 120) rfl)) (hw _ (List.mem_of_getElem? (i := 123) rfl)) (hw _ (List.mem_of_getElem? (i := 121) rfl)) (hw _ (List.mem_of_getElem? (i := 122) rfl)) e3 (Arv.ext V_E O0.2) V_x (us := []) (Or.inr ⟨rfl, rfl, trivial⟩) (by decide) (by decide) (by decide) (by decide) (by decide) rfl (by decide) N0 g_x (g := (mkF m 36 #[.val (.ref a), .val (.ref x)] [(.int (0 : Int32)), (.int (0 : Int32)), (.ref x), (.int (0 : Int32)), (.ref aE)])) rfl (by rw [hml]; rfl) rfl (hb hby d17_36) (by decide) (W := 0) (by show 2 * 0 + _ ≤ _; exact Nat.le_of_eq rfl) (by decide)
  refine own_st st4 ?_
  have F_ed'4 := F_ed.keep K4 (ninS nax nin0)
  have F_sz'4 := F_sz.keep K4 (ninS nax nin0)
  have O0'4 := O0.keep K4 (allS g_x all0)
  have Z4 : n0 ≤ h4.size := Nat.le_trans Z0 K4.1
  show own_Fin p.tables e below _ (T4.setTop (mkF m 39 #[.val (.ref a), .val (.ref x)] []))
  refine own_st (fun t k => XS.aloadN X4.here hx rfl (hb hby d17_39) rfl rfl k) ?_
  show own_Fin p.tables e below _ (T4.setTop (mkF m 40 #[.val (.ref a), .val (.ref x)] [(.ref x)]))
  refine own_st (fun t k => own_alen X4 hx hZ e4 V4 (g := (mkF m 40 #[.val (.ref a), .val (.ref x)] [(.ref x)])) rfl rfl (hb hby d17_40) t k) ?_
  show own_Fin p.tables e below _ (T4.setTop (mkF m 41 #[.val (.ref a), .val (.ref x)] [(.int (0 : Int32))]))
  refine own_st (fun t k => XS.aloadN X4.here hx rfl (hb hby d17_41) rfl rfl k) ?_
  show own_Fin p.tables e below _ (T4.setTop (mkF m 42 #[.val (.ref a), .val (.ref x)] [(.ref a), (.int (0 : Int32))]))
  obtain ⟨T5, X5, e5, st5⟩ := getF X4 hx hZ hown (host := "") (Or.inl (hw _ (List.mem_of_getElem? (i := 73) rfl))) Via.refl e4 F_sz'4 (g := (mkF m 42 #[.val (.ref a), .val (.ref x)] [(.ref a), (.int (0 : Int32))])) rfl rfl (hb hby d17_42)
  refine own_st st5 ?_
  show own_Fin p.tables e below _ (T5.setTop (mkF m 45 #[.val (.ref a), .val (.ref x)] [(.int (0 : Int32)), (.int (0 : Int32))]))
  refine own_st (fun t k => XS.icmpYes X5.here hx rfl (pc0 := 45) (pc' := 55) rfl (hb hby d17_45) rfl (XT.ii_le_t (by decide)) (by decide) (by decide) k) ?_
  show own_Fin p.tables e below _ (T5.setTop (mkF m 55 #[.val (.ref a), .val (.ref x)] []))
  refine own_st (fun t k => XS.aloadN X5.here hx rfl (hb hby d17_55) rfl rfl k) ?_
  show own_Fin p.tables e below _ (T5.setTop (mkF m 56 #[.val (.ref a), .val (.ref x)] [(.ref x)]))
  obtain ⟨fs, hr, hrun, hended, hW, hsame⟩ := X5.leave (v := (some (.ref x))) (fun h => by rw [Bd.returns] at h; cases h)
  refine ⟨_, _, retOut X5 hx (t := (.array (.object "java/lang/Object"))) Bd.returns rfl (Or.inr (Or.inr (Or.inr (Or.inr ⟨rfl, rfl, rfl⟩)))) (hb hby d17_56) hr, hrun, hended, _, _, rfl, ?_, ⟨_, rfl⟩, hW, hsame.mono (by decide) (by decide)⟩
  show Q17 Z a x kx aE kE h0 n0 _ T5.heap _
  rw [e5]
  exact ⟨rfl, N4, K4⟩
def Q19 (Z : State) (it : Addr) (a : Addr) (mc : Int32) (h0 : Heap) (n0 : Nat) (v : Option Value) (h : Heap) (L : List Loc) : Prop := v = none ∧ Fr n0 L ∧ Keep h0 h [it] ∧ Fld Z h it "java/util/ArrayList$Itr" "this$0" "Ljava/util/ArrayList;" (.ref a) ∧ Fld Z h it "java/util/ArrayList$Itr" "cursor" "I" (.int (0 : Int32))
set_option maxRecDepth 65536 in
set_option maxHeartbeats 40000000 in
theorem rm19 (l : Launch) (Z : State) (a0 : Array Value) (hw : ∀ d ∈ tables_1, d.before a0 Z = true) (ws : List Jvm.Cond) (it : Addr) (a : Addr) (mc : Int32) (h0 : Heap) (n0 : Nat) (Z0 : n0 ≤ h0.size) (F_this_0 : Fld Z h0 it "java/util/ArrayList$Itr" "this$0" "Ljava/util/ArrayList;" .null) (F_cursor : Fld Z h0 it "java/util/ArrayList$Itr" "cursor" "I" (.int (0 : Int32))) (F_lastRet : Fld Z h0 it "java/util/ArrayList$Itr" "lastRet" "I" (.int (0 : Int32))) (F_expectedModCount : Fld Z h0 it "java/util/ArrayList$Itr" "expectedModCount" "I" (.int (0 : Int32))) (E_i : Exa Z h0 it "java/util/ArrayList$Itr") (g_it : n0 ≤ it) (F_mc : Fld Z h0 a "java/util/AbstractList" "modCount" "I" (.int mc)) (E_a : Exa Z h0 a "java/util/ArrayList") :
    MetFree l (⟨"java/util/ArrayList$Itr", "<init>", "(Ljava/util/ArrayList;)V"⟩ : MethodName) (head1 (Jvm.Cond.code (⟨"java/util/ArrayList$Itr", "<init>", "(Ljava/util/ArrayList;)V"⟩ : MethodName) jdk_49_method_1_code 2 none :: ws) ({ frames := 1, cells := 0, slots := 0, locals := 12 } : Room)) (fun xs U => xs = #[(.ref it), (.ref a)] ∧ Z.Warmed39 U.vm ∧ U.heap = h0) (fun _ _ _ _ _ => True) (fun _ U o U' => ∃ v L, o = .returned v ∧ Q19 Z it a mc h0 n0 v U'.heap L ∧ FrameEnd U o U' L ({ frames := 1, cells := 0, slots := 0, locals := 12 } : Room).cells ({ frames := 1, cells := 0, slots := 0, locals := 12 } : Room).slots) := by
  refine MetFree.of_bodySF (plainFor_of_name pn_java_util_ArrayList_Itr) hisR ?_
  intro p e s m args below meth c s₁ Bd hml0 hP hK
  obtain ⟨rfl, hZ, hh⟩ := hP
  have hx := Bd.exec
  have hby := Bd.bytes
  have hml : c.maxLocals = 2 := hml0
  have hown : s.vm.findClass "java/util/ArrayList$Itr" = some m.cls := findClass_of_methodNamed Bd.named
  have hnm := (name_of_methodNamed Bd.named Bd.method).1
  have X0 : Stand p l e ({ frames := 1, cells := 0, slots := 0, locals := 12 } : Room) s m #[(.ref it), (.ref a)] below meth c s₁ [] 0 0 := Stand.of_body Bd
  have e0 : s₁.heap = h0 := by rw [← hh, Bd.state]; rfl
  have N0 := Fr.nil n0
  change own_Fin p.tables e below (fun s₂ o => ∃ v L, o = .returned v ∧ Q19 Z it a mc h0 n0 v s₂.heap L ∧ FrameEnd s o s₂ L ({ frames := 1, cells := 0, slots := 0, locals := 12 } : Room).cells ({ frames := 1, cells := 0, slots := 0, locals := 12 } : Room).slots) (s₁.setTop (entryFrame m #[(.ref it), (.ref a)] 2))
  refine own_st (fun t k => castTop (show entryFrame m #[(.ref it), (.ref a)] 2 = mkF m 0 #[.val (.ref it), .val (.ref a)] [] by first | (simp [entryFrame, mkF, argsToLocals, Value.category, maxLocals]; done) | rfl) k) ?_
  show own_Fin p.tables e below _ (s₁.setTop (mkF m 0 #[.val (.ref it), .val (.ref a)] []))
  have K0 : Keep h0 h0 [it] := Keep.refl h0 [it]
  refine own_st (fun t k => XS.aloadN X0.here hx rfl (hb hby d19_0) rfl rfl k) ?_
  show own_Fin p.tables e below _ (s₁.setTop (mkF m 1 #[.val (.ref it), .val (.ref a)] [(.ref it)]))
  refine own_st (fun t k => XS.aloadN X0.here hx rfl (hb hby d19_1) rfl rfl k) ?_
  show own_Fin p.tables e below _ (s₁.setTop (mkF m 2 #[.val (.ref it), .val (.ref a)] [(.ref a), (.ref it)]))
  obtain ⟨T1, h1, X1, e1, W1, st1⟩ := putF X0 hx hZ hown (host := "") (Or.inl (hw _ (List.mem_of_getElem? (i := 141) rfl))) Via.refl e0 F_this_0 E_i (Or.inr ⟨(hw _ (List.mem_of_getElem? (i := 142) rfl)), rfl, hnm⟩) (hw _ (List.mem_of_getElem? (i := 135) rfl)) (ty := (.object "java/util/ArrayList")) (by decide) rfl rfl (g := (mkF m 2 #[.val (.ref it), .val (.ref a)] [(.ref a), (.ref it)])) rfl rfl (hb hby d19_2)
  refine own_st st1 ?_
  have F_this_0'1 := F_this_0.same W1
  have F_cursor'1 := F_cursor.other W1 (Or.inr (slot_ne (Or.inl (hw _ (List.mem_of_getElem? (i := 159) rfl))) (Or.inr (hw _ (List.mem_of_getElem? (i := 142) rfl))) (by decide) (t := .int) (t' := (.object "java/util/ArrayList")) (by decide) (by decide)))
  have F_lastRet'1 := F_lastRet.other W1 (Or.inr (slot_ne (Or.inl (hw _ (List.mem_of_getElem? (i := 145) rfl))) (Or.inr (hw _ (List.mem_of_getElem? (i := 142) rfl))) (by decide) (t := .int) (t' := (.object "java/util/ArrayList")) (by decide) (by decide)))
  have F_expectedModCount'1 := F_expectedModCount.other W1 (Or.inr (slot_ne (Or.inl (hw _ (List.mem_of_getElem? (i := 148) rfl))) (Or.inr (hw _ (List.mem_of_getElem? (i := 142) rfl))) (by decide) (t := .int) (t' := (.object "java/util/ArrayList")) (by decide) (by decide)))
  have E_i'1 := E_i.wr W1
  have F_mc'1 := F_mc.other W1 (Or.inl (ne_exa E_a E_i (by decide)))
  have E_a'1 := E_a.wr W1
  have K0'1 := K0.wr W1 (Or.inl (List.mem_of_getElem? (i := 0) rfl))
  have N1 := Fr.snoc X1 N0 g_it
  have Z1 : n0 ≤ h1.size := by rw [W1.size]; exact Z0
  show own_Fin p.tables e below _ (T1.setTop (mkF m 5 #[.val (.ref it), .val (.ref a)] []))
  refine own_st (fun t k => XS.aloadN X1.here hx rfl (hb hby d19_5) rfl rfl k) ?_
  show own_Fin p.tables e below _ (T1.setTop (mkF m 6 #[.val (.ref it), .val (.ref a)] [(.ref it)]))
  obtain ⟨T2, X2, e2, st2⟩ := initO X1 hx hZ hown (hw _ (List.mem_of_getElem? (i := 143) rfl)) (hw _ (List.mem_of_getElem? (i := 7) rfl)) (hw _ (List.mem_of_getElem? (i := 8) rfl)) e1 (g := (mkF m 6 #[.val (.ref it), .val (.ref a)] [(.ref it)])) rfl (by rw [hml]; rfl) rfl (hb hby d19_6) (by decide) (W := 0) (by show 2 * 0 + _ ≤ _; exact Nat.le_of_eq rfl) (by decide)
  refine own_st st2 ?_
  show own_Fin p.tables e below _ (T2.setTop (mkF m 9 #[.val (.ref it), .val (.ref a)] []))
  refine own_st (fun t k => XS.aloadN X2.here hx rfl (hb hby d19_9) rfl rfl k) ?_
  show own_Fin p.tables e below _ (T2.setTop (mkF m 10 #[.val (.ref it), .val (.ref a)] [(.ref it)]))
  refine own_st (fun t k => XS.iconst X2.here hx rfl (hb hby d19_10) k) ?_
  show own_Fin p.tables e below _ (T2.setTop (mkF m 11 #[.val (.ref it), .val (.ref a)] [(.int (-1 : Int32)), (.ref it)]))
  obtain ⟨T3, h3, X3, e3, W3, st3⟩ := putF X2 hx hZ hown (host := "") (Or.inl (hw _ (List.mem_of_getElem? (i := 144) rfl))) Via.refl e2 F_lastRet'1 E_i'1 (Or.inl (hw _ (List.mem_of_getElem? (i := 145) rfl))) (hw _ (List.mem_of_getElem? (i := 135) rfl)) (ty := .int) (by decide) rfl rfl (g := (mkF m 11 #[.val (.ref it), .val (.ref a)] [(.int (-1 : Int32)), (.ref it)])) rfl rfl (hb hby d19_11)
  refine own_st st3 ?_
  have F_this_0'3 := F_this_0'1.other W3 (Or.inr (slot_ne (Or.inr (hw _ (List.mem_of_getElem? (i := 142) rfl))) (Or.inl (hw _ (List.mem_of_getElem? (i := 145) rfl))) (by decide) (t := (.object "java/util/ArrayList")) (t' := .int) (by decide) (by decide)))
  have F_cursor'3 := F_cursor'1.other W3 (Or.inr (slot_ne (Or.inl (hw _ (List.mem_of_getElem? (i := 159) rfl))) (Or.inl (hw _ (List.mem_of_getElem? (i := 145) rfl))) (by decide) (t := .int) (t' := .int) (by decide) (by decide)))
  have F_lastRet'3 := F_lastRet'1.same W3
  have F_expectedModCount'3 := F_expectedModCount'1.other W3 (Or.inr (slot_ne (Or.inl (hw _ (List.mem_of_getElem? (i := 148) rfl))) (Or.inl (hw _ (List.mem_of_getElem? (i := 145) rfl))) (by decide) (t := .int) (t' := .int) (by decide) (by decide)))
  have E_i'3 := E_i'1.wr W3
  have F_mc'3 := F_mc'1.other W3 (Or.inl (ne_exa E_a'1 E_i'1 (by decide)))
  have E_a'3 := E_a'1.wr W3
  have K0'3 := K0'1.wr W3 (Or.inl (List.mem_of_getElem? (i := 0) rfl))
  have N3 := Fr.snoc X3 N1 g_it
  have Z3 : n0 ≤ h3.size := by rw [W3.size]; exact Z1
  show own_Fin p.tables e below _ (T3.setTop (mkF m 14 #[.val (.ref it), .val (.ref a)] []))
  refine own_st (fun t k => XS.aloadN X3.here hx rfl (hb hby d19_14) rfl rfl k) ?_
  show own_Fin p.tables e below _ (T3.setTop (mkF m 15 #[.val (.ref it), .val (.ref a)] [(.ref it)]))
  refine own_st (fun t k => XS.aloadN X3.here hx rfl (hb hby d19_15) rfl rfl k) ?_
  show own_Fin p.tables e below _ (T3.setTop (mkF m 16 #[.val (.ref it), .val (.ref a)] [(.ref it), (.ref it)]))
  obtain ⟨T4, X4, e4, st4⟩ := getF X3 hx hZ hown (host := "") (Or.inl (hw _ (List.mem_of_getElem? (i := 141) rfl))) Via.refl e3 F_this_0'3 (g := (mkF m 16 #[.val (.ref it), .val (.ref a)] [(.ref it), (.ref it)])) rfl rfl (hb hby d19_16)
  refine own_st st4 ?_
  show own_Fin p.tables e below _ (T4.setTop (mkF m 19 #[.val (.ref it), .val (.ref a)] [(.ref a), (.ref it)]))
  obtain ⟨T5, X5, e5, st5⟩ := getF X4 hx hZ hown (host := "") (Or.inl (hw _ (List.mem_of_getElem? (i := 146) rfl))) (Via.of (hw _ (List.mem_of_getElem? (i := 72) rfl))) e4 F_mc'3 (g := (mkF m 19 #[.val (.ref it), .val (.ref a)] [(.ref a), (.ref it)])) rfl rfl (hb hby d19_19)
  refine own_st st5 ?_
  show own_Fin p.tables e below _ (T5.setTop (mkF m 22 #[.val (.ref it), .val (.ref a)] [(.int mc), (.ref it)]))
  obtain ⟨T6, h6, X6, e6, W6, st6⟩ := putF X5 hx hZ hown (host := "") (Or.inl (hw _ (List.mem_of_getElem? (i := 147) rfl))) Via.refl e5 F_expectedModCount'3 E_i'3 (Or.inl (hw _ (List.mem_of_getElem? (i := 148) rfl))) (hw _ (List.mem_of_getElem? (i := 135) rfl)) (ty := .int) (by decide) rfl rfl (g := (mkF m 22 #[.val (.ref it), .val (.ref a)] [(.int mc), (.ref it)])) rfl rfl (hb hby d19_22)
  refine own_st st6 ?_
  have F_this_0'6 := F_this_0'3.other W6 (Or.inr (slot_ne (Or.inr (hw _ (List.mem_of_getElem? (i := 142) rfl))) (Or.inl (hw _ (List.mem_of_getElem? (i := 148) rfl))) (by decide) (t := (.object "java/util/ArrayList")) (t' := .int) (by decide) (by decide)))
  have F_cursor'6 := F_cursor'3.other W6 (Or.inr (slot_ne (Or.inl (hw _ (List.mem_of_getElem? (i := 159) rfl))) (Or.inl (hw _ (List.mem_of_getElem? (i := 148) rfl))) (by decide) (t := .int) (t' := .int) (by decide) (by decide)))
  have F_lastRet'6 := F_lastRet'3.other W6 (Or.inr (slot_ne (Or.inl (hw _ (List.mem_of_getElem? (i := 145) rfl))) (Or.inl (hw _ (List.mem_of_getElem? (i := 148) rfl))) (by decide) (t := .int) (t' := .int) (by decide) (by decide)))
  have F_expectedModCount'6 := F_expectedModCount'3.same W6
  have E_i'6 := E_i'3.wr W6
  have F_mc'6 := F_mc'3.other W6 (Or.inl (ne_exa E_a'3 E_i'3 (by decide)))
  have E_a'6 := E_a'3.wr W6
  have K0'6 := K0'3.wr W6 (Or.inl (List.mem_of_getElem? (i := 0) rfl))
  have N6 := Fr.snoc X6 N3 g_it
  have Z6 : n0 ≤ h6.size := by rw [W6.size]; exact Z3
  show own_Fin p.tables e below _ (T6.setTop (mkF m 25 #[.val (.ref it), .val (.ref a)] []))
  obtain ⟨fs, hr, hrun, hended, hW, hsame⟩ := X6.leave (v := none) (fun _ => rfl)
  refine ⟨_, _, X6.returnOut hx Bd.returns (hb hby d19_25) hr, hrun, hended, _, _, rfl, ?_, ⟨_, rfl⟩, hW, hsame.mono (by decide) (by decide)⟩
  show Q19 Z it a mc h0 n0 _ T6.heap _
  rw [e6]
  exact ⟨rfl, N6, K0'6, F_this_0'6, F_cursor'6⟩
def Q18 (Z : State) (a : Addr) (mc : Int32) (h0 : Heap) (n0 : Nat) (v : Option Value) (h : Heap) (L : List Loc) : Prop := ∃ it, v = some (.ref it) ∧ Fr n0 L ∧ Keep h0 h [] ∧ Exa Z h it "java/util/ArrayList$Itr" ∧ Fld Z h it "java/util/ArrayList$Itr" "this$0" "Ljava/util/ArrayList;" (.ref a) ∧ Fld Z h it "java/util/ArrayList$Itr" "cursor" "I" (.int (0 : Int32))
set_option maxRecDepth 65536 in
set_option maxHeartbeats 40000000 in
theorem rm18 (l : Launch) (Z : State) (a0 : Array Value) (hw : ∀ d ∈ tables_1, d.before a0 Z = true) (ws : List Jvm.Cond) (a : Addr) (mc : Int32) (h0 : Heap) (n0 : Nat) (Z0 : n0 ≤ h0.size) (F_mc : Fld Z h0 a "java/util/AbstractList" "modCount" "I" (.int mc)) (E_a : Exa Z h0 a "java/util/ArrayList") :
    MetFree l (⟨"java/util/ArrayList", "iterator", "()Ljava/util/Iterator;"⟩ : MethodName) (head1 (Jvm.Cond.code (⟨"java/util/ArrayList", "iterator", "()Ljava/util/Iterator;"⟩ : MethodName) jdk_38_method_55_code 1 (some (.object "java/util/Iterator")) :: ws) ({ frames := 2, cells := 1, slots := 4, locals := 28 } : Room)) (fun xs U => xs = #[(.ref a)] ∧ Z.Warmed39 U.vm ∧ U.heap = h0) (fun _ _ _ _ _ => True) (fun _ U o U' => ∃ v L, o = .returned v ∧ Q18 Z a mc h0 n0 v U'.heap L ∧ FrameEnd U o U' L ({ frames := 2, cells := 1, slots := 4, locals := 28 } : Room).cells ({ frames := 2, cells := 1, slots := 4, locals := 28 } : Room).slots) := by
  refine MetFree.of_bodySF (plainFor_of_name pn_java_util_ArrayList) hisR ?_
  intro p e s m args below meth c s₁ Bd hml0 hP hK
  obtain ⟨rfl, hZ, hh⟩ := hP
  have hx := Bd.exec
  have hby := Bd.bytes
  have hml : c.maxLocals = 1 := hml0
  have hown : s.vm.findClass "java/util/ArrayList" = some m.cls := findClass_of_methodNamed Bd.named
  have hnm := (name_of_methodNamed Bd.named Bd.method).1
  have X0 : Stand p l e ({ frames := 2, cells := 1, slots := 4, locals := 28 } : Room) s m #[(.ref a)] below meth c s₁ [] 0 0 := Stand.of_body Bd
  have e0 : s₁.heap = h0 := by rw [← hh, Bd.state]; rfl
  have N0 := Fr.nil n0
  change own_Fin p.tables e below (fun s₂ o => ∃ v L, o = .returned v ∧ Q18 Z a mc h0 n0 v s₂.heap L ∧ FrameEnd s o s₂ L ({ frames := 2, cells := 1, slots := 4, locals := 28 } : Room).cells ({ frames := 2, cells := 1, slots := 4, locals := 28 } : Room).slots) (s₁.setTop (entryFrame m #[(.ref a)] 1))
  refine own_st (fun t k => castTop (show entryFrame m #[(.ref a)] 1 = mkF m 0 #[.val (.ref a)] [] by first | (simp [entryFrame, mkF, argsToLocals, Value.category, maxLocals]; done) | rfl) k) ?_
  show own_Fin p.tables e below _ (s₁.setTop (mkF m 0 #[.val (.ref a)] []))
  have K0 : Keep h0 h0 [] := Keep.refl h0 []
  obtain ⟨T1, h1, X1, e1, E1, A1, D1, U1, st1⟩ := newO X0 hx hZ hown (hw _ (List.mem_of_getElem? (i := 134) rfl)) (hw _ (List.mem_of_getElem? (i := 135) rfl)) (hw _ (List.mem_of_getElem? (i := 136) rfl)) e0 (g := (mkF m 0 #[.val (.ref a)] [])) rfl (hb hby d18_0) (by decide) (by decide)
  obtain ⟨b1, g1⟩ : ∃ z, z = h0.size := ⟨_, rfl⟩
  have ne_a_b1 : a ≠ b1 := Nat.ne_of_lt (Nat.lt_of_lt_of_le F_mc.lt (Nat.le_of_eq g1.symm))
  have g_b1 : n0 ≤ b1 := Nat.le_trans Z0 (Nat.le_of_eq g1.symm)
  have sz_b1 : h0.size ≤ b1 := Nat.le_trans K0.1 (Nat.le_of_eq g1.symm)
  rw [← g1] at A1 D1 U1 st1
  refine own_st st1 ?_
  have F_mc'1 := F_mc.ext E1
  have E_a'1 := E_a.ext E1
  have K0'1 := K0.ext E1
  have Z1 : n0 ≤ h1.size := Nat.le_trans Z0 E1.1
  have F_this_0_b1 : Fld Z h1 b1 "java/util/ArrayList$Itr" "this$0" "Ljava/util/ArrayList;" .null := D1 (Or.inr (hw _ (List.mem_of_getElem? (i := 142) rfl))) (ty := (.object "java/util/ArrayList")) (by decide)
  have F_lastRet_b1 : Fld Z h1 b1 "java/util/ArrayList$Itr" "lastRet" "I" (.int (0 : Int32)) := D1 (Or.inl (hw _ (List.mem_of_getElem? (i := 145) rfl))) (ty := .int) (by decide)
  have F_expectedModCount_b1 : Fld Z h1 b1 "java/util/ArrayList$Itr" "expectedModCount" "I" (.int (0 : Int32)) := D1 (Or.inl (hw _ (List.mem_of_getElem? (i := 148) rfl))) (ty := .int) (by decide)
  have F_cursor_b1 : Fld Z h1 b1 "java/util/ArrayList$Itr" "cursor" "I" (.int (0 : Int32)) := D1 (Or.inl (hw _ (List.mem_of_getElem? (i := 159) rfl))) (ty := .int) (by decide)
  show own_Fin p.tables e below _ (T1.setTop (mkF m 3 #[.val (.ref a)] [(.ref b1)]))
  refine own_st (fun t k => XS.dup X1.here hx rfl (hb hby d18_3) rfl rfl k) ?_
  show own_Fin p.tables e below _ (T1.setTop (mkF m 4 #[.val (.ref a)] [(.ref b1), (.ref b1)]))
  refine own_st (fun t k => XS.aloadN X1.here hx rfl (hb hby d18_4) rfl rfl k) ?_
  show own_Fin p.tables e below _ (T1.setTop (mkF m 5 #[.val (.ref a)] [(.ref a), (.ref b1), (.ref b1)]))
  obtain ⟨_, _, ⟨T2, L2, k2, n2⟩, -, X2, ⟨Lc2, hQ2, l2, y2, z2⟩, st2⟩ := X1.specialBack hx (y := (⟨"java/util/ArrayList$Itr", "<init>", "(Ljava/util/ArrayList;)V"⟩ : MethodName)) rfl hown (mvT hZ (hw _ (List.mem_of_getElem? (i := 137) rfl))) (mvT hZ (hw _ (List.mem_of_getElem? (i := 138) rfl))) (mvT hZ (hw _ (List.mem_of_getElem? (i := 140) rfl))) (by decide) (backOf (W := 1) (rm19 l Z a0 hw [] b1 a mc h1 n0 Z1 F_this_0_b1 F_cursor_b1 F_lastRet_b1 F_expectedModCount_b1 A1 g_b1 F_mc'1 E_a'1) hZ (hw _ (List.mem_of_getElem? (i := 140) rfl)) (hw _ (List.mem_of_getElem? (i := 136) rfl)) (by decide) (by decide)) (g := (mkF m 5 #[.val (.ref a)] [(.ref a), (.ref b1), (.ref b1)])) rfl (by rw [hml]; rfl) (Steps.refl _) (a := b1) (argsL := [(.ref a)]) (rest := [(.ref b1)]) (lenOf pd__Ljava_util_ArrayList__V rfl) rfl (by show 2 * 0 + _ ≤ _; exact Nat.le_of_eq rfl) (hb hby d18_5) (fun _ _ => ⟨rfl, e1, (by decide : 1 + 0 ≤ _), (by decide : 4 + 0 ≤ _)⟩)
  dsimp only [Pt.U, Pt.locs, Pt.cells, Pt.slots] at X2 l2 y2 z2 st2 hQ2
  subst l2 y2 z2
  obtain ⟨rfl, N2, K2, Ft2, Fc2⟩ := hQ2
  refine own_st (fun t k => st2.trans k) ?_
  have F_mc'2 := F_mc'1.keep K2 (ninS ne_a_b1 nin0)
  have E_a'2 := E_a'1.keep K2
  have K0'2 := K0'1.trans K2 (allS (P := fun x => x ∈ ([] : List Addr) ∨ h0.size ≤ x) (Or.inr sz_b1) all0)
  have A1'2 := A1.keep K2
  have Z2 : n0 ≤ T2.heap.size := Nat.le_trans Z1 K2.1
  have N2a := Fr.app N0 N2
  show own_Fin p.tables e below _ (T2.setTop (mkF m 8 #[.val (.ref a)] [(.ref b1)]))
  obtain ⟨fs, hr, hrun, hended, hW, hsame⟩ := X2.leave (v := (some (.ref b1))) (fun h => by rw [Bd.returns] at h; cases h)
  refine ⟨_, _, retOut X2 hx (t := (.object "java/util/Iterator")) Bd.returns rfl (Or.inr (Or.inr (Or.inr (Or.inr ⟨rfl, rfl, rfl⟩)))) (hb hby d18_8) hr, hrun, hended, _, _, rfl, ?_, ⟨_, rfl⟩, hW, hsame.mono (by decide) (by decide)⟩
  show Q18 Z a mc h0 n0 _ T2.heap _
  exact ⟨b1, rfl, N2a, K0'2, A1'2, Ft2, Fc2⟩
def Q20 (Z : State) (it : Addr) (a : Addr) (h0 : Heap) (n0 : Nat) (v : Option Value) (h : Heap) (L : List Loc) : Prop := v = some (.int 0) ∧ Fr n0 L ∧ h = h0
set_option maxRecDepth 65536 in
set_option maxHeartbeats 40000000 in
theorem rm20 (l : Launch) (Z : State) (a0 : Array Value) (hw : ∀ d ∈ tables_1, d.before a0 Z = true) (ws : List Jvm.Cond) (it : Addr) (a : Addr) (h0 : Heap) (n0 : Nat) (Z0 : n0 ≤ h0.size) (F_t : Fld Z h0 it "java/util/ArrayList$Itr" "this$0" "Ljava/util/ArrayList;" (.ref a)) (F_c : Fld Z h0 it "java/util/ArrayList$Itr" "cursor" "I" (.int (0 : Int32))) (F_sz : Fld Z h0 a "java/util/ArrayList" "size" "I" (.int (0 : Int32))) :
    MetFree l (⟨"java/util/ArrayList$Itr", "hasNext", "()Z"⟩ : MethodName) (head1 (Jvm.Cond.code (⟨"java/util/ArrayList$Itr", "hasNext", "()Z"⟩ : MethodName) jdk_49_method_2_code 1 (some .boolean) :: ws) ({ frames := 1, cells := 0, slots := 0, locals := 12 } : Room)) (fun xs U => xs = #[(.ref it)] ∧ Z.Warmed39 U.vm ∧ U.heap = h0) (fun _ _ _ _ _ => True) (fun _ U o U' => ∃ v L, o = .returned v ∧ Q20 Z it a h0 n0 v U'.heap L ∧ FrameEnd U o U' L ({ frames := 1, cells := 0, slots := 0, locals := 12 } : Room).cells ({ frames := 1, cells := 0, slots := 0, locals := 12 } : Room).slots) := by
  refine MetFree.of_bodySF (plainFor_of_name pn_java_util_ArrayList_Itr) hisR ?_
  intro p e s m args below meth c s₁ Bd hml0 hP hK
  obtain ⟨rfl, hZ, hh⟩ := hP
  have hx := Bd.exec
  have hby := Bd.bytes
  have hml : c.maxLocals = 1 := hml0
  have hown : s.vm.findClass "java/util/ArrayList$Itr" = some m.cls := findClass_of_methodNamed Bd.named
  have hnm := (name_of_methodNamed Bd.named Bd.method).1
  have X0 : Stand p l e ({ frames := 1, cells := 0, slots := 0, locals := 12 } : Room) s m #[(.ref it)] below meth c s₁ [] 0 0 := Stand.of_body Bd
  have e0 : s₁.heap = h0 := by rw [← hh, Bd.state]; rfl
  have N0 := Fr.nil n0
  change own_Fin p.tables e below (fun s₂ o => ∃ v L, o = .returned v ∧ Q20 Z it a h0 n0 v s₂.heap L ∧ FrameEnd s o s₂ L ({ frames := 1, cells := 0, slots := 0, locals := 12 } : Room).cells ({ frames := 1, cells := 0, slots := 0, locals := 12 } : Room).slots) (s₁.setTop (entryFrame m #[(.ref it)] 1))
  refine own_st (fun t k => castTop (show entryFrame m #[(.ref it)] 1 = mkF m 0 #[.val (.ref it)] [] by first | (simp [entryFrame, mkF, argsToLocals, Value.category, maxLocals]; done) | rfl) k) ?_
  show own_Fin p.tables e below _ (s₁.setTop (mkF m 0 #[.val (.ref it)] []))
  refine own_st (fun t k => XS.aloadN X0.here hx rfl (hb hby d20_0) rfl rfl k) ?_
  show own_Fin p.tables e below _ (s₁.setTop (mkF m 1 #[.val (.ref it)] [(.ref it)]))
  obtain ⟨T1, X1, e1, st1⟩ := getF X0 hx hZ hown (host := "") (Or.inl (hw _ (List.mem_of_getElem? (i := 158) rfl))) Via.refl e0 F_c (g := (mkF m 1 #[.val (.ref it)] [(.ref it)])) rfl rfl (hb hby d20_1)
  refine own_st st1 ?_
  show own_Fin p.tables e below _ (T1.setTop (mkF m 4 #[.val (.ref it)] [(.int (0 : Int32))]))
  refine own_st (fun t k => XS.aloadN X1.here hx rfl (hb hby d20_4) rfl rfl k) ?_
  show own_Fin p.tables e below _ (T1.setTop (mkF m 5 #[.val (.ref it)] [(.ref it), (.int (0 : Int32))]))
  obtain ⟨T2, X2, e2, st2⟩ := getF X1 hx hZ hown (host := "") (Or.inl (hw _ (List.mem_of_getElem? (i := 141) rfl))) Via.refl e1 F_t (g := (mkF m 5 #[.val (.ref it)] [(.ref it), (.int (0 : Int32))])) rfl rfl (hb hby d20_5)
  refine own_st st2 ?_
  show own_Fin p.tables e below _ (T2.setTop (mkF m 8 #[.val (.ref it)] [(.ref a), (.int (0 : Int32))]))
  obtain ⟨T3, X3, e3, st3⟩ := getF X2 hx hZ hown (Or.inr (hw _ (List.mem_of_getElem? (i := 160) rfl))) Via.refl e2 F_sz (g := (mkF m 8 #[.val (.ref it)] [(.ref a), (.int (0 : Int32))])) rfl rfl (hb hby d20_8)
  refine own_st st3 ?_
  show own_Fin p.tables e below _ (T3.setTop (mkF m 11 #[.val (.ref it)] [(.int (0 : Int32)), (.int (0 : Int32))]))
  refine own_st (fun t k => XS.icmpYes X3.here hx rfl (pc0 := 11) (pc' := 18) rfl (hb hby d20_11) rfl (XT.ii_eq_t (by decide)) (by decide) (by decide) k) ?_
  show own_Fin p.tables e below _ (T3.setTop (mkF m 18 #[.val (.ref it)] []))
  refine own_st (fun t k => XS.iconst X3.here hx rfl (hb hby d20_18) k) ?_
  show own_Fin p.tables e below _ (T3.setTop (mkF m 19 #[.val (.ref it)] [(.int (0 : Int32))]))
  obtain ⟨fs, hr, hrun, hended, hW, hsame⟩ := X3.leave (v := (some (.int (0 : Int32)))) (fun h => by rw [Bd.returns] at h; cases h)
  refine ⟨_, _, retN X3 hx (t := .boolean) Bd.returns (by simp) (hb hby d20_19) hr, hrun, hended, _, _, rfl, ?_, ⟨_, rfl⟩, hW, hsame.mono (by decide) (by decide)⟩
  show Q20 Z it a h0 n0 _ T3.heap _
  rw [e3]
  exact ⟨rfl, N0, rfl⟩
def Q21 (Z : State) (x : Addr) (h0 : Heap) (n0 : Nat) (v : Option Value) (h : Heap) (L : List Loc) : Prop := v = some (.int (-1)) ∧ Fr n0 L ∧ h = h0
set_option maxRecDepth 65536 in
set_option maxHeartbeats 40000000 in
theorem rm21 (l : Launch) (Z : State) (a0 : Array Value) (hw : ∀ d ∈ tables_1, d.before a0 Z = true) (ws : List Jvm.Cond) (x : Addr) (h0 : Heap) (n0 : Nat) (Z0 : n0 ≤ h0.size) (O_x : own_O Z h0 x "java/math/BigInteger" 0) :
    MetFree l (⟨"com/example/condense/condense/analysis/AffineHull", "pivot", "([Ljava/math/BigInteger;)I"⟩ : MethodName) (head1 (Jvm.Cond.code (⟨"com/example/condense/condense/analysis/AffineHull", "pivot", "([Ljava/math/BigInteger;)I"⟩ : MethodName) prog_1_method_9_code 2 (some .int) :: ws) ({ frames := 1, cells := 0, slots := 0, locals := 12 } : Room)) (fun xs U => xs = #[(.ref x)] ∧ Z.Warmed39 U.vm ∧ U.heap = h0) (fun _ _ _ _ _ => True) (fun _ U o U' => ∃ v L, o = .returned v ∧ Q21 Z x h0 n0 v U'.heap L ∧ FrameEnd U o U' L ({ frames := 1, cells := 0, slots := 0, locals := 12 } : Room).cells ({ frames := 1, cells := 0, slots := 0, locals := 12 } : Room).slots) := by
  refine MetFree.of_bodySF (plainFor_of_name pn_com_example_condense_condense_analysis_AffineHull) hisR ?_
  intro p e s m args below meth c s₁ Bd hml0 hP hK
  obtain ⟨rfl, hZ, hh⟩ := hP
  have hx := Bd.exec
  have hby := Bd.bytes
  have hml : c.maxLocals = 2 := hml0
  have hown : s.vm.findClass "com/example/condense/condense/analysis/AffineHull" = some m.cls := findClass_of_methodNamed Bd.named
  have hnm := (name_of_methodNamed Bd.named Bd.method).1
  have X0 : Stand p l e ({ frames := 1, cells := 0, slots := 0, locals := 12 } : Room) s m #[(.ref x)] below meth c s₁ [] 0 0 := Stand.of_body Bd
  have e0 : s₁.heap = h0 := by rw [← hh, Bd.state]; rfl
  have N0 := Fr.nil n0
  change own_Fin p.tables e below (fun s₂ o => ∃ v L, o = .returned v ∧ Q21 Z x h0 n0 v s₂.heap L ∧ FrameEnd s o s₂ L ({ frames := 1, cells := 0, slots := 0, locals := 12 } : Room).cells ({ frames := 1, cells := 0, slots := 0, locals := 12 } : Room).slots) (s₁.setTop (entryFrame m #[(.ref x)] 2))
  refine own_st (fun t k => castTop (show entryFrame m #[(.ref x)] 2 = mkF m 0 #[.val (.ref x), .unset] [] by first | (simp [entryFrame, mkF, argsToLocals, Value.category, maxLocals]; done) | rfl) k) ?_
  show own_Fin p.tables e below _ (s₁.setTop (mkF m 0 #[.val (.ref x), .unset] []))
  refine own_st (fun t k => XS.iconst X0.here hx rfl (hb hby d21_0) k) ?_
  show own_Fin p.tables e below _ (s₁.setTop (mkF m 1 #[.val (.ref x), .unset] [(.int (0 : Int32))]))
  refine own_st (fun t k => XS.istoreN X0.here hx rfl (hb hby d21_1) rfl (l' := #[.val (.ref x), .val (.int (0 : Int32))]) rfl k) ?_
  show own_Fin p.tables e below _ (s₁.setTop (mkF m 2 #[.val (.ref x), .val (.int (0 : Int32))] []))
  refine own_st (fun t k => XS.iloadN X0.here hx rfl (hb hby d21_2) rfl k) ?_
  show own_Fin p.tables e below _ (s₁.setTop (mkF m 3 #[.val (.ref x), .val (.int (0 : Int32))] [(.int (0 : Int32))]))
  refine own_st (fun t k => XS.aloadN X0.here hx rfl (hb hby d21_3) rfl rfl k) ?_
  show own_Fin p.tables e below _ (s₁.setTop (mkF m 4 #[.val (.ref x), .val (.int (0 : Int32))] [(.ref x), (.int (0 : Int32))]))
  refine own_st (fun t k => own_len1 X0 hx hZ e0 (own_O.A O_x) (g := (mkF m 4 #[.val (.ref x), .val (.int (0 : Int32))] [(.ref x), (.int (0 : Int32))])) rfl rfl (hb hby d21_4) t k) ?_
  show own_Fin p.tables e below _ (s₁.setTop (mkF m 5 #[.val (.ref x), .val (.int (0 : Int32))] [(.int (0 : Int32)), (.int (0 : Int32))]))
  refine own_st (fun t k => XS.icmpYes X0.here hx rfl (pc0 := 5) (pc' := 23) rfl (hb hby d21_5) rfl (XT.ii_ge_t (by decide)) (by decide) (by decide) k) ?_
  show own_Fin p.tables e below _ (s₁.setTop (mkF m 23 #[.val (.ref x), .val (.int (0 : Int32))] []))
  refine own_st (fun t k => XS.iloadN X0.here hx rfl (hb hby d21_23) rfl k) ?_
  show own_Fin p.tables e below _ (s₁.setTop (mkF m 24 #[.val (.ref x), .val (.int (0 : Int32))] [(.int (0 : Int32))]))
  refine own_st (fun t k => XS.aloadN X0.here hx rfl (hb hby d21_24) rfl rfl k) ?_
  show own_Fin p.tables e below _ (s₁.setTop (mkF m 25 #[.val (.ref x), .val (.int (0 : Int32))] [(.ref x), (.int (0 : Int32))]))
  refine own_st (fun t k => own_len1 X0 hx hZ e0 (own_O.A O_x) (g := (mkF m 25 #[.val (.ref x), .val (.int (0 : Int32))] [(.ref x), (.int (0 : Int32))])) rfl rfl (hb hby d21_25) t k) ?_
  show own_Fin p.tables e below _ (s₁.setTop (mkF m 26 #[.val (.ref x), .val (.int (0 : Int32))] [(.int (0 : Int32)), (.int (0 : Int32))]))
  refine own_st (fun t k => XS.icmpYes X0.here hx rfl (pc0 := 26) (pc' := 33) rfl (hb hby d21_26) rfl (XT.ii_ge_t (by decide)) (by decide) (by decide) k) ?_
  show own_Fin p.tables e below _ (s₁.setTop (mkF m 33 #[.val (.ref x), .val (.int (0 : Int32))] []))
  refine own_st (fun t k => XS.iconst X0.here hx rfl (hb hby d21_33) k) ?_
  show own_Fin p.tables e below _ (s₁.setTop (mkF m 34 #[.val (.ref x), .val (.int (0 : Int32))] [(.int (-1 : Int32))]))
  obtain ⟨fs, hr, hrun, hended, hW, hsame⟩ := X0.leave (v := (some (.int (-1 : Int32)))) (fun h => by rw [Bd.returns] at h; cases h)
  refine ⟨_, _, retOut X0 hx (t := .int) Bd.returns rfl (Or.inl ⟨rfl, Or.inl rfl, _, rfl⟩) (hb hby d21_34) hr, hrun, hended, _, _, rfl, ?_, ⟨_, rfl⟩, hW, hsame.mono (by decide) (by decide)⟩
  show Q21 Z x h0 n0 _ s₁.heap _
  rw [e0]
  exact ⟨rfl, N0, rfl⟩
def QH1 (Z : State) (a : Addr) (ls : Addr) (pt : Addr) (aE : Addr) (kE : ClassId) (h0 : Heap) (n0 : Nat) (v : Option Value) (h : Heap) (L : List Loc) : Prop := v = some (.int 1) ∧ Fr n0 L ∧ Keep h0 h [a] ∧ ∃ bs, Fld Z h a "com/example/condense/condense/analysis/AffineHull" "base" "[Ljava/math/BigInteger;" (.ref bs) ∧ Fld Z h a "com/example/condense/condense/analysis/AffineHull" "dimension" "I" (.int (0 : Int32)) ∧ Fld Z h a "com/example/condense/condense/analysis/AffineHull" "directions" "Ljava/util/List;" (.ref ls)
set_option maxRecDepth 65536 in
set_option maxHeartbeats 40000000 in
theorem rmH1 (l : Launch) (Z : State) (a0 : Array Value) (hw : ∀ d ∈ tables_1, d.before a0 Z = true) (ws : List Jvm.Cond) (a : Addr) (ls : Addr) (pt : Addr) (aE : Addr) (kE : ClassId) (h0 : Heap) (n0 : Nat) (Z0 : n0 ≤ h0.size) (F_b : Fld Z h0 a "com/example/condense/condense/analysis/AffineHull" "base" "[Ljava/math/BigInteger;" .null) (F_d : Fld Z h0 a "com/example/condense/condense/analysis/AffineHull" "dimension" "I" (.int (0 : Int32))) (F_l : Fld Z h0 a "com/example/condense/condense/analysis/AffineHull" "directions" "Ljava/util/List;" (.ref ls)) (E_a : Exa Z h0 a "com/example/condense/condense/analysis/AffineHull") (g_a : n0 ≤ a) (P_sz : Fld Z h0 pt "java/util/ArrayList" "size" "I" (.int (0 : Int32))) (E_p : Exa Z h0 pt "java/util/ArrayList") (P_ed : Fld Z h0 pt "java/util/ArrayList" "elementData" "[Ljava/lang/Object;" (.ref aE)) (O0 : Old Z n0 h0) (V_E : Arv Z Z.heap aE kE (.object "java/lang/Object") 0 [] .null) :
    MetFree l (⟨"com/example/condense/condense/analysis/AffineHull", "add", "(Ljava/util/List;)Z"⟩ : MethodName) (head1 (Jvm.Cond.code (⟨"com/example/condense/condense/analysis/AffineHull", "add", "(Ljava/util/List;)Z"⟩ : MethodName) prog_1_method_5_code 6 (some .boolean) :: ws) ({ frames := 2, cells := 1, slots := 0, locals := 80 } : Room)) (fun xs U => xs = #[(.ref a), (.ref pt)] ∧ Z.Warmed39 U.vm ∧ U.heap = h0) (fun _ _ _ _ _ => True) (fun _ U o U' => ∃ v L, o = .returned v ∧ QH1 Z a ls pt aE kE h0 n0 v U'.heap L ∧ FrameEnd U o U' L ({ frames := 2, cells := 1, slots := 0, locals := 80 } : Room).cells ({ frames := 2, cells := 1, slots := 0, locals := 80 } : Room).slots) := by
  refine MetFree.of_bodySF (plainFor_of_name pn_com_example_condense_condense_analysis_AffineHull) hisR ?_
  intro p e s m args below meth c s₁ Bd hml0 hP hK
  obtain ⟨rfl, hZ, hh⟩ := hP
  have hx := Bd.exec
  have hby := Bd.bytes
  have hml : c.maxLocals = 6 := hml0
  have hown : s.vm.findClass "com/example/condense/condense/analysis/AffineHull" = some m.cls := findClass_of_methodNamed Bd.named
  have hnm := (name_of_methodNamed Bd.named Bd.method).1
  have X0 : Stand p l e ({ frames := 2, cells := 1, slots := 0, locals := 80 } : Room) s m #[(.ref a), (.ref pt)] below meth c s₁ [] 0 0 := Stand.of_body Bd
  have e0 : s₁.heap = h0 := by rw [← hh, Bd.state]; rfl
  have N0 := Fr.nil n0
  change own_Fin p.tables e below (fun s₂ o => ∃ v L, o = .returned v ∧ QH1 Z a ls pt aE kE h0 n0 v s₂.heap L ∧ FrameEnd s o s₂ L ({ frames := 2, cells := 1, slots := 0, locals := 80 } : Room).cells ({ frames := 2, cells := 1, slots := 0, locals := 80 } : Room).slots) (s₁.setTop (entryFrame m #[(.ref a), (.ref pt)] 6))
  refine own_st (fun t k => castTop (show entryFrame m #[(.ref a), (.ref pt)] 6 = mkF m 0 #[.val (.ref a), .val (.ref pt), .unset, .unset, .unset, .unset] [] by first | (simp [entryFrame, mkF, argsToLocals, Value.category, maxLocals]; done) | rfl) k) ?_
  show own_Fin p.tables e below _ (s₁.setTop (mkF m 0 #[.val (.ref a), .val (.ref pt), .unset, .unset, .unset, .unset] []))
  have K0 : Keep h0 h0 [a] := Keep.refl h0 [a]
  refine own_st (fun t k => XS.aloadN X0.here hx rfl (hb hby d15_0) rfl rfl k) ?_
  show own_Fin p.tables e below _ (s₁.setTop (mkF m 1 #[.val (.ref a), .val (.ref pt), .unset, .unset, .unset, .unset] [(.ref pt)]))
  obtain ⟨cq1, kq1, qa1, qb1, qc1⟩ := isOf hZ e0 E_p
  obtain ⟨_, _, ⟨T1, L1, k1, n1⟩, -, X1, ⟨Lc1, hQ1, l1, y1, z1⟩, st1⟩ := X0.interfaceBack hx (xi := (⟨"java/util/List", "size", "()I"⟩ : MethodName)) (y := (⟨"java/util/ArrayList", "size", "()I"⟩ : MethodName)) hown (mvT hZ (hw _ (List.mem_of_getElem? (i := 104) rfl))) (mvT hZ (hw _ (List.mem_of_getElem? (i := 105) rfl))) (mvT hZ (hw _ (List.mem_of_getElem? (i := 106) rfl))) (mvT hZ (hw _ (List.mem_of_getElem? (i := 107) rfl))) (mvT hZ (hw _ (List.mem_of_getElem? (i := 108) rfl))) (mvT hZ (hw _ (List.mem_of_getElem? (i := 109) rfl))) (mvT hZ (hw _ (List.mem_of_getElem? (i := 110) rfl))) (mvT hZ (hw _ (List.mem_of_getElem? (i := 69) rfl))) (by decide) (backOf (W := 0) (rm16 l Z a0 hw [] pt h0 n0 Z0 P_sz) hZ (hw _ (List.mem_of_getElem? (i := 111) rfl)) (hw _ (List.mem_of_getElem? (i := 11) rfl)) (by decide) (by decide)) qa1 qb1 qc1 (g := (mkF m 1 #[.val (.ref a), .val (.ref pt), .unset, .unset, .unset, .unset] [(.ref pt)])) rfl (by rw [hml]; rfl) (Steps.refl _) (argsL := []) (rest := []) (lenOf pd___I rfl) rfl (by show 2 * 0 + _ ≤ _; exact Nat.le_of_eq rfl) (hb hby d15_1) (fun _ _ => ⟨rfl, e0, (by decide : 0 + 0 ≤ _), (by decide : 0 + 0 ≤ _)⟩)
  dsimp only [Pt.U, Pt.locs, Pt.cells, Pt.slots] at X1 l1 y1 z1 st1 hQ1
  subst l1 y1 z1
  obtain ⟨rfl, N1, q1⟩ := hQ1
  refine own_st (fun t k => st1.trans k) ?_
  have N1a := Fr.app N0 N1
  show own_Fin p.tables e below _ (T1.setTop (mkF m 6 #[.val (.ref a), .val (.ref pt), .unset, .unset, .unset, .unset] [(.int (0 : Int32))]))
  refine own_st (fun t k => XS.aloadN X1.here hx rfl (hb hby d15_6) rfl rfl k) ?_
  show own_Fin p.tables e below _ (T1.setTop (mkF m 7 #[.val (.ref a), .val (.ref pt), .unset, .unset, .unset, .unset] [(.ref a), (.int (0 : Int32))]))
  obtain ⟨T2, X2, e2, st2⟩ := getF X1 hx hZ hown (host := "") (Or.inl (hw _ (List.mem_of_getElem? (i := 35) rfl))) Via.refl q1 F_d (g := (mkF m 7 #[.val (.ref a), .val (.ref pt), .unset, .unset, .unset, .unset] [(.ref a), (.int (0 : Int32))])) rfl rfl (hb hby d15_7)
  refine own_st st2 ?_
  show own_Fin p.tables e below _ (T2.setTop (mkF m 10 #[.val (.ref a), .val (.ref pt), .unset, .unset, .unset, .unset] [(.int (0 : Int32)), (.int (0 : Int32))]))
  refine own_st (fun t k => XS.icmpYes X2.here hx rfl (pc0 := 10) (pc' := 36) rfl (hb hby d15_10) rfl (XT.ii_eq_t (by decide)) (by decide) (by decide) k) ?_
  show own_Fin p.tables e below _ (T2.setTop (mkF m 36 #[.val (.ref a), .val (.ref pt), .unset, .unset, .unset, .unset] []))
  refine own_st (fun t k => XS.aloadN X2.here hx rfl (hb hby d15_36) rfl rfl k) ?_
  show own_Fin p.tables e below _ (T2.setTop (mkF m 37 #[.val (.ref a), .val (.ref pt), .unset, .unset, .unset, .unset] [(.ref a)]))
  obtain ⟨T3, X3, e3, st3⟩ := getF X2 hx hZ hown (host := "") (Or.inl (hw _ (List.mem_of_getElem? (i := 42) rfl))) Via.refl e2 F_b (g := (mkF m 37 #[.val (.ref a), .val (.ref pt), .unset, .unset, .unset, .unset] [(.ref a)])) rfl rfl (hb hby d15_37)
  refine own_st st3 ?_
  show own_Fin p.tables e below _ (T3.setTop (mkF m 40 #[.val (.ref a), .val (.ref pt), .unset, .unset, .unset, .unset] [.null]))
  refine own_st (fun t k => XS.ifnonnullNo X3.here hx rfl (hb hby d15_40) rfl k) ?_
  show own_Fin p.tables e below _ (T3.setTop (mkF m 43 #[.val (.ref a), .val (.ref pt), .unset, .unset, .unset, .unset] []))
  refine own_st (fun t k => XS.aloadN X3.here hx rfl (hb hby d15_43) rfl rfl k) ?_
  show own_Fin p.tables e below _ (T3.setTop (mkF m 44 #[.val (.ref a), .val (.ref pt), .unset, .unset, .unset, .unset] [(.ref a)]))
  refine own_st (fun t k => XS.aloadN X3.here hx rfl (hb hby d15_44) rfl rfl k) ?_
  show own_Fin p.tables e below _ (T3.setTop (mkF m 45 #[.val (.ref a), .val (.ref pt), .unset, .unset, .unset, .unset] [(.ref pt), (.ref a)]))
  refine own_st (fun t k => XS.iconst X3.here hx rfl (hb hby d15_45) k) ?_
  show own_Fin p.tables e below _ (T3.setTop (mkF m 46 #[.val (.ref a), .val (.ref pt), .unset, .unset, .unset, .unset] [(.int (0 : Int32)), (.ref pt), (.ref a)]))
  obtain ⟨T4, h4, kc4, X4, e4, E4, A4, Ex4, O4, st4⟩ := newRE X3 hx hZ hown (hw _ (List.mem_of_getElem? (i := 52) rfl)) (hw _ (List.mem_of_getElem? (i := 53) rfl)) e3 (g := (mkF m 46 #[.val (.ref a), .val (.ref pt), .unset, .unset, .unset, .unset] [(.int (0 : Int32)), (.ref pt), (.ref a)])) rfl (hb hby d15_46) rfl (by decide) (cap := 0) (by decide) (by decide) (by decide) (by decide) (ad := "[Ljava/math/BigInteger;") (by decide +kernel)
  obtain ⟨b4, g4⟩ : ∃ z, z = h0.size := ⟨_, rfl⟩
  have ne_a_b4 : a ≠ b4 := Nat.ne_of_lt (Nat.lt_of_lt_of_le F_b.lt (Nat.le_of_eq g4.symm))
  have ne_pt_b4 : pt ≠ b4 := Nat.ne_of_lt (Nat.lt_of_lt_of_le P_sz.lt (Nat.le_of_eq g4.symm))
  have g_b4 : n0 ≤ b4 := Nat.le_trans Z0 (Nat.le_of_eq g4.symm)
  have sz_b4 : h0.size ≤ b4 := Nat.le_trans K0.1 (Nat.le_of_eq g4.symm)
  rw [← g4] at A4 Ex4 st4
  refine own_st st4 ?_
  have F_b'4 := F_b.ext E4
  have F_d'4 := F_d.ext E4
  have F_l'4 := F_l.ext E4
  have E_a'4 := E_a.ext E4
  have P_sz'4 := P_sz.ext E4
  have E_p'4 := E_p.ext E4
  have P_ed'4 := P_ed.ext E4
  have O0'4 := O0.ext E4
  have K0'4 := K0.ext E4
  have Z4 : n0 ≤ h4.size := Nat.le_trans Z0 E4.1
  have OA4 : own_O Z h4 b4 "java/math/BigInteger" (0 : Int32) := ⟨_, A4, sz_new _ _ _, (by decide), O4⟩
  show own_Fin p.tables e below _ (T4.setTop (mkF m 49 #[.val (.ref a), .val (.ref pt), .unset, .unset, .unset, .unset] [(.ref b4), (.ref pt), (.ref a)]))
  have V4 := Arv.new A4 (by decide)
  obtain ⟨cq5, kq5, qa5, qb5, qc5⟩ := isOf hZ e4 E_p'4
  obtain ⟨_, _, ⟨T5, L5, k5, n5⟩, -, X5, ⟨Lc5, hQ5, l5, y5, z5⟩, st5⟩ := X4.interfaceBack hx (xi := (⟨"java/util/List", "toArray", "([Ljava/lang/Object;)[Ljava/lang/Object;"⟩ : MethodName)) (y := (⟨"java/util/ArrayList", "toArray", "([Ljava/lang/Object;)[Ljava/lang/Object;"⟩ : MethodName)) hown (mvT hZ (hw _ (List.mem_of_getElem? (i := 112) rfl))) (mvT hZ (hw _ (List.mem_of_getElem? (i := 113) rfl))) (mvT hZ (hw _ (List.mem_of_getElem? (i := 114) rfl))) (mvT hZ (hw _ (List.mem_of_getElem? (i := 115) rfl))) (mvT hZ (hw _ (List.mem_of_getElem? (i := 116) rfl))) (mvT hZ (hw _ (List.mem_of_getElem? (i := 117) rfl))) (mvT hZ (hw _ (List.mem_of_getElem? (i := 118) rfl))) (mvT hZ (hw _ (List.mem_of_getElem? (i := 69) rfl))) (by decide) (backOf (W := 1) (rm17 l Z a0 hw [] pt b4 kc4 aE kE h4 n0 Z4 P_ed'4 P_sz'4 V4 g_b4 ne_pt_b4 O0'4 V_E) hZ (hw _ (List.mem_of_getElem? (i := 119) rfl)) (hw _ (List.mem_of_getElem? (i := 11) rfl)) (by decide) (by decide)) qa5 qb5 qc5 (g := (mkF m 49 #[.val (.ref a), .val (.ref pt), .unset, .unset, .unset, .unset] [(.ref b4), (.ref pt), (.ref a)])) rfl (by rw [hml]; rfl) (Steps.refl _) (argsL := [(.ref b4)]) (rest := [(.ref a)]) (lenOf pd___Ljava_lang_Object___Ljava_lang_Object_ rfl) rfl (by show 2 * 0 + _ ≤ _; exact Nat.le_of_eq rfl) (hb hby d15_49) (fun _ _ => ⟨rfl, e4, (by decide : 1 + 0 ≤ _), (by decide : 0 + 0 ≤ _)⟩)
  dsimp only [Pt.U, Pt.locs, Pt.cells, Pt.slots] at X5 l5 y5 z5 st5 hQ5
  subst l5 y5 z5
  obtain ⟨rfl, N5, K5⟩ := hQ5
  refine own_st (fun t k => st5.trans k) ?_
  have F_b'5 := F_b'4.keep K5 (ninS ne_a_b4 nin0)
  have F_d'5 := F_d'4.keep K5 (ninS ne_a_b4 nin0)
  have F_l'5 := F_l'4.keep K5 (ninS ne_a_b4 nin0)
  have E_a'5 := E_a'4.keep K5
  have P_sz'5 := P_sz'4.keep K5 (ninS ne_pt_b4 nin0)
  have E_p'5 := E_p'4.keep K5
  have P_ed'5 := P_ed'4.keep K5 (ninS ne_pt_b4 nin0)
  have O0'5 := O0'4.keep K5 (allS g_b4 all0)
  have K0'5 := K0'4.trans K5 (allS (P := fun x => x ∈ ([a] : List Addr) ∨ h0.size ≤ x) (Or.inr sz_b4) all0)
  have Ex4'5 := Ex4.keep K5
  have OA4'5 := OA4.keep K5
  have Z5 : n0 ≤ T5.heap.size := Nat.le_trans Z4 K5.1
  have N5a := Fr.app N1a N5
  show own_Fin p.tables e below _ (T5.setTop (mkF m 54 #[.val (.ref a), .val (.ref pt), .unset, .unset, .unset, .unset] [(.ref b4), (.ref a)]))
  obtain ⟨T6, X6, e6, st6⟩ := castY X5 hx hZ hown (hw _ (List.mem_of_getElem? (i := 124) rfl)) rfl (Ins.self Ex4'5) (g := (mkF m 54 #[.val (.ref a), .val (.ref pt), .unset, .unset, .unset, .unset] [(.ref b4), (.ref a)])) rfl rfl (hb hby d15_54)
  refine own_st st6 ?_
  show own_Fin p.tables e below _ (T6.setTop (mkF m 57 #[.val (.ref a), .val (.ref pt), .unset, .unset, .unset, .unset] [(.ref b4), (.ref a)]))
  obtain ⟨T7, h7, X7, e7, W7, st7⟩ := putF X6 hx hZ hown (host := "") (Or.inl (hw _ (List.mem_of_getElem? (i := 42) rfl))) Via.refl e6 F_b'5 E_a'5 (Or.inl (hw _ (List.mem_of_getElem? (i := 43) rfl))) (hw _ (List.mem_of_getElem? (i := 1) rfl)) (ty := (.array (.object "java/math/BigInteger"))) (by decide) rfl rfl (g := (mkF m 57 #[.val (.ref a), .val (.ref pt), .unset, .unset, .unset, .unset] [(.ref b4), (.ref a)])) rfl rfl (hb hby d15_57)
  refine own_st st7 ?_
  have F_b'7 := F_b'5.same W7
  have F_d'7 := F_d'5.other W7 (Or.inr (slot_ne (Or.inr (hw _ (List.mem_of_getElem? (i := 36) rfl))) (Or.inl (hw _ (List.mem_of_getElem? (i := 43) rfl))) (by decide) (t := .int) (t' := (.array (.object "java/math/BigInteger"))) (by decide) (by decide)))
  have F_l'7 := F_l'5.other W7 (Or.inr (slot_ne (Or.inr (hw _ (List.mem_of_getElem? (i := 34) rfl))) (Or.inl (hw _ (List.mem_of_getElem? (i := 43) rfl))) (by decide) (t := (.object "java/util/List")) (t' := (.array (.object "java/math/BigInteger"))) (by decide) (by decide)))
  have E_a'7 := E_a'5.wr W7
  have P_sz'7 := P_sz'5.other W7 (Or.inl (ne_exa E_p'5 E_a'5 (by decide)))
  have E_p'7 := E_p'5.wr W7
  have P_ed'7 := P_ed'5.other W7 (Or.inl (ne_exa E_p'5 E_a'5 (by decide)))
  have O0'7 := O0'5.wr W7 g_a
  have K0'7 := K0'5.wr W7 (Or.inl (List.mem_of_getElem? (i := 0) rfl))
  have Ex4'7 := Ex4'5.wr W7
  have OA4'7 := OA4'5.wr W7
  have N7 := Fr.snoc X7 N5a g_a
  have Z7 : n0 ≤ h7.size := by rw [W7.size]; exact Z5
  show own_Fin p.tables e below _ (T7.setTop (mkF m 60 #[.val (.ref a), .val (.ref pt), .unset, .unset, .unset, .unset] []))
  refine own_st (fun t k => XS.iconst X7.here hx rfl (hb hby d15_60) k) ?_
  show own_Fin p.tables e below _ (T7.setTop (mkF m 61 #[.val (.ref a), .val (.ref pt), .unset, .unset, .unset, .unset] [(.int (1 : Int32))]))
  refine own_st (fun t k => XS.istoreN X7.here hx rfl (hb hby d15_61) rfl (l' := #[.val (.ref a), .val (.ref pt), .val (.int (1 : Int32)), .unset, .unset, .unset]) rfl k) ?_
  show own_Fin p.tables e below _ (T7.setTop (mkF m 62 #[.val (.ref a), .val (.ref pt), .val (.int (1 : Int32)), .unset, .unset, .unset] []))
  refine own_st (fun t k => XS.goto X7.here hx rfl (pc0 := 62) (pc' := 189) rfl (hb hby d15_62) (by decide) (by decide) k) ?_
  show own_Fin p.tables e below _ (T7.setTop (mkF m 189 #[.val (.ref a), .val (.ref pt), .val (.int (1 : Int32)), .unset, .unset, .unset] []))
  refine own_st (fun t k => XS.iloadN X7.here hx rfl (hb hby d15_189) rfl k) ?_
  show own_Fin p.tables e below _ (T7.setTop (mkF m 190 #[.val (.ref a), .val (.ref pt), .val (.int (1 : Int32)), .unset, .unset, .unset] [(.int (1 : Int32))]))
  obtain ⟨fs, hr, hrun, hended, hW, hsame⟩ := X7.leave (v := (some (.int (1 : Int32)))) (fun h => by rw [Bd.returns] at h; cases h)
  refine ⟨_, _, retN X7 hx (t := .boolean) Bd.returns (by simp) (hb hby d15_190) hr, hrun, hended, _, _, rfl, ?_, ⟨_, rfl⟩, hW, hsame.mono (by decide) (by decide)⟩
  show QH1 Z a ls pt aE kE h0 n0 _ T7.heap _
  rw [e7]
  exact ⟨rfl, N7, K0'7, b4, F_b'7, F_d'7, F_l'7⟩
def QH2 (Z : State) (a : Addr) (ls : Addr) (pt : Addr) (bs : Addr) (mc : Int32) (h0 : Heap) (n0 : Nat) (v : Option Value) (h : Heap) (L : List Loc) : Prop := v = some (.int 0) ∧ Fr n0 L ∧ Keep h0 h []
set_option maxRecDepth 65536 in
set_option maxHeartbeats 40000000 in
theorem rmH2 (l : Launch) (Z : State) (a0 : Array Value) (hw : ∀ d ∈ tables_1, d.before a0 Z = true) (ws : List Jvm.Cond) (a : Addr) (ls : Addr) (pt : Addr) (bs : Addr) (mc : Int32) (h0 : Heap) (n0 : Nat) (Z0 : n0 ≤ h0.size) (F_b : Fld Z h0 a "com/example/condense/condense/analysis/AffineHull" "base" "[Ljava/math/BigInteger;" (.ref bs)) (F_d : Fld Z h0 a "com/example/condense/condense/analysis/AffineHull" "dimension" "I" (.int (0 : Int32))) (F_l : Fld Z h0 a "com/example/condense/condense/analysis/AffineHull" "directions" "Ljava/util/List;" (.ref ls)) (E_a : Exa Z h0 a "com/example/condense/condense/analysis/AffineHull") (g_a : n0 ≤ a) (P_sz : Fld Z h0 pt "java/util/ArrayList" "size" "I" (.int (0 : Int32))) (E_p : Exa Z h0 pt "java/util/ArrayList") (L_sz : Fld Z h0 ls "java/util/ArrayList" "size" "I" (.int (0 : Int32))) (L_mc : Fld Z h0 ls "java/util/AbstractList" "modCount" "I" (.int mc)) (E_l : Exa Z h0 ls "java/util/ArrayList") :
    MetFree l (⟨"com/example/condense/condense/analysis/AffineHull", "add", "(Ljava/util/List;)Z"⟩ : MethodName) (head1 (Jvm.Cond.code (⟨"com/example/condense/condense/analysis/AffineHull", "add", "(Ljava/util/List;)Z"⟩ : MethodName) prog_1_method_5_code 6 (some .boolean) :: ws) ({ frames := 3, cells := 2, slots := 4, locals := 60 } : Room)) (fun xs U => xs = #[(.ref a), (.ref pt)] ∧ Z.Warmed39 U.vm ∧ U.heap = h0) (fun _ _ _ _ _ => True) (fun _ U o U' => ∃ v L, o = .returned v ∧ QH2 Z a ls pt bs mc h0 n0 v U'.heap L ∧ FrameEnd U o U' L ({ frames := 3, cells := 2, slots := 4, locals := 60 } : Room).cells ({ frames := 3, cells := 2, slots := 4, locals := 60 } : Room).slots) := by
  refine MetFree.of_bodySF (plainFor_of_name pn_com_example_condense_condense_analysis_AffineHull) hisR ?_
  intro p e s m args below meth c s₁ Bd hml0 hP hK
  obtain ⟨rfl, hZ, hh⟩ := hP
  have hx := Bd.exec
  have hby := Bd.bytes
  have hml : c.maxLocals = 6 := hml0
  have hown : s.vm.findClass "com/example/condense/condense/analysis/AffineHull" = some m.cls := findClass_of_methodNamed Bd.named
  have hnm := (name_of_methodNamed Bd.named Bd.method).1
  have X0 : Stand p l e ({ frames := 3, cells := 2, slots := 4, locals := 60 } : Room) s m #[(.ref a), (.ref pt)] below meth c s₁ [] 0 0 := Stand.of_body Bd
  have e0 : s₁.heap = h0 := by rw [← hh, Bd.state]; rfl
  have N0 := Fr.nil n0
  change own_Fin p.tables e below (fun s₂ o => ∃ v L, o = .returned v ∧ QH2 Z a ls pt bs mc h0 n0 v s₂.heap L ∧ FrameEnd s o s₂ L ({ frames := 3, cells := 2, slots := 4, locals := 60 } : Room).cells ({ frames := 3, cells := 2, slots := 4, locals := 60 } : Room).slots) (s₁.setTop (entryFrame m #[(.ref a), (.ref pt)] 6))
  refine own_st (fun t k => castTop (show entryFrame m #[(.ref a), (.ref pt)] 6 = mkF m 0 #[.val (.ref a), .val (.ref pt), .unset, .unset, .unset, .unset] [] by first | (simp [entryFrame, mkF, argsToLocals, Value.category, maxLocals]; done) | rfl) k) ?_
  show own_Fin p.tables e below _ (s₁.setTop (mkF m 0 #[.val (.ref a), .val (.ref pt), .unset, .unset, .unset, .unset] []))
  have K0 : Keep h0 h0 [] := Keep.refl h0 []
  refine own_st (fun t k => XS.aloadN X0.here hx rfl (hb hby d15_0) rfl rfl k) ?_
  show own_Fin p.tables e below _ (s₁.setTop (mkF m 1 #[.val (.ref a), .val (.ref pt), .unset, .unset, .unset, .unset] [(.ref pt)]))
  obtain ⟨cq1, kq1, qa1, qb1, qc1⟩ := isOf hZ e0 E_p
  obtain ⟨_, _, ⟨T1, L1, k1, n1⟩, -, X1, ⟨Lc1, hQ1, l1, y1, z1⟩, st1⟩ := X0.interfaceBack hx (xi := (⟨"java/util/List", "size", "()I"⟩ : MethodName)) (y := (⟨"java/util/ArrayList", "size", "()I"⟩ : MethodName)) hown (mvT hZ (hw _ (List.mem_of_getElem? (i := 104) rfl))) (mvT hZ (hw _ (List.mem_of_getElem? (i := 105) rfl))) (mvT hZ (hw _ (List.mem_of_getElem? (i := 106) rfl))) (mvT hZ (hw _ (List.mem_of_getElem? (i := 107) rfl))) (mvT hZ (hw _ (List.mem_of_getElem? (i := 108) rfl))) (mvT hZ (hw _ (List.mem_of_getElem? (i := 109) rfl))) (mvT hZ (hw _ (List.mem_of_getElem? (i := 110) rfl))) (mvT hZ (hw _ (List.mem_of_getElem? (i := 69) rfl))) (by decide) (backOf (W := 0) (rm16 l Z a0 hw [] pt h0 n0 Z0 P_sz) hZ (hw _ (List.mem_of_getElem? (i := 111) rfl)) (hw _ (List.mem_of_getElem? (i := 11) rfl)) (by decide) (by decide)) qa1 qb1 qc1 (g := (mkF m 1 #[.val (.ref a), .val (.ref pt), .unset, .unset, .unset, .unset] [(.ref pt)])) rfl (by rw [hml]; rfl) (Steps.refl _) (argsL := []) (rest := []) (lenOf pd___I rfl) rfl (by show 2 * 0 + _ ≤ _; exact Nat.le_of_eq rfl) (hb hby d15_1) (fun _ _ => ⟨rfl, e0, (by decide : 0 + 0 ≤ _), (by decide : 0 + 0 ≤ _)⟩)
  dsimp only [Pt.U, Pt.locs, Pt.cells, Pt.slots] at X1 l1 y1 z1 st1 hQ1
  subst l1 y1 z1
  obtain ⟨rfl, N1, q1⟩ := hQ1
  refine own_st (fun t k => st1.trans k) ?_
  have N1a := Fr.app N0 N1
  show own_Fin p.tables e below _ (T1.setTop (mkF m 6 #[.val (.ref a), .val (.ref pt), .unset, .unset, .unset, .unset] [(.int (0 : Int32))]))
  refine own_st (fun t k => XS.aloadN X1.here hx rfl (hb hby d15_6) rfl rfl k) ?_
  show own_Fin p.tables e below _ (T1.setTop (mkF m 7 #[.val (.ref a), .val (.ref pt), .unset, .unset, .unset, .unset] [(.ref a), (.int (0 : Int32))]))
  obtain ⟨T2, X2, e2, st2⟩ := getF X1 hx hZ hown (host := "") (Or.inl (hw _ (List.mem_of_getElem? (i := 35) rfl))) Via.refl q1 F_d (g := (mkF m 7 #[.val (.ref a), .val (.ref pt), .unset, .unset, .unset, .unset] [(.ref a), (.int (0 : Int32))])) rfl rfl (hb hby d15_7)
  refine own_st st2 ?_
  show own_Fin p.tables e below _ (T2.setTop (mkF m 10 #[.val (.ref a), .val (.ref pt), .unset, .unset, .unset, .unset] [(.int (0 : Int32)), (.int (0 : Int32))]))
  refine own_st (fun t k => XS.icmpYes X2.here hx rfl (pc0 := 10) (pc' := 36) rfl (hb hby d15_10) rfl (XT.ii_eq_t (by decide)) (by decide) (by decide) k) ?_
  show own_Fin p.tables e below _ (T2.setTop (mkF m 36 #[.val (.ref a), .val (.ref pt), .unset, .unset, .unset, .unset] []))
  refine own_st (fun t k => XS.aloadN X2.here hx rfl (hb hby d15_36) rfl rfl k) ?_
  show own_Fin p.tables e below _ (T2.setTop (mkF m 37 #[.val (.ref a), .val (.ref pt), .unset, .unset, .unset, .unset] [(.ref a)]))
  obtain ⟨T3, X3, e3, st3⟩ := getF X2 hx hZ hown (host := "") (Or.inl (hw _ (List.mem_of_getElem? (i := 42) rfl))) Via.refl e2 F_b (g := (mkF m 37 #[.val (.ref a), .val (.ref pt), .unset, .unset, .unset, .unset] [(.ref a)])) rfl rfl (hb hby d15_37)
  refine own_st st3 ?_
  show own_Fin p.tables e below _ (T3.setTop (mkF m 40 #[.val (.ref a), .val (.ref pt), .unset, .unset, .unset, .unset] [(.ref bs)]))
  refine own_st (fun t k => XS.ifnonnullYes X3.here hx rfl (pc0 := 40) (pc' := 65) rfl (hb hby d15_40) rfl (by decide) (by decide) k) ?_
  show own_Fin p.tables e below _ (T3.setTop (mkF m 65 #[.val (.ref a), .val (.ref pt), .unset, .unset, .unset, .unset] []))
  refine own_st (fun t k => XS.aloadN X3.here hx rfl (hb hby d15_65) rfl rfl k) ?_
  show own_Fin p.tables e below _ (T3.setTop (mkF m 66 #[.val (.ref a), .val (.ref pt), .unset, .unset, .unset, .unset] [(.ref a)]))
  obtain ⟨T4, X4, e4, st4⟩ := getF X3 hx hZ hown (host := "") (Or.inl (hw _ (List.mem_of_getElem? (i := 35) rfl))) Via.refl e3 F_d (g := (mkF m 66 #[.val (.ref a), .val (.ref pt), .unset, .unset, .unset, .unset] [(.ref a)])) rfl rfl (hb hby d15_66)
  refine own_st st4 ?_
  show own_Fin p.tables e below _ (T4.setTop (mkF m 69 #[.val (.ref a), .val (.ref pt), .unset, .unset, .unset, .unset] [(.int (0 : Int32))]))
  obtain ⟨T5, h5, kc5, X5, e5, E5, A5, O5, st5⟩ := newR X4 hx hZ hown (hw _ (List.mem_of_getElem? (i := 52) rfl)) (hw _ (List.mem_of_getElem? (i := 53) rfl)) e4 (g := (mkF m 69 #[.val (.ref a), .val (.ref pt), .unset, .unset, .unset, .unset] [(.int (0 : Int32))])) rfl (hb hby d15_69) rfl (by decide) (cap := 0) (by decide) (by decide) (by decide) (by decide)
  obtain ⟨b5, g5⟩ : ∃ z, z = h0.size := ⟨_, rfl⟩
  have ne_a_b5 : a ≠ b5 := Nat.ne_of_lt (Nat.lt_of_lt_of_le F_b.lt (Nat.le_of_eq g5.symm))
  have ne_pt_b5 : pt ≠ b5 := Nat.ne_of_lt (Nat.lt_of_lt_of_le P_sz.lt (Nat.le_of_eq g5.symm))
  have ne_ls_b5 : ls ≠ b5 := Nat.ne_of_lt (Nat.lt_of_lt_of_le L_sz.lt (Nat.le_of_eq g5.symm))
  have g_b5 : n0 ≤ b5 := Nat.le_trans Z0 (Nat.le_of_eq g5.symm)
  have sz_b5 : h0.size ≤ b5 := Nat.le_trans K0.1 (Nat.le_of_eq g5.symm)
  rw [← g5] at A5 st5
  refine own_st st5 ?_
  have F_b'5 := F_b.ext E5
  have F_d'5 := F_d.ext E5
  have F_l'5 := F_l.ext E5
  have E_a'5 := E_a.ext E5
  have P_sz'5 := P_sz.ext E5
  have E_p'5 := E_p.ext E5
  have L_sz'5 := L_sz.ext E5
  have L_mc'5 := L_mc.ext E5
  have E_l'5 := E_l.ext E5
  have K0'5 := K0.ext E5
  have Z5 : n0 ≤ h5.size := Nat.le_trans Z0 E5.1
  have OA5 : own_O Z h5 b5 "java/math/BigInteger" (0 : Int32) := ⟨_, A5, sz_new _ _ _, (by decide), O5⟩
  show own_Fin p.tables e below _ (T5.setTop (mkF m 72 #[.val (.ref a), .val (.ref pt), .unset, .unset, .unset, .unset] [(.ref b5)]))
  refine own_st (fun t k => XS.astoreN X5.here hx rfl (hb hby d15_72) rfl rfl (l' := #[.val (.ref a), .val (.ref pt), .unset, .val (.ref b5), .unset, .unset]) rfl k) ?_
  show own_Fin p.tables e below _ (T5.setTop (mkF m 73 #[.val (.ref a), .val (.ref pt), .unset, .val (.ref b5), .unset, .unset] []))
  refine own_st (fun t k => XS.iconst X5.here hx rfl (hb hby d15_73) k) ?_
  show own_Fin p.tables e below _ (T5.setTop (mkF m 74 #[.val (.ref a), .val (.ref pt), .unset, .val (.ref b5), .unset, .unset] [(.int (0 : Int32))]))
  refine own_st (fun t k => XS.istore X5.here hx rfl (hb hby d15_74) rfl (l' := #[.val (.ref a), .val (.ref pt), .unset, .val (.ref b5), .val (.int (0 : Int32)), .unset]) rfl k) ?_
  show own_Fin p.tables e below _ (T5.setTop (mkF m 76 #[.val (.ref a), .val (.ref pt), .unset, .val (.ref b5), .val (.int (0 : Int32)), .unset] []))
  refine own_st (fun t k => XS.iload X5.here hx rfl (hb hby d15_76) rfl k) ?_
  show own_Fin p.tables e below _ (T5.setTop (mkF m 78 #[.val (.ref a), .val (.ref pt), .unset, .val (.ref b5), .val (.int (0 : Int32)), .unset] [(.int (0 : Int32))]))
  refine own_st (fun t k => XS.aloadN X5.here hx rfl (hb hby d15_78) rfl rfl k) ?_
  show own_Fin p.tables e below _ (T5.setTop (mkF m 79 #[.val (.ref a), .val (.ref pt), .unset, .val (.ref b5), .val (.int (0 : Int32)), .unset] [(.ref a), (.int (0 : Int32))]))
  obtain ⟨T6, X6, e6, st6⟩ := getF X5 hx hZ hown (host := "") (Or.inl (hw _ (List.mem_of_getElem? (i := 35) rfl))) Via.refl e5 F_d'5 (g := (mkF m 79 #[.val (.ref a), .val (.ref pt), .unset, .val (.ref b5), .val (.int (0 : Int32)), .unset] [(.ref a), (.int (0 : Int32))])) rfl rfl (hb hby d15_79)
  refine own_st st6 ?_
  show own_Fin p.tables e below _ (T6.setTop (mkF m 82 #[.val (.ref a), .val (.ref pt), .unset, .val (.ref b5), .val (.int (0 : Int32)), .unset] [(.int (0 : Int32)), (.int (0 : Int32))]))
  refine own_st (fun t k => XS.icmpYes X6.here hx rfl (pc0 := 82) (pc' := 116) rfl (hb hby d15_82) rfl (XT.ii_ge_t (by decide)) (by decide) (by decide) k) ?_
  show own_Fin p.tables e below _ (T6.setTop (mkF m 116 #[.val (.ref a), .val (.ref pt), .unset, .val (.ref b5), .val (.int (0 : Int32)), .unset] []))
  refine own_st (fun t k => XS.aloadN X6.here hx rfl (hb hby d15_116) rfl rfl k) ?_
  show own_Fin p.tables e below _ (T6.setTop (mkF m 117 #[.val (.ref a), .val (.ref pt), .unset, .val (.ref b5), .val (.int (0 : Int32)), .unset] [(.ref a)]))
  obtain ⟨T7, X7, e7, st7⟩ := getF X6 hx hZ hown (host := "") (Or.inl (hw _ (List.mem_of_getElem? (i := 33) rfl))) Via.refl e6 F_l'5 (g := (mkF m 117 #[.val (.ref a), .val (.ref pt), .unset, .val (.ref b5), .val (.int (0 : Int32)), .unset] [(.ref a)])) rfl rfl (hb hby d15_117)
  refine own_st st7 ?_
  show own_Fin p.tables e below _ (T7.setTop (mkF m 120 #[.val (.ref a), .val (.ref pt), .unset, .val (.ref b5), .val (.int (0 : Int32)), .unset] [(.ref ls)]))
  obtain ⟨cq8, kq8, qa8, qb8, qc8⟩ := isOf hZ e7 E_l'5
  obtain ⟨_, _, ⟨T8, L8, k8, n8⟩, -, X8, ⟨Lc8, hQ8, l8, y8, z8⟩, st8⟩ := X7.interfaceBack hx (xi := (⟨"java/util/List", "iterator", "()Ljava/util/Iterator;"⟩ : MethodName)) (y := (⟨"java/util/ArrayList", "iterator", "()Ljava/util/Iterator;"⟩ : MethodName)) hown (mvT hZ (hw _ (List.mem_of_getElem? (i := 126) rfl))) (mvT hZ (hw _ (List.mem_of_getElem? (i := 127) rfl))) (mvT hZ (hw _ (List.mem_of_getElem? (i := 128) rfl))) (mvT hZ (hw _ (List.mem_of_getElem? (i := 129) rfl))) (mvT hZ (hw _ (List.mem_of_getElem? (i := 130) rfl))) (mvT hZ (hw _ (List.mem_of_getElem? (i := 131) rfl))) (mvT hZ (hw _ (List.mem_of_getElem? (i := 132) rfl))) (mvT hZ (hw _ (List.mem_of_getElem? (i := 69) rfl))) (by decide) (backOf (W := 0) (rm18 l Z a0 hw [] ls mc h5 n0 Z5 L_mc'5 E_l'5) hZ (hw _ (List.mem_of_getElem? (i := 133) rfl)) (hw _ (List.mem_of_getElem? (i := 11) rfl)) (by decide) (by decide)) qa8 qb8 qc8 (g := (mkF m 120 #[.val (.ref a), .val (.ref pt), .unset, .val (.ref b5), .val (.int (0 : Int32)), .unset] [(.ref ls)])) rfl (by rw [hml]; rfl) (Steps.refl _) (argsL := []) (rest := []) (lenOf pd___Ljava_util_Iterator_ rfl) rfl (by show 2 * 0 + _ ≤ _; exact Nat.le_of_eq rfl) (hb hby d15_120) (fun _ _ => ⟨rfl, e7, (by decide : 1 + 1 ≤ _), (by decide : 0 + 4 ≤ _)⟩)
  dsimp only [Pt.U, Pt.locs, Pt.cells, Pt.slots] at X8 l8 y8 z8 st8 hQ8
  subst l8 y8 z8
  obtain ⟨it, rfl, N8, K8, Ei8, Ft8, Fc8⟩ := hQ8
  refine own_st (fun t k => st8.trans k) ?_
  have F_b'8 := F_b'5.keep K8 nin0
  have F_d'8 := F_d'5.keep K8 nin0
  have F_l'8 := F_l'5.keep K8 nin0
  have E_a'8 := E_a'5.keep K8
  have P_sz'8 := P_sz'5.keep K8 nin0
  have E_p'8 := E_p'5.keep K8
  have L_sz'8 := L_sz'5.keep K8 nin0
  have L_mc'8 := L_mc'5.keep K8 nin0
  have E_l'8 := E_l'5.keep K8
  have K0'8 := K0'5.trans K8 all0
  have OA5'8 := OA5.keep K8
  have Z8 : n0 ≤ T8.heap.size := Nat.le_trans Z5 K8.1
  have N8a := Fr.app N1a N8
  show own_Fin p.tables e below _ (T8.setTop (mkF m 125 #[.val (.ref a), .val (.ref pt), .unset, .val (.ref b5), .val (.int (0 : Int32)), .unset] [(.ref it)]))
  refine own_st (fun t k => XS.astore X8.here hx rfl (hb hby d15_125) rfl rfl (l' := #[.val (.ref a), .val (.ref pt), .unset, .val (.ref b5), .val (.ref it), .unset]) rfl k) ?_
  show own_Fin p.tables e below _ (T8.setTop (mkF m 127 #[.val (.ref a), .val (.ref pt), .unset, .val (.ref b5), .val (.ref it), .unset] []))
  refine own_st (fun t k => XS.aload X8.here hx rfl (hb hby d15_127) rfl rfl k) ?_
  show own_Fin p.tables e below _ (T8.setTop (mkF m 129 #[.val (.ref a), .val (.ref pt), .unset, .val (.ref b5), .val (.ref it), .unset] [(.ref it)]))
  obtain ⟨cq9, kq9, qa9, qb9, qc9⟩ := isOf hZ rfl Ei8
  obtain ⟨_, _, ⟨T9, L9, k9, n9⟩, -, X9, ⟨Lc9, hQ9, l9, y9, z9⟩, st9⟩ := X8.interfaceBack hx (xi := (⟨"java/util/Iterator", "hasNext", "()Z"⟩ : MethodName)) (y := (⟨"java/util/ArrayList$Itr", "hasNext", "()Z"⟩ : MethodName)) hown (mvT hZ (hw _ (List.mem_of_getElem? (i := 149) rfl))) (mvT hZ (hw _ (List.mem_of_getElem? (i := 150) rfl))) (mvT hZ (hw _ (List.mem_of_getElem? (i := 151) rfl))) (mvT hZ (hw _ (List.mem_of_getElem? (i := 152) rfl))) (mvT hZ (hw _ (List.mem_of_getElem? (i := 153) rfl))) (mvT hZ (hw _ (List.mem_of_getElem? (i := 154) rfl))) (mvT hZ (hw _ (List.mem_of_getElem? (i := 155) rfl))) (mvT hZ (hw _ (List.mem_of_getElem? (i := 156) rfl))) (by decide) (backOf (W := 0) (rm20 l Z a0 hw [] it ls T8.heap n0 Z8 Ft8 Fc8 L_sz'8) hZ (hw _ (List.mem_of_getElem? (i := 157) rfl)) (hw _ (List.mem_of_getElem? (i := 136) rfl)) (by decide) (by decide)) qa9 qb9 qc9 (g := (mkF m 129 #[.val (.ref a), .val (.ref pt), .unset, .val (.ref b5), .val (.ref it), .unset] [(.ref it)])) rfl (by rw [hml]; rfl) (Steps.refl _) (argsL := []) (rest := []) (lenOf pd___Z rfl) rfl (by show 2 * 0 + _ ≤ _; exact Nat.le_of_eq rfl) (hb hby d15_129) (fun _ _ => ⟨rfl, rfl, (by decide : 2 + 0 ≤ _), (by decide : 4 + 0 ≤ _)⟩)
  dsimp only [Pt.U, Pt.locs, Pt.cells, Pt.slots] at X9 l9 y9 z9 st9 hQ9
  subst l9 y9 z9
  obtain ⟨rfl, N9, q9⟩ := hQ9
  refine own_st (fun t k => st9.trans k) ?_
  have N9a := Fr.app N8a N9
  show own_Fin p.tables e below _ (T9.setTop (mkF m 134 #[.val (.ref a), .val (.ref pt), .unset, .val (.ref b5), .val (.ref it), .unset] [(.int (0 : Int32))]))
  refine own_st (fun t k => XS.ifYes X9.here hx rfl (pc0 := 134) (pc' := 164) rfl (hb hby d15_134) rfl (XT.i0_eq_t (by decide)) (by decide) (by decide) k) ?_
  show own_Fin p.tables e below _ (T9.setTop (mkF m 164 #[.val (.ref a), .val (.ref pt), .unset, .val (.ref b5), .val (.ref it), .unset] []))
  refine own_st (fun t k => XS.aloadN X9.here hx rfl (hb hby d15_164) rfl rfl k) ?_
  show own_Fin p.tables e below _ (T9.setTop (mkF m 165 #[.val (.ref a), .val (.ref pt), .unset, .val (.ref b5), .val (.ref it), .unset] [(.ref b5)]))
  obtain ⟨_, _, ⟨T10, L10, k10, n10⟩, -, X10, ⟨Lc10, hQ10, l10, y10, z10⟩, st10⟩ := Jvm.LawKit.callS X9 hx (y := (⟨"com/example/condense/condense/analysis/AffineHull", "pivot", "([Ljava/math/BigInteger;)I"⟩ : MethodName)) hown (mvT hZ (hw _ (List.mem_of_getElem? (i := 161) rfl))) (mvT hZ (hw _ (List.mem_of_getElem? (i := 162) rfl))) (mvT hZ (hw _ (List.mem_of_getElem? (i := 2) rfl))) (mvT hZ (hw _ (List.mem_of_getElem? (i := 163) rfl))) (by decide) (backOf (W := 0) (rm21 l Z a0 hw [] b5 T8.heap n0 Z8 OA5'8) hZ (hw _ (List.mem_of_getElem? (i := 163) rfl)) (hw _ (List.mem_of_getElem? (i := 2) rfl)) (by decide) (by decide)) (g := (mkF m 165 #[.val (.ref a), .val (.ref pt), .unset, .val (.ref b5), .val (.ref it), .unset] [(.ref b5)])) rfl (by rw [hml]; rfl) (argsL := [(.ref b5)]) (rest := []) (lenOf pd___Ljava_math_BigInteger__I rfl) rfl (by show 2 * 0 + _ ≤ _; exact Nat.le_of_eq rfl) (hb hby d15_165) (fun _ _ => ⟨rfl, q9, (by decide : 2 + 0 ≤ _), (by decide : 4 + 0 ≤ _)⟩)
  dsimp only [Pt.U, Pt.locs, Pt.cells, Pt.slots] at X10 l10 y10 z10 st10 hQ10
  subst l10 y10 z10
  obtain ⟨rfl, N10, q10⟩ := hQ10
  refine own_st (st10) ?_
  have N10a := Fr.app N9a N10
  show own_Fin p.tables e below _ (T10.setTop (mkF m 168 #[.val (.ref a), .val (.ref pt), .unset, .val (.ref b5), .val (.ref it), .unset] [(.int (-1 : Int32))]))
  refine own_st (fun t k => XS.ifYes X10.here hx rfl (pc0 := 168) (pc' := 175) rfl (hb hby d15_168) rfl (XT.i0_lt_t (by decide)) (by decide) (by decide) k) ?_
  show own_Fin p.tables e below _ (T10.setTop (mkF m 175 #[.val (.ref a), .val (.ref pt), .unset, .val (.ref b5), .val (.ref it), .unset] []))
  refine own_st (fun t k => XS.iconst X10.here hx rfl (hb hby d15_175) k) ?_
  show own_Fin p.tables e below _ (T10.setTop (mkF m 176 #[.val (.ref a), .val (.ref pt), .unset, .val (.ref b5), .val (.ref it), .unset] [(.int (0 : Int32))]))
  refine own_st (fun t k => XS.istoreN X10.here hx rfl (hb hby d15_176) rfl (l' := #[.val (.ref a), .val (.ref pt), .val (.int (0 : Int32)), .val (.ref b5), .val (.ref it), .unset]) rfl k) ?_
  show own_Fin p.tables e below _ (T10.setTop (mkF m 177 #[.val (.ref a), .val (.ref pt), .val (.int (0 : Int32)), .val (.ref b5), .val (.ref it), .unset] []))
  refine own_st (fun t k => XS.iloadN X10.here hx rfl (hb hby d15_177) rfl k) ?_
  show own_Fin p.tables e below _ (T10.setTop (mkF m 178 #[.val (.ref a), .val (.ref pt), .val (.int (0 : Int32)), .val (.ref b5), .val (.ref it), .unset] [(.int (0 : Int32))]))
  refine own_st (fun t k => XS.ifYes X10.here hx rfl (pc0 := 178) (pc' := 189) rfl (hb hby d15_178) rfl (XT.i0_eq_t (by decide)) (by decide) (by decide) k) ?_
  show own_Fin p.tables e below _ (T10.setTop (mkF m 189 #[.val (.ref a), .val (.ref pt), .val (.int (0 : Int32)), .val (.ref b5), .val (.ref it), .unset] []))
  refine own_st (fun t k => XS.iloadN X10.here hx rfl (hb hby d15_189) rfl k) ?_
  show own_Fin p.tables e below _ (T10.setTop (mkF m 190 #[.val (.ref a), .val (.ref pt), .val (.int (0 : Int32)), .val (.ref b5), .val (.ref it), .unset] [(.int (0 : Int32))]))
  obtain ⟨fs, hr, hrun, hended, hW, hsame⟩ := X10.leave (v := (some (.int (0 : Int32)))) (fun h => by rw [Bd.returns] at h; cases h)
  refine ⟨_, _, retN X10 hx (t := .boolean) Bd.returns (by simp) (hb hby d15_190) hr, hrun, hended, _, _, rfl, ?_, ⟨_, rfl⟩, hW, hsame.mono (by decide) (by decide)⟩
  show QH2 Z a ls pt bs mc h0 n0 _ T10.heap _
  rw [q10]
  exact ⟨rfl, N10a, K0'8⟩
def Q0 (Z : State) (i0 : Int32) (i1 : Int32) (aE : Addr) (kE : ClassId) (aZ : Addr) (aO : Addr) (h0 : Heap) (n0 : Nat) (v : Option Value) (h : Heap) (L : List Loc) : Prop := v = some (.int 1) ∧ Fr n0 L
set_option maxRecDepth 65536 in
set_option maxHeartbeats 40000000 in
theorem rm0 (l : Launch) (Z : State) (a0 : Array Value) (hw : ∀ d ∈ tables_1, d.before a0 Z = true) (ws : List Jvm.Cond) (i0 : Int32) (i1 : Int32) (aE : Addr) (kE : ClassId) (aZ : Addr) (aO : Addr) (h0 : Heap) (n0 : Nat) (Z0 : n0 ≤ h0.size) (O0 : Old Z n0 h0) (S_D : Sta Z Z.heap "java/util/ArrayList" "DEFAULTCAPACITY_EMPTY_ELEMENTDATA" "[Ljava/lang/Object;" (.ref aE)) (V_E : Arv Z Z.heap aE kE (.object "java/lang/Object") 0 [] .null) (S_Z : Sta Z Z.heap "java/math/BigInteger" "ZERO" "Ljava/math/BigInteger;" (.ref aZ)) (E_Z : Exa Z Z.heap aZ "java/math/BigInteger") (S_O : Sta Z Z.heap "java/math/BigInteger" "ONE" "Ljava/math/BigInteger;" (.ref aO)) (E_O : Exa Z Z.heap aO "java/math/BigInteger") :
    MetFree l x (head1 (Jvm.Cond.code x code maxLocals ret :: ws) room_1) (fun xs U => xs = #[(.int i0), (.int i1)] ∧ Z.Warmed39 U.vm ∧ U.heap = h0) (fun _ _ _ _ _ => True) (fun _ U o U' => ∃ v L, o = .returned v ∧ Q0 Z i0 i1 aE kE aZ aO h0 n0 v U'.heap L ∧ FrameEnd U o U' L room_1.cells room_1.slots) := by
  refine MetFree.of_bodySF (plainFor_of_name pn_com_example_condense_condense_analysis_AffineHullIsEmptyPinLaw) hisR ?_
  intro p e s m args below meth c s₁ Bd hml0 hP hK
  obtain ⟨rfl, hZ, hh⟩ := hP
  have hx := Bd.exec
  have hby := Bd.bytes
  have hml : c.maxLocals = 14 := hml0
  have hown : s.vm.findClass "com/example/condense/condense/analysis/AffineHullIsEmptyPinLaw" = some m.cls := findClass_of_methodNamed Bd.named
  have hnm := (name_of_methodNamed Bd.named Bd.method).1
  have X0 : Stand p l e room_1 s m #[(.int i0), (.int i1)] below meth c s₁ [] 0 0 := Stand.of_body Bd
  have e0 : s₁.heap = h0 := by rw [← hh, Bd.state]; rfl
  have N0 := Fr.nil n0
  change own_Fin p.tables e below (fun s₂ o => ∃ v L, o = .returned v ∧ Q0 Z i0 i1 aE kE aZ aO h0 n0 v s₂.heap L ∧ FrameEnd s o s₂ L room_1.cells room_1.slots) (s₁.setTop (entryFrame m #[(.int i0), (.int i1)] maxLocals))
  refine own_st (fun t k => castTop (show entryFrame m #[(.int i0), (.int i1)] maxLocals = mkF m 0 #[.val (.int i0), .val (.int i1), .unset, .unset, .unset, .unset, .unset, .unset, .unset, .unset, .unset, .unset, .unset, .unset] [] by first | (simp [entryFrame, mkF, argsToLocals, Value.category, maxLocals]; done) | rfl) k) ?_
  show own_Fin p.tables e below _ (s₁.setTop (mkF m 0 #[.val (.int i0), .val (.int i1), .unset, .unset, .unset, .unset, .unset, .unset, .unset, .unset, .unset, .unset, .unset, .unset] []))
  obtain ⟨T1, h1, X1, e1, E1, A1, D1, U1, st1⟩ := newO X0 hx hZ hown (hw _ (List.mem_of_getElem? (i := 0) rfl)) (hw _ (List.mem_of_getElem? (i := 1) rfl)) (hw _ (List.mem_of_getElem? (i := 2) rfl)) e0 (g := (mkF m 0 #[.val (.int i0), .val (.int i1), .unset, .unset, .unset, .unset, .unset, .unset, .unset, .unset, .unset, .unset, .unset, .unset] [])) rfl (hb hby at_0) (by decide) (by decide)
  obtain ⟨b1, g1⟩ : ∃ z, z = h0.size := ⟨_, rfl⟩
  have g_b1 : n0 ≤ b1 := Nat.le_trans Z0 (Nat.le_of_eq g1.symm)
  rw [← g1] at A1 D1 U1 st1
  refine own_st st1 ?_
  have O0'1 := O0.ext E1
  have Z1 : n0 ≤ h1.size := Nat.le_trans Z0 E1.1
  have F_directions_b1 : Fld Z h1 b1 "com/example/condense/condense/analysis/AffineHull" "directions" "Ljava/util/List;" .null := D1 (Or.inr (hw _ (List.mem_of_getElem? (i := 34) rfl))) (ty := (.object "java/util/List")) (by decide)
  have F_dimension_b1 : Fld Z h1 b1 "com/example/condense/condense/analysis/AffineHull" "dimension" "I" (.int (0 : Int32)) := D1 (Or.inr (hw _ (List.mem_of_getElem? (i := 36) rfl))) (ty := .int) (by decide)
  have F_base_b1 : Fld Z h1 b1 "com/example/condense/condense/analysis/AffineHull" "base" "[Ljava/math/BigInteger;" .null := D1 (Or.inl (hw _ (List.mem_of_getElem? (i := 43) rfl))) (ty := (.array (.object "java/math/BigInteger"))) (by decide)
  show own_Fin p.tables e below _ (T1.setTop (mkF m 3 #[.val (.int i0), .val (.int i1), .unset, .unset, .unset, .unset, .unset, .unset, .unset, .unset, .unset, .unset, .unset, .unset] [(.ref b1)]))
  refine own_st (fun t k => XS.dup X1.here hx rfl (hb hby at_3) rfl rfl k) ?_
  show own_Fin p.tables e below _ (T1.setTop (mkF m 4 #[.val (.int i0), .val (.int i1), .unset, .unset, .unset, .unset, .unset, .unset, .unset, .unset, .unset, .unset, .unset, .unset] [(.ref b1), (.ref b1)]))
  refine own_st (fun t k => XS.iloadN X1.here hx rfl (hb hby at_4) rfl k) ?_
  show own_Fin p.tables e below _ (T1.setTop (mkF m 5 #[.val (.int i0), .val (.int i1), .unset, .unset, .unset, .unset, .unset, .unset, .unset, .unset, .unset, .unset, .unset, .unset] [(.int i0), (.ref b1), (.ref b1)]))
  obtain ⟨_, _, ⟨T2, L2, k2, n2⟩, -, X2, ⟨Lc2, hQ2, l2, y2, z2⟩, st2⟩ := X1.specialBack hx (y := (⟨"com/example/condense/condense/analysis/AffineHull", "<init>", "(I)V"⟩ : MethodName)) rfl hown (mvT hZ (hw _ (List.mem_of_getElem? (i := 3) rfl))) (mvT hZ (hw _ (List.mem_of_getElem? (i := 4) rfl))) (mvT hZ (hw _ (List.mem_of_getElem? (i := 5) rfl))) (by decide) (backOf (W := 1) (rm1 l Z a0 hw [] b1 i0 aE h1 n0 Z1 F_base_b1 F_dimension_b1 F_directions_b1 A1 g_b1 O0'1 S_D) hZ (hw _ (List.mem_of_getElem? (i := 5) rfl)) (hw _ (List.mem_of_getElem? (i := 2) rfl)) (by decide) (by decide)) (g := (mkF m 5 #[.val (.int i0), .val (.int i1), .unset, .unset, .unset, .unset, .unset, .unset, .unset, .unset, .unset, .unset, .unset, .unset] [(.int i0), (.ref b1), (.ref b1)])) rfl (by rw [hml]; rfl) (Steps.refl _) (a := b1) (argsL := [(.int i0)]) (rest := [(.ref b1)]) (lenOf pd__I_V rfl) rfl (by show 2 * 0 + _ ≤ _; exact Nat.le_of_eq rfl) (hb hby at_5) (fun _ _ => ⟨rfl, e1, (by decide : 1 + 1 ≤ _), (by decide : 3 + 3 ≤ _)⟩)
  dsimp only [Pt.U, Pt.locs, Pt.cells, Pt.slots] at X2 l2 y2 z2 st2 hQ2
  subst l2 y2 z2
  obtain ⟨rfl, N2, K2, ls2, Fb2, Fd2, Fl2, Fe2, Fs2, Fm2, Els2, g_ls2⟩ := hQ2
  refine own_st (fun t k => st2.trans k) ?_
  have O0'2 := O0'1.keep K2 (allS g_b1 all0)
  have A1'2 := A1.keep K2
  have Z2 : n0 ≤ T2.heap.size := Nat.le_trans Z1 K2.1
  have N2a := Fr.app N0 N2
  show own_Fin p.tables e below _ (T2.setTop (mkF m 8 #[.val (.int i0), .val (.int i1), .unset, .unset, .unset, .unset, .unset, .unset, .unset, .unset, .unset, .unset, .unset, .unset] [(.ref b1)]))
  refine own_st (fun t k => XS.astoreN X2.here hx rfl (hb hby at_8) rfl rfl (l' := #[.val (.int i0), .val (.int i1), .val (.ref b1), .unset, .unset, .unset, .unset, .unset, .unset, .unset, .unset, .unset, .unset, .unset]) rfl k) ?_
  show own_Fin p.tables e below _ (T2.setTop (mkF m 9 #[.val (.int i0), .val (.int i1), .val (.ref b1), .unset, .unset, .unset, .unset, .unset, .unset, .unset, .unset, .unset, .unset, .unset] []))
  refine own_st (fun t k => XS.aloadN X2.here hx rfl (hb hby at_9) rfl rfl k) ?_
  show own_Fin p.tables e below _ (T2.setTop (mkF m 10 #[.val (.int i0), .val (.int i1), .val (.ref b1), .unset, .unset, .unset, .unset, .unset, .unset, .unset, .unset, .unset, .unset, .unset] [(.ref b1)]))
  obtain ⟨cq3, kq3, qa3, qb3, qc3⟩ := isOf hZ rfl A1'2
  obtain ⟨_, _, ⟨T3, L3, k3, n3⟩, -, X3, ⟨Lc3, hQ3, l3, y3, z3⟩, st3⟩ := X2.virtualBack hx (y := (⟨"com/example/condense/condense/analysis/AffineHull", "isEmpty", "()Z"⟩ : MethodName)) (z := (⟨"com/example/condense/condense/analysis/AffineHull", "isEmpty", "()Z"⟩ : MethodName)) hown (mvT hZ (hw _ (List.mem_of_getElem? (i := 37) rfl))) (mvT hZ (hw _ (List.mem_of_getElem? (i := 38) rfl))) (notFace_of_selects (args := #[]) (mvT hZ (hw _ (List.mem_of_getElem? (i := 40) rfl)))) (mvT hZ (hw _ (List.mem_of_getElem? (i := 40) rfl))) (mvT hZ (hw _ (List.mem_of_getElem? (i := 39) rfl))) (by decide) (backOf (W := 0) (rmE0 l Z a0 hw [] b1 0 T2.heap n0 Z2 Fb2) hZ (hw _ (List.mem_of_getElem? (i := 41) rfl)) (hw _ (List.mem_of_getElem? (i := 2) rfl)) (by decide) (by decide)) qa3 qc3 (g := (mkF m 10 #[.val (.int i0), .val (.int i1), .val (.ref b1), .unset, .unset, .unset, .unset, .unset, .unset, .unset, .unset, .unset, .unset, .unset] [(.ref b1)])) rfl (by rw [hml]; rfl) (Steps.refl _) (argsL := []) (rest := []) (lenOf pd___Z rfl) rfl (by show 2 * 0 + _ ≤ _; exact Nat.le_of_eq rfl) (hb hby at_10) (fun _ _ => ⟨rfl, rfl, (by decide : 2 + 0 ≤ _), (by decide : 6 + 0 ≤ _)⟩)
  dsimp only [Pt.U, Pt.locs, Pt.cells, Pt.slots] at X3 l3 y3 z3 st3 hQ3
  subst l3 y3 z3
  obtain ⟨rfl, N3, q3⟩ := hQ3
  refine own_st (fun t k => st3.trans k) ?_
  have N3a := Fr.app N2a N3
  show own_Fin p.tables e below _ (T3.setTop (mkF m 13 #[.val (.int i0), .val (.int i1), .val (.ref b1), .unset, .unset, .unset, .unset, .unset, .unset, .unset, .unset, .unset, .unset, .unset] [(.int (1 : Int32))]))
  refine own_st (fun t k => XS.istoreN X3.here hx rfl (hb hby at_13) rfl (l' := #[.val (.int i0), .val (.int i1), .val (.ref b1), .val (.int (1 : Int32)), .unset, .unset, .unset, .unset, .unset, .unset, .unset, .unset, .unset, .unset]) rfl k) ?_
  show own_Fin p.tables e below _ (T3.setTop (mkF m 14 #[.val (.int i0), .val (.int i1), .val (.ref b1), .val (.int (1 : Int32)), .unset, .unset, .unset, .unset, .unset, .unset, .unset, .unset, .unset, .unset] []))
  refine own_st (fun t k => XS.iloadN X3.here hx rfl (hb hby at_14) rfl k) ?_
  show own_Fin p.tables e below _ (T3.setTop (mkF m 15 #[.val (.int i0), .val (.int i1), .val (.ref b1), .val (.int (1 : Int32)), .unset, .unset, .unset, .unset, .unset, .unset, .unset, .unset, .unset, .unset] [(.int i1)]))
  refine own_st (fun t k => XS.bipush X3.here hx rfl (hb hby at_15) k) ?_
  show own_Fin p.tables e below _ (T3.setTop (mkF m 17 #[.val (.int i0), .val (.int i1), .val (.ref b1), .val (.int (1 : Int32)), .unset, .unset, .unset, .unset, .unset, .unset, .unset, .unset, .unset, .unset] [(.int (7 : Int32)), (.int i1)]))
  refine own_st (fun t k => XS.iand X3.here hx rfl (hb hby at_17) rfl k) ?_
  show own_Fin p.tables e below _ (T3.setTop (mkF m 18 #[.val (.int i0), .val (.int i1), .val (.ref b1), .val (.int (1 : Int32)), .unset, .unset, .unset, .unset, .unset, .unset, .unset, .unset, .unset, .unset] [(.int (i1 &&& (7 : Int32)))]))
  refine own_st (fun t k => XS.istore X3.here hx rfl (hb hby at_18) rfl (l' := #[.val (.int i0), .val (.int i1), .val (.ref b1), .val (.int (1 : Int32)), .val (.int (i1 &&& (7 : Int32))), .unset, .unset, .unset, .unset, .unset, .unset, .unset, .unset, .unset]) rfl k) ?_
  show own_Fin p.tables e below _ (T3.setTop (mkF m 20 #[.val (.int i0), .val (.int i1), .val (.ref b1), .val (.int (1 : Int32)), .val (.int (i1 &&& (7 : Int32))), .unset, .unset, .unset, .unset, .unset, .unset, .unset, .unset, .unset] []))
  refine own_st (fun t k => XS.iload X3.here hx rfl (hb hby at_20) rfl k) ?_
  show own_Fin p.tables e below _ (T3.setTop (mkF m 22 #[.val (.int i0), .val (.int i1), .val (.ref b1), .val (.int (1 : Int32)), .val (.int (i1 &&& (7 : Int32))), .unset, .unset, .unset, .unset, .unset, .unset, .unset, .unset, .unset] [(.int (i1 &&& (7 : Int32)))]))
  obtain ⟨_, _, ⟨T4, L4, k4, n4⟩, -, X4, ⟨Lc4, hQ4, l4, y4, z4⟩, st4⟩ := Jvm.LawKit.callS X3 hx (y := (⟨"com/example/condense/condense/analysis/AffineHull", "whole", "(I)Lcom/example/condense/condense/analysis/AffineHull;"⟩ : MethodName)) hown (mvT hZ (hw _ (List.mem_of_getElem? (i := 44) rfl))) (mvT hZ (hw _ (List.mem_of_getElem? (i := 45) rfl))) (mvT hZ (hw _ (List.mem_of_getElem? (i := 2) rfl))) (mvT hZ (hw _ (List.mem_of_getElem? (i := 46) rfl))) (by decide) (backOf (W := 0) (rm7 l Z a0 hw [] (i1 &&& (7 : Int32)) aE kE aZ aO T2.heap n0 Z2 (own_w0 i1) (own_w7 i1) O0'2 S_D V_E S_Z E_Z S_O E_O) hZ (hw _ (List.mem_of_getElem? (i := 46) rfl)) (hw _ (List.mem_of_getElem? (i := 2) rfl)) (by decide) (by decide)) (g := (mkF m 22 #[.val (.int i0), .val (.int i1), .val (.ref b1), .val (.int (1 : Int32)), .val (.int (i1 &&& (7 : Int32))), .unset, .unset, .unset, .unset, .unset, .unset, .unset, .unset, .unset] [(.int (i1 &&& (7 : Int32)))])) rfl (by rw [hml]; rfl) (argsL := [(.int (i1 &&& (7 : Int32)))]) (rest := []) (lenOf pd__I_Lcom_example_condense_condense_analysis_AffineHull_ rfl) rfl (by show 2 * 0 + _ ≤ _; exact Nat.le_of_eq rfl) (hb hby at_22) (fun _ _ => ⟨rfl, q3, (by decide : 2 + 17 ≤ _), (by decide : 6 + 132 ≤ _)⟩)
  dsimp only [Pt.U, Pt.locs, Pt.cells, Pt.slots] at X4 l4 y4 z4 st4 hQ4
  subst l4 y4 z4
  obtain ⟨r, rfl, N4, O4, Er4, bs, Fbr4⟩ := hQ4
  refine own_st (st4) ?_
  have Z4 : n0 ≤ T4.heap.size := O4.1 ▸ O4.2.1
  have N4a := Fr.app N3a N4
  show own_Fin p.tables e below _ (T4.setTop (mkF m 25 #[.val (.int i0), .val (.int i1), .val (.ref b1), .val (.int (1 : Int32)), .val (.int (i1 &&& (7 : Int32))), .unset, .unset, .unset, .unset, .unset, .unset, .unset, .unset, .unset] [(.ref r)]))
  refine own_st (fun t k => XS.astore X4.here hx rfl (hb hby at_25) rfl rfl (l' := #[.val (.int i0), .val (.int i1), .val (.ref b1), .val (.int (1 : Int32)), .val (.int (i1 &&& (7 : Int32))), .val (.ref r), .unset, .unset, .unset, .unset, .unset, .unset, .unset, .unset]) rfl k) ?_
  show own_Fin p.tables e below _ (T4.setTop (mkF m 27 #[.val (.int i0), .val (.int i1), .val (.ref b1), .val (.int (1 : Int32)), .val (.int (i1 &&& (7 : Int32))), .val (.ref r), .unset, .unset, .unset, .unset, .unset, .unset, .unset, .unset] []))
  refine own_st (fun t k => XS.aload X4.here hx rfl (hb hby at_27) rfl rfl k) ?_
  show own_Fin p.tables e below _ (T4.setTop (mkF m 29 #[.val (.int i0), .val (.int i1), .val (.ref b1), .val (.int (1 : Int32)), .val (.int (i1 &&& (7 : Int32))), .val (.ref r), .unset, .unset, .unset, .unset, .unset, .unset, .unset, .unset] [(.ref r)]))
  obtain ⟨cq5, kq5, qa5, qb5, qc5⟩ := isOf hZ rfl Er4
  obtain ⟨_, _, ⟨T5, L5, k5, n5⟩, -, X5, ⟨Lc5, hQ5, l5, y5, z5⟩, st5⟩ := X4.virtualBack hx (y := (⟨"com/example/condense/condense/analysis/AffineHull", "isEmpty", "()Z"⟩ : MethodName)) (z := (⟨"com/example/condense/condense/analysis/AffineHull", "isEmpty", "()Z"⟩ : MethodName)) hown (mvT hZ (hw _ (List.mem_of_getElem? (i := 37) rfl))) (mvT hZ (hw _ (List.mem_of_getElem? (i := 38) rfl))) (notFace_of_selects (args := #[]) (mvT hZ (hw _ (List.mem_of_getElem? (i := 40) rfl)))) (mvT hZ (hw _ (List.mem_of_getElem? (i := 40) rfl))) (mvT hZ (hw _ (List.mem_of_getElem? (i := 39) rfl))) (by decide) (backOf (W := 0) (rmE1 l Z a0 hw [] r bs T4.heap n0 Z4 Fbr4) hZ (hw _ (List.mem_of_getElem? (i := 41) rfl)) (hw _ (List.mem_of_getElem? (i := 2) rfl)) (by decide) (by decide)) qa5 qc5 (g := (mkF m 29 #[.val (.int i0), .val (.int i1), .val (.ref b1), .val (.int (1 : Int32)), .val (.int (i1 &&& (7 : Int32))), .val (.ref r), .unset, .unset, .unset, .unset, .unset, .unset, .unset, .unset] [(.ref r)])) rfl (by rw [hml]; rfl) (Steps.refl _) (argsL := []) (rest := []) (lenOf pd___Z rfl) rfl (by show 2 * 0 + _ ≤ _; exact Nat.le_of_eq rfl) (hb hby at_29) (fun _ _ => ⟨rfl, rfl, (by decide : 19 + 0 ≤ _), (by decide : 138 + 0 ≤ _)⟩)
  dsimp only [Pt.U, Pt.locs, Pt.cells, Pt.slots] at X5 l5 y5 z5 st5 hQ5
  subst l5 y5 z5
  obtain ⟨rfl, N5, q5⟩ := hQ5
  refine own_st (fun t k => st5.trans k) ?_
  have N5a := Fr.app N4a N5
  show own_Fin p.tables e below _ (T5.setTop (mkF m 32 #[.val (.int i0), .val (.int i1), .val (.ref b1), .val (.int (1 : Int32)), .val (.int (i1 &&& (7 : Int32))), .val (.ref r), .unset, .unset, .unset, .unset, .unset, .unset, .unset, .unset] [(.int (0 : Int32))]))
  refine own_st (fun t k => XS.ifNo X5.here hx rfl (hb hby at_32) rfl (XT.i0_ne_f (by decide)) k) ?_
  show own_Fin p.tables e below _ (T5.setTop (mkF m 35 #[.val (.int i0), .val (.int i1), .val (.ref b1), .val (.int (1 : Int32)), .val (.int (i1 &&& (7 : Int32))), .val (.ref r), .unset, .unset, .unset, .unset, .unset, .unset, .unset, .unset] []))
  refine own_st (fun t k => XS.iconst X5.here hx rfl (hb hby at_35) k) ?_
  show own_Fin p.tables e below _ (T5.setTop (mkF m 36 #[.val (.int i0), .val (.int i1), .val (.ref b1), .val (.int (1 : Int32)), .val (.int (i1 &&& (7 : Int32))), .val (.ref r), .unset, .unset, .unset, .unset, .unset, .unset, .unset, .unset] [(.int (1 : Int32))]))
  refine own_st (fun t k => XS.goto X5.here hx rfl (pc0 := 36) (pc' := 40) rfl (hb hby at_36) (by decide) (by decide) k) ?_
  show own_Fin p.tables e below _ (T5.setTop (mkF m 40 #[.val (.int i0), .val (.int i1), .val (.ref b1), .val (.int (1 : Int32)), .val (.int (i1 &&& (7 : Int32))), .val (.ref r), .unset, .unset, .unset, .unset, .unset, .unset, .unset, .unset] [(.int (1 : Int32))]))
  refine own_st (fun t k => XS.istore X5.here hx rfl (hb hby at_40) rfl (l' := #[.val (.int i0), .val (.int i1), .val (.ref b1), .val (.int (1 : Int32)), .val (.int (i1 &&& (7 : Int32))), .val (.ref r), .val (.int (1 : Int32)), .unset, .unset, .unset, .unset, .unset, .unset, .unset]) rfl k) ?_
  show own_Fin p.tables e below _ (T5.setTop (mkF m 42 #[.val (.int i0), .val (.int i1), .val (.ref b1), .val (.int (1 : Int32)), .val (.int (i1 &&& (7 : Int32))), .val (.ref r), .val (.int (1 : Int32)), .unset, .unset, .unset, .unset, .unset, .unset, .unset] []))
  obtain ⟨T6, h6, X6, e6, E6, A6, D6, U6, st6⟩ := newO X5 hx hZ hown (hw _ (List.mem_of_getElem? (i := 0) rfl)) (hw _ (List.mem_of_getElem? (i := 1) rfl)) (hw _ (List.mem_of_getElem? (i := 2) rfl)) q5 (g := (mkF m 42 #[.val (.int i0), .val (.int i1), .val (.ref b1), .val (.int (1 : Int32)), .val (.int (i1 &&& (7 : Int32))), .val (.ref r), .val (.int (1 : Int32)), .unset, .unset, .unset, .unset, .unset, .unset, .unset] [])) rfl (hb hby at_42) (by decide) (by decide)
  obtain ⟨b6, g6⟩ : ∃ z, z = T4.heap.size := ⟨_, rfl⟩
  have g_b6 : n0 ≤ b6 := Nat.le_trans Z4 (Nat.le_of_eq g6.symm)
  rw [← g6] at A6 D6 U6 st6
  refine own_st st6 ?_
  have O4'6 := O4.ext E6
  have Z6 : n0 ≤ h6.size := Nat.le_trans Z4 E6.1
  have F_directions_b6 : Fld Z h6 b6 "com/example/condense/condense/analysis/AffineHull" "directions" "Ljava/util/List;" .null := D6 (Or.inr (hw _ (List.mem_of_getElem? (i := 34) rfl))) (ty := (.object "java/util/List")) (by decide)
  have F_dimension_b6 : Fld Z h6 b6 "com/example/condense/condense/analysis/AffineHull" "dimension" "I" (.int (0 : Int32)) := D6 (Or.inr (hw _ (List.mem_of_getElem? (i := 36) rfl))) (ty := .int) (by decide)
  have F_base_b6 : Fld Z h6 b6 "com/example/condense/condense/analysis/AffineHull" "base" "[Ljava/math/BigInteger;" .null := D6 (Or.inl (hw _ (List.mem_of_getElem? (i := 43) rfl))) (ty := (.array (.object "java/math/BigInteger"))) (by decide)
  show own_Fin p.tables e below _ (T6.setTop (mkF m 45 #[.val (.int i0), .val (.int i1), .val (.ref b1), .val (.int (1 : Int32)), .val (.int (i1 &&& (7 : Int32))), .val (.ref r), .val (.int (1 : Int32)), .unset, .unset, .unset, .unset, .unset, .unset, .unset] [(.ref b6)]))
  refine own_st (fun t k => XS.dup X6.here hx rfl (hb hby at_45) rfl rfl k) ?_
  show own_Fin p.tables e below _ (T6.setTop (mkF m 46 #[.val (.int i0), .val (.int i1), .val (.ref b1), .val (.int (1 : Int32)), .val (.int (i1 &&& (7 : Int32))), .val (.ref r), .val (.int (1 : Int32)), .unset, .unset, .unset, .unset, .unset, .unset, .unset] [(.ref b6), (.ref b6)]))
  refine own_st (fun t k => XS.iconst X6.here hx rfl (hb hby at_46) k) ?_
  show own_Fin p.tables e below _ (T6.setTop (mkF m 47 #[.val (.int i0), .val (.int i1), .val (.ref b1), .val (.int (1 : Int32)), .val (.int (i1 &&& (7 : Int32))), .val (.ref r), .val (.int (1 : Int32)), .unset, .unset, .unset, .unset, .unset, .unset, .unset] [(.int (0 : Int32)), (.ref b6), (.ref b6)]))
  obtain ⟨_, _, ⟨T7, L7, k7, n7⟩, -, X7, ⟨Lc7, hQ7, l7, y7, z7⟩, st7⟩ := X6.specialBack hx (y := (⟨"com/example/condense/condense/analysis/AffineHull", "<init>", "(I)V"⟩ : MethodName)) rfl hown (mvT hZ (hw _ (List.mem_of_getElem? (i := 3) rfl))) (mvT hZ (hw _ (List.mem_of_getElem? (i := 4) rfl))) (mvT hZ (hw _ (List.mem_of_getElem? (i := 5) rfl))) (by decide) (backOf (W := 1) (rm1 l Z a0 hw [] b6 (0 : Int32) aE h6 n0 Z6 F_base_b6 F_dimension_b6 F_directions_b6 A6 g_b6 O4'6 S_D) hZ (hw _ (List.mem_of_getElem? (i := 5) rfl)) (hw _ (List.mem_of_getElem? (i := 2) rfl)) (by decide) (by decide)) (g := (mkF m 47 #[.val (.int i0), .val (.int i1), .val (.ref b1), .val (.int (1 : Int32)), .val (.int (i1 &&& (7 : Int32))), .val (.ref r), .val (.int (1 : Int32)), .unset, .unset, .unset, .unset, .unset, .unset, .unset] [(.int (0 : Int32)), (.ref b6), (.ref b6)])) rfl (by rw [hml]; rfl) (Steps.refl _) (a := b6) (argsL := [(.int (0 : Int32))]) (rest := [(.ref b6)]) (lenOf pd__I_V rfl) rfl (by show 2 * 0 + _ ≤ _; exact Nat.le_of_eq rfl) (hb hby at_47) (fun _ _ => ⟨rfl, e6, (by decide : 20 + 1 ≤ _), (by decide : 141 + 3 ≤ _)⟩)
  dsimp only [Pt.U, Pt.locs, Pt.cells, Pt.slots] at X7 l7 y7 z7 st7 hQ7
  subst l7 y7 z7
  obtain ⟨rfl, N7, K7, ls7, Fb7, Fd7, Fl7, Fe7, Fs7, Fm7, Els7, g_ls7⟩ := hQ7
  refine own_st (fun t k => st7.trans k) ?_
  have O4'7 := O4'6.keep K7 (allS g_b6 all0)
  have A6'7 := A6.keep K7
  have Z7 : n0 ≤ T7.heap.size := Nat.le_trans Z6 K7.1
  have N7a := Fr.app N5a N7
  show own_Fin p.tables e below _ (T7.setTop (mkF m 50 #[.val (.int i0), .val (.int i1), .val (.ref b1), .val (.int (1 : Int32)), .val (.int (i1 &&& (7 : Int32))), .val (.ref r), .val (.int (1 : Int32)), .unset, .unset, .unset, .unset, .unset, .unset, .unset] [(.ref b6)]))
  refine own_st (fun t k => XS.astore X7.here hx rfl (hb hby at_50) rfl rfl (l' := #[.val (.int i0), .val (.int i1), .val (.ref b1), .val (.int (1 : Int32)), .val (.int (i1 &&& (7 : Int32))), .val (.ref r), .val (.int (1 : Int32)), .val (.ref b6), .unset, .unset, .unset, .unset, .unset, .unset]) rfl k) ?_
  show own_Fin p.tables e below _ (T7.setTop (mkF m 52 #[.val (.int i0), .val (.int i1), .val (.ref b1), .val (.int (1 : Int32)), .val (.int (i1 &&& (7 : Int32))), .val (.ref r), .val (.int (1 : Int32)), .val (.ref b6), .unset, .unset, .unset, .unset, .unset, .unset] []))
  refine own_st (fun t k => XS.aload X7.here hx rfl (hb hby at_52) rfl rfl k) ?_
  show own_Fin p.tables e below _ (T7.setTop (mkF m 54 #[.val (.int i0), .val (.int i1), .val (.ref b1), .val (.int (1 : Int32)), .val (.int (i1 &&& (7 : Int32))), .val (.ref r), .val (.int (1 : Int32)), .val (.ref b6), .unset, .unset, .unset, .unset, .unset, .unset] [(.ref b6)]))
  obtain ⟨cq8, kq8, qa8, qb8, qc8⟩ := isOf hZ rfl A6'7
  obtain ⟨_, _, ⟨T8, L8, k8, n8⟩, -, X8, ⟨Lc8, hQ8, l8, y8, z8⟩, st8⟩ := X7.virtualBack hx (y := (⟨"com/example/condense/condense/analysis/AffineHull", "isEmpty", "()Z"⟩ : MethodName)) (z := (⟨"com/example/condense/condense/analysis/AffineHull", "isEmpty", "()Z"⟩ : MethodName)) hown (mvT hZ (hw _ (List.mem_of_getElem? (i := 37) rfl))) (mvT hZ (hw _ (List.mem_of_getElem? (i := 38) rfl))) (notFace_of_selects (args := #[]) (mvT hZ (hw _ (List.mem_of_getElem? (i := 40) rfl)))) (mvT hZ (hw _ (List.mem_of_getElem? (i := 40) rfl))) (mvT hZ (hw _ (List.mem_of_getElem? (i := 39) rfl))) (by decide) (backOf (W := 0) (rmE0 l Z a0 hw [] b6 0 T7.heap n0 Z7 Fb7) hZ (hw _ (List.mem_of_getElem? (i := 41) rfl)) (hw _ (List.mem_of_getElem? (i := 2) rfl)) (by decide) (by decide)) qa8 qc8 (g := (mkF m 54 #[.val (.int i0), .val (.int i1), .val (.ref b1), .val (.int (1 : Int32)), .val (.int (i1 &&& (7 : Int32))), .val (.ref r), .val (.int (1 : Int32)), .val (.ref b6), .unset, .unset, .unset, .unset, .unset, .unset] [(.ref b6)])) rfl (by rw [hml]; rfl) (Steps.refl _) (argsL := []) (rest := []) (lenOf pd___Z rfl) rfl (by show 2 * 0 + _ ≤ _; exact Nat.le_of_eq rfl) (hb hby at_54) (fun _ _ => ⟨rfl, rfl, (by decide : 21 + 0 ≤ _), (by decide : 144 + 0 ≤ _)⟩)
  dsimp only [Pt.U, Pt.locs, Pt.cells, Pt.slots] at X8 l8 y8 z8 st8 hQ8
  subst l8 y8 z8
  obtain ⟨rfl, N8, q8⟩ := hQ8
  refine own_st (fun t k => st8.trans k) ?_
  have N8a := Fr.app N7a N8
  show own_Fin p.tables e below _ (T8.setTop (mkF m 57 #[.val (.int i0), .val (.int i1), .val (.ref b1), .val (.int (1 : Int32)), .val (.int (i1 &&& (7 : Int32))), .val (.ref r), .val (.int (1 : Int32)), .val (.ref b6), .unset, .unset, .unset, .unset, .unset, .unset] [(.int (1 : Int32))]))
  refine own_st (fun t k => XS.istore X8.here hx rfl (hb hby at_57) rfl (l' := #[.val (.int i0), .val (.int i1), .val (.ref b1), .val (.int (1 : Int32)), .val (.int (i1 &&& (7 : Int32))), .val (.ref r), .val (.int (1 : Int32)), .val (.ref b6), .val (.int (1 : Int32)), .unset, .unset, .unset, .unset, .unset]) rfl k) ?_
  show own_Fin p.tables e below _ (T8.setTop (mkF m 59 #[.val (.int i0), .val (.int i1), .val (.ref b1), .val (.int (1 : Int32)), .val (.int (i1 &&& (7 : Int32))), .val (.ref r), .val (.int (1 : Int32)), .val (.ref b6), .val (.int (1 : Int32)), .unset, .unset, .unset, .unset, .unset] []))
  obtain ⟨T9, h9, X9, e9, E9, A9, D9, U9, st9⟩ := newO X8 hx hZ hown (hw _ (List.mem_of_getElem? (i := 97) rfl)) (hw _ (List.mem_of_getElem? (i := 10) rfl)) (hw _ (List.mem_of_getElem? (i := 11) rfl)) q8 (g := (mkF m 59 #[.val (.int i0), .val (.int i1), .val (.ref b1), .val (.int (1 : Int32)), .val (.int (i1 &&& (7 : Int32))), .val (.ref r), .val (.int (1 : Int32)), .val (.ref b6), .val (.int (1 : Int32)), .unset, .unset, .unset, .unset, .unset] [])) rfl (hb hby at_59) (by decide) (by decide)
  obtain ⟨b9, g9⟩ : ∃ z, z = T7.heap.size := ⟨_, rfl⟩
  have ne_b6_b9 : b6 ≠ b9 := Nat.ne_of_lt (Nat.lt_of_lt_of_le A6'7.lt (Nat.le_of_eq g9.symm))
  have ne_ls7_b9 : ls7 ≠ b9 := Nat.ne_of_lt (Nat.lt_of_lt_of_le Fe7.lt (Nat.le_of_eq g9.symm))
  have g_b9 : n0 ≤ b9 := Nat.le_trans Z7 (Nat.le_of_eq g9.symm)
  rw [← g9] at A9 D9 U9 st9
  refine own_st st9 ?_
  have O4'9 := O4'7.ext E9
  have A6'9 := A6'7.ext E9
  have Fb7'9 := Fb7.ext E9
  have Fd7'9 := Fd7.ext E9
  have Fl7'9 := Fl7.ext E9
  have Fe7'9 := Fe7.ext E9
  have Fs7'9 := Fs7.ext E9
  have Fm7'9 := Fm7.ext E9
  have Els7'9 := Els7.ext E9
  have Z9 : n0 ≤ h9.size := Nat.le_trans Z7 E9.1
  have F_modCount_b9 : Fld Z h9 b9 "java/util/AbstractList" "modCount" "I" (.int (0 : Int32)) := D9 (Or.inl (hw _ (List.mem_of_getElem? (i := 29) rfl))) (ty := .int) (by decide)
  have F_elementData_b9 : Fld Z h9 b9 "java/util/ArrayList" "elementData" "[Ljava/lang/Object;" .null := D9 (Or.inl (hw _ (List.mem_of_getElem? (i := 32) rfl))) (ty := (.array (.object "java/lang/Object"))) (by decide)
  have F_size_b9 : Fld Z h9 b9 "java/util/ArrayList" "size" "I" (.int (0 : Int32)) := D9 (Or.inl (hw _ (List.mem_of_getElem? (i := 74) rfl))) (ty := .int) (by decide)
  show own_Fin p.tables e below _ (T9.setTop (mkF m 62 #[.val (.int i0), .val (.int i1), .val (.ref b1), .val (.int (1 : Int32)), .val (.int (i1 &&& (7 : Int32))), .val (.ref r), .val (.int (1 : Int32)), .val (.ref b6), .val (.int (1 : Int32)), .unset, .unset, .unset, .unset, .unset] [(.ref b9)]))
  refine own_st (fun t k => XS.dup X9.here hx rfl (hb hby at_62) rfl rfl k) ?_
  show own_Fin p.tables e below _ (T9.setTop (mkF m 63 #[.val (.int i0), .val (.int i1), .val (.ref b1), .val (.int (1 : Int32)), .val (.int (i1 &&& (7 : Int32))), .val (.ref r), .val (.int (1 : Int32)), .val (.ref b6), .val (.int (1 : Int32)), .unset, .unset, .unset, .unset, .unset] [(.ref b9), (.ref b9)]))
  obtain ⟨_, _, ⟨T10, L10, k10, n10⟩, -, X10, ⟨Lc10, hQ10, l10, y10, z10⟩, st10⟩ := X9.specialBack hx (y := (⟨"java/util/ArrayList", "<init>", "()V"⟩ : MethodName)) rfl hown (mvT hZ (hw _ (List.mem_of_getElem? (i := 98) rfl))) (mvT hZ (hw _ (List.mem_of_getElem? (i := 13) rfl))) (mvT hZ (hw _ (List.mem_of_getElem? (i := 14) rfl))) (by decide) (backOf (W := 1) (rm3 l Z a0 hw [] b9 aE h9 n0 Z9 F_elementData_b9 F_size_b9 F_modCount_b9 A9 g_b9 O4'9 S_D) hZ (hw _ (List.mem_of_getElem? (i := 14) rfl)) (hw _ (List.mem_of_getElem? (i := 11) rfl)) (by decide) (by decide)) (g := (mkF m 63 #[.val (.int i0), .val (.int i1), .val (.ref b1), .val (.int (1 : Int32)), .val (.int (i1 &&& (7 : Int32))), .val (.ref r), .val (.int (1 : Int32)), .val (.ref b6), .val (.int (1 : Int32)), .unset, .unset, .unset, .unset, .unset] [(.ref b9), (.ref b9)])) rfl (by rw [hml]; rfl) (Steps.refl _) (a := b9) (argsL := []) (rest := [(.ref b9)]) (lenOf pd___V rfl) rfl (by show 2 * 0 + _ ≤ _; exact Nat.le_of_eq rfl) (hb hby at_63) (fun _ _ => ⟨rfl, e9, (by decide : 22 + 0 ≤ _), (by decide : 147 + 0 ≤ _)⟩)
  dsimp only [Pt.U, Pt.locs, Pt.cells, Pt.slots] at X10 l10 y10 z10 st10 hQ10
  subst l10 y10 z10
  obtain ⟨rfl, N10, K10, Fe10, Fs10, Fm10⟩ := hQ10
  refine own_st (fun t k => st10.trans k) ?_
  have O4'10 := O4'9.keep K10 (allS g_b9 all0)
  have A6'10 := A6'9.keep K10
  have Fb7'10 := Fb7'9.keep K10 (ninS ne_b6_b9 nin0)
  have Fd7'10 := Fd7'9.keep K10 (ninS ne_b6_b9 nin0)
  have Fl7'10 := Fl7'9.keep K10 (ninS ne_b6_b9 nin0)
  have Fe7'10 := Fe7'9.keep K10 (ninS ne_ls7_b9 nin0)
  have Fs7'10 := Fs7'9.keep K10 (ninS ne_ls7_b9 nin0)
  have Fm7'10 := Fm7'9.keep K10 (ninS ne_ls7_b9 nin0)
  have Els7'10 := Els7'9.keep K10
  have A9'10 := A9.keep K10
  have Z10 : n0 ≤ T10.heap.size := Nat.le_trans Z9 K10.1
  have N10a := Fr.app N8a N10
  show own_Fin p.tables e below _ (T10.setTop (mkF m 66 #[.val (.int i0), .val (.int i1), .val (.ref b1), .val (.int (1 : Int32)), .val (.int (i1 &&& (7 : Int32))), .val (.ref r), .val (.int (1 : Int32)), .val (.ref b6), .val (.int (1 : Int32)), .unset, .unset, .unset, .unset, .unset] [(.ref b9)]))
  refine own_st (fun t k => XS.astore X10.here hx rfl (hb hby at_66) rfl rfl (l' := #[.val (.int i0), .val (.int i1), .val (.ref b1), .val (.int (1 : Int32)), .val (.int (i1 &&& (7 : Int32))), .val (.ref r), .val (.int (1 : Int32)), .val (.ref b6), .val (.int (1 : Int32)), .val (.ref b9), .unset, .unset, .unset, .unset]) rfl k) ?_
  show own_Fin p.tables e below _ (T10.setTop (mkF m 68 #[.val (.int i0), .val (.int i1), .val (.ref b1), .val (.int (1 : Int32)), .val (.int (i1 &&& (7 : Int32))), .val (.ref r), .val (.int (1 : Int32)), .val (.ref b6), .val (.int (1 : Int32)), .val (.ref b9), .unset, .unset, .unset, .unset] []))
  refine own_st (fun t k => XS.aload X10.here hx rfl (hb hby at_68) rfl rfl k) ?_
  show own_Fin p.tables e below _ (T10.setTop (mkF m 70 #[.val (.int i0), .val (.int i1), .val (.ref b1), .val (.int (1 : Int32)), .val (.int (i1 &&& (7 : Int32))), .val (.ref r), .val (.int (1 : Int32)), .val (.ref b6), .val (.int (1 : Int32)), .val (.ref b9), .unset, .unset, .unset, .unset] [(.ref b6)]))
  refine own_st (fun t k => XS.aload X10.here hx rfl (hb hby at_70) rfl rfl k) ?_
  show own_Fin p.tables e below _ (T10.setTop (mkF m 72 #[.val (.int i0), .val (.int i1), .val (.ref b1), .val (.int (1 : Int32)), .val (.int (i1 &&& (7 : Int32))), .val (.ref r), .val (.int (1 : Int32)), .val (.ref b6), .val (.int (1 : Int32)), .val (.ref b9), .unset, .unset, .unset, .unset] [(.ref b9), (.ref b6)]))
  obtain ⟨cq11, kq11, qa11, qb11, qc11⟩ := isOf hZ rfl A6'10
  obtain ⟨_, _, ⟨T11, L11, k11, n11⟩, -, X11, ⟨Lc11, hQ11, l11, y11, z11⟩, st11⟩ := X10.virtualBack hx (y := (⟨"com/example/condense/condense/analysis/AffineHull", "add", "(Ljava/util/List;)Z"⟩ : MethodName)) (z := (⟨"com/example/condense/condense/analysis/AffineHull", "add", "(Ljava/util/List;)Z"⟩ : MethodName)) hown (mvT hZ (hw _ (List.mem_of_getElem? (i := 99) rfl))) (mvT hZ (hw _ (List.mem_of_getElem? (i := 100) rfl))) (notFace_of_selects (args := #[]) (mvT hZ (hw _ (List.mem_of_getElem? (i := 102) rfl)))) (mvT hZ (hw _ (List.mem_of_getElem? (i := 102) rfl))) (mvT hZ (hw _ (List.mem_of_getElem? (i := 101) rfl))) (by decide) (backOf (W := 0) (rmH1 l Z a0 hw [] b6 ls7 b9 aE kE T10.heap n0 Z10 Fb7'10 Fd7'10 Fl7'10 A6'10 g_b6 Fs10 A9'10 Fe10 O4'10 V_E) hZ (hw _ (List.mem_of_getElem? (i := 103) rfl)) (hw _ (List.mem_of_getElem? (i := 2) rfl)) (by decide) (by decide)) qa11 qc11 (g := (mkF m 72 #[.val (.int i0), .val (.int i1), .val (.ref b1), .val (.int (1 : Int32)), .val (.int (i1 &&& (7 : Int32))), .val (.ref r), .val (.int (1 : Int32)), .val (.ref b6), .val (.int (1 : Int32)), .val (.ref b9), .unset, .unset, .unset, .unset] [(.ref b9), (.ref b6)])) rfl (by rw [hml]; rfl) (Steps.refl _) (argsL := [(.ref b9)]) (rest := []) (lenOf pd__Ljava_util_List__Z rfl) rfl (by show 2 * 0 + _ ≤ _; exact Nat.le_of_eq rfl) (hb hby at_72) (fun _ _ => ⟨rfl, rfl, (by decide : 22 + 1 ≤ _), (by decide : 147 + 0 ≤ _)⟩)
  dsimp only [Pt.U, Pt.locs, Pt.cells, Pt.slots] at X11 l11 y11 z11 st11 hQ11
  subst l11 y11 z11
  obtain ⟨rfl, N11, K11, b2, Fb11, Fd11, Fl11⟩ := hQ11
  refine own_st (fun t k => st11.trans k) ?_
  have O4'11 := O4'10.keep K11 (allS g_b6 all0)
  have A6'11 := A6'10.keep K11
  have Fe7'11 := Fe7'10.keep K11 (ninS (ne_exa Els7'10 A6'10 (by decide)) nin0)
  have Fs7'11 := Fs7'10.keep K11 (ninS (ne_exa Els7'10 A6'10 (by decide)) nin0)
  have Fm7'11 := Fm7'10.keep K11 (ninS (ne_exa Els7'10 A6'10 (by decide)) nin0)
  have Els7'11 := Els7'10.keep K11
  have A9'11 := A9'10.keep K11
  have Fe10'11 := Fe10.keep K11 (ninS (Ne.symm ne_b6_b9) nin0)
  have Fs10'11 := Fs10.keep K11 (ninS (Ne.symm ne_b6_b9) nin0)
  have Fm10'11 := Fm10.keep K11 (ninS (Ne.symm ne_b6_b9) nin0)
  have Z11 : n0 ≤ T11.heap.size := Nat.le_trans Z10 K11.1
  have N11a := Fr.app N10a N11
  show own_Fin p.tables e below _ (T11.setTop (mkF m 75 #[.val (.int i0), .val (.int i1), .val (.ref b1), .val (.int (1 : Int32)), .val (.int (i1 &&& (7 : Int32))), .val (.ref r), .val (.int (1 : Int32)), .val (.ref b6), .val (.int (1 : Int32)), .val (.ref b9), .unset, .unset, .unset, .unset] [(.int (1 : Int32))]))
  refine own_st (fun t k => XS.istore X11.here hx rfl (hb hby at_75) rfl (l' := #[.val (.int i0), .val (.int i1), .val (.ref b1), .val (.int (1 : Int32)), .val (.int (i1 &&& (7 : Int32))), .val (.ref r), .val (.int (1 : Int32)), .val (.ref b6), .val (.int (1 : Int32)), .val (.ref b9), .val (.int (1 : Int32)), .unset, .unset, .unset]) rfl k) ?_
  show own_Fin p.tables e below _ (T11.setTop (mkF m 77 #[.val (.int i0), .val (.int i1), .val (.ref b1), .val (.int (1 : Int32)), .val (.int (i1 &&& (7 : Int32))), .val (.ref r), .val (.int (1 : Int32)), .val (.ref b6), .val (.int (1 : Int32)), .val (.ref b9), .val (.int (1 : Int32)), .unset, .unset, .unset] []))
  refine own_st (fun t k => XS.iload X11.here hx rfl (hb hby at_77) rfl k) ?_
  show own_Fin p.tables e below _ (T11.setTop (mkF m 79 #[.val (.int i0), .val (.int i1), .val (.ref b1), .val (.int (1 : Int32)), .val (.int (i1 &&& (7 : Int32))), .val (.ref r), .val (.int (1 : Int32)), .val (.ref b6), .val (.int (1 : Int32)), .val (.ref b9), .val (.int (1 : Int32)), .unset, .unset, .unset] [(.int (1 : Int32))]))
  refine own_st (fun t k => XS.ifNo X11.here hx rfl (hb hby at_79) rfl (XT.i0_eq_f (by decide)) k) ?_
  show own_Fin p.tables e below _ (T11.setTop (mkF m 82 #[.val (.int i0), .val (.int i1), .val (.ref b1), .val (.int (1 : Int32)), .val (.int (i1 &&& (7 : Int32))), .val (.ref r), .val (.int (1 : Int32)), .val (.ref b6), .val (.int (1 : Int32)), .val (.ref b9), .val (.int (1 : Int32)), .unset, .unset, .unset] []))
  refine own_st (fun t k => XS.aload X11.here hx rfl (hb hby at_82) rfl rfl k) ?_
  show own_Fin p.tables e below _ (T11.setTop (mkF m 84 #[.val (.int i0), .val (.int i1), .val (.ref b1), .val (.int (1 : Int32)), .val (.int (i1 &&& (7 : Int32))), .val (.ref r), .val (.int (1 : Int32)), .val (.ref b6), .val (.int (1 : Int32)), .val (.ref b9), .val (.int (1 : Int32)), .unset, .unset, .unset] [(.ref b6)]))
  obtain ⟨cq12, kq12, qa12, qb12, qc12⟩ := isOf hZ rfl A6'11
  obtain ⟨_, _, ⟨T12, L12, k12, n12⟩, -, X12, ⟨Lc12, hQ12, l12, y12, z12⟩, st12⟩ := X11.virtualBack hx (y := (⟨"com/example/condense/condense/analysis/AffineHull", "isEmpty", "()Z"⟩ : MethodName)) (z := (⟨"com/example/condense/condense/analysis/AffineHull", "isEmpty", "()Z"⟩ : MethodName)) hown (mvT hZ (hw _ (List.mem_of_getElem? (i := 37) rfl))) (mvT hZ (hw _ (List.mem_of_getElem? (i := 38) rfl))) (notFace_of_selects (args := #[]) (mvT hZ (hw _ (List.mem_of_getElem? (i := 40) rfl)))) (mvT hZ (hw _ (List.mem_of_getElem? (i := 40) rfl))) (mvT hZ (hw _ (List.mem_of_getElem? (i := 39) rfl))) (by decide) (backOf (W := 0) (rmE1 l Z a0 hw [] b6 b2 T11.heap n0 Z11 Fb11) hZ (hw _ (List.mem_of_getElem? (i := 41) rfl)) (hw _ (List.mem_of_getElem? (i := 2) rfl)) (by decide) (by decide)) qa12 qc12 (g := (mkF m 84 #[.val (.int i0), .val (.int i1), .val (.ref b1), .val (.int (1 : Int32)), .val (.int (i1 &&& (7 : Int32))), .val (.ref r), .val (.int (1 : Int32)), .val (.ref b6), .val (.int (1 : Int32)), .val (.ref b9), .val (.int (1 : Int32)), .unset, .unset, .unset] [(.ref b6)])) rfl (by rw [hml]; rfl) (Steps.refl _) (argsL := []) (rest := []) (lenOf pd___Z rfl) rfl (by show 2 * 0 + _ ≤ _; exact Nat.le_of_eq rfl) (hb hby at_84) (fun _ _ => ⟨rfl, rfl, (by decide : 23 + 0 ≤ _), (by decide : 147 + 0 ≤ _)⟩)
  dsimp only [Pt.U, Pt.locs, Pt.cells, Pt.slots] at X12 l12 y12 z12 st12 hQ12
  subst l12 y12 z12
  obtain ⟨rfl, N12, q12⟩ := hQ12
  refine own_st (fun t k => st12.trans k) ?_
  have N12a := Fr.app N11a N12
  show own_Fin p.tables e below _ (T12.setTop (mkF m 87 #[.val (.int i0), .val (.int i1), .val (.ref b1), .val (.int (1 : Int32)), .val (.int (i1 &&& (7 : Int32))), .val (.ref r), .val (.int (1 : Int32)), .val (.ref b6), .val (.int (1 : Int32)), .val (.ref b9), .val (.int (1 : Int32)), .unset, .unset, .unset] [(.int (0 : Int32))]))
  refine own_st (fun t k => XS.ifNo X12.here hx rfl (hb hby at_87) rfl (XT.i0_ne_f (by decide)) k) ?_
  show own_Fin p.tables e below _ (T12.setTop (mkF m 90 #[.val (.int i0), .val (.int i1), .val (.ref b1), .val (.int (1 : Int32)), .val (.int (i1 &&& (7 : Int32))), .val (.ref r), .val (.int (1 : Int32)), .val (.ref b6), .val (.int (1 : Int32)), .val (.ref b9), .val (.int (1 : Int32)), .unset, .unset, .unset] []))
  refine own_st (fun t k => XS.iconst X12.here hx rfl (hb hby at_90) k) ?_
  show own_Fin p.tables e below _ (T12.setTop (mkF m 91 #[.val (.int i0), .val (.int i1), .val (.ref b1), .val (.int (1 : Int32)), .val (.int (i1 &&& (7 : Int32))), .val (.ref r), .val (.int (1 : Int32)), .val (.ref b6), .val (.int (1 : Int32)), .val (.ref b9), .val (.int (1 : Int32)), .unset, .unset, .unset] [(.int (1 : Int32))]))
  refine own_st (fun t k => XS.goto X12.here hx rfl (pc0 := 91) (pc' := 95) rfl (hb hby at_91) (by decide) (by decide) k) ?_
  show own_Fin p.tables e below _ (T12.setTop (mkF m 95 #[.val (.int i0), .val (.int i1), .val (.ref b1), .val (.int (1 : Int32)), .val (.int (i1 &&& (7 : Int32))), .val (.ref r), .val (.int (1 : Int32)), .val (.ref b6), .val (.int (1 : Int32)), .val (.ref b9), .val (.int (1 : Int32)), .unset, .unset, .unset] [(.int (1 : Int32))]))
  refine own_st (fun t k => XS.istore X12.here hx rfl (hb hby at_95) rfl (l' := #[.val (.int i0), .val (.int i1), .val (.ref b1), .val (.int (1 : Int32)), .val (.int (i1 &&& (7 : Int32))), .val (.ref r), .val (.int (1 : Int32)), .val (.ref b6), .val (.int (1 : Int32)), .val (.ref b9), .val (.int (1 : Int32)), .val (.int (1 : Int32)), .unset, .unset]) rfl k) ?_
  show own_Fin p.tables e below _ (T12.setTop (mkF m 97 #[.val (.int i0), .val (.int i1), .val (.ref b1), .val (.int (1 : Int32)), .val (.int (i1 &&& (7 : Int32))), .val (.ref r), .val (.int (1 : Int32)), .val (.ref b6), .val (.int (1 : Int32)), .val (.ref b9), .val (.int (1 : Int32)), .val (.int (1 : Int32)), .unset, .unset] []))
  refine own_st (fun t k => XS.aload X12.here hx rfl (hb hby at_97) rfl rfl k) ?_
  show own_Fin p.tables e below _ (T12.setTop (mkF m 99 #[.val (.int i0), .val (.int i1), .val (.ref b1), .val (.int (1 : Int32)), .val (.int (i1 &&& (7 : Int32))), .val (.ref r), .val (.int (1 : Int32)), .val (.ref b6), .val (.int (1 : Int32)), .val (.ref b9), .val (.int (1 : Int32)), .val (.int (1 : Int32)), .unset, .unset] [(.ref b6)]))
  refine own_st (fun t k => XS.aload X12.here hx rfl (hb hby at_99) rfl rfl k) ?_
  show own_Fin p.tables e below _ (T12.setTop (mkF m 101 #[.val (.int i0), .val (.int i1), .val (.ref b1), .val (.int (1 : Int32)), .val (.int (i1 &&& (7 : Int32))), .val (.ref r), .val (.int (1 : Int32)), .val (.ref b6), .val (.int (1 : Int32)), .val (.ref b9), .val (.int (1 : Int32)), .val (.int (1 : Int32)), .unset, .unset] [(.ref b9), (.ref b6)]))
  obtain ⟨cq13, kq13, qa13, qb13, qc13⟩ := isOf hZ q12 A6'11
  obtain ⟨_, _, ⟨T13, L13, k13, n13⟩, -, X13, ⟨Lc13, hQ13, l13, y13, z13⟩, st13⟩ := X12.virtualBack hx (y := (⟨"com/example/condense/condense/analysis/AffineHull", "add", "(Ljava/util/List;)Z"⟩ : MethodName)) (z := (⟨"com/example/condense/condense/analysis/AffineHull", "add", "(Ljava/util/List;)Z"⟩ : MethodName)) hown (mvT hZ (hw _ (List.mem_of_getElem? (i := 99) rfl))) (mvT hZ (hw _ (List.mem_of_getElem? (i := 100) rfl))) (notFace_of_selects (args := #[]) (mvT hZ (hw _ (List.mem_of_getElem? (i := 102) rfl)))) (mvT hZ (hw _ (List.mem_of_getElem? (i := 102) rfl))) (mvT hZ (hw _ (List.mem_of_getElem? (i := 101) rfl))) (by decide) (backOf (W := 0) (rmH2 l Z a0 hw [] b6 ls7 b9 b2 _ T11.heap n0 Z11 Fb11 Fd11 Fl11 A6'11 g_b6 Fs10'11 A9'11 Fs7'11 Fm7'11 Els7'11) hZ (hw _ (List.mem_of_getElem? (i := 103) rfl)) (hw _ (List.mem_of_getElem? (i := 2) rfl)) (by decide) (by decide)) qa13 qc13 (g := (mkF m 101 #[.val (.int i0), .val (.int i1), .val (.ref b1), .val (.int (1 : Int32)), .val (.int (i1 &&& (7 : Int32))), .val (.ref r), .val (.int (1 : Int32)), .val (.ref b6), .val (.int (1 : Int32)), .val (.ref b9), .val (.int (1 : Int32)), .val (.int (1 : Int32)), .unset, .unset] [(.ref b9), (.ref b6)])) rfl (by rw [hml]; rfl) (Steps.refl _) (argsL := [(.ref b9)]) (rest := []) (lenOf pd__Ljava_util_List__Z rfl) rfl (by show 2 * 0 + _ ≤ _; exact Nat.le_of_eq rfl) (hb hby at_101) (fun _ _ => ⟨rfl, q12, (by decide : 23 + 2 ≤ _), (by decide : 147 + 4 ≤ _)⟩)
  dsimp only [Pt.U, Pt.locs, Pt.cells, Pt.slots] at X13 l13 y13 z13 st13 hQ13
  subst l13 y13 z13
  obtain ⟨rfl, N13, K13⟩ := hQ13
  refine own_st (fun t k => st13.trans k) ?_
  have O4'13 := O4'11.keep K13 all0
  have A6'13 := A6'11.keep K13
  have Fe7'13 := Fe7'11.keep K13 nin0
  have Fs7'13 := Fs7'11.keep K13 nin0
  have Fm7'13 := Fm7'11.keep K13 nin0
  have Els7'13 := Els7'11.keep K13
  have A9'13 := A9'11.keep K13
  have Fe10'13 := Fe10'11.keep K13 nin0
  have Fs10'13 := Fs10'11.keep K13 nin0
  have Fm10'13 := Fm10'11.keep K13 nin0
  have Fb11'13 := Fb11.keep K13 nin0
  have Fd11'13 := Fd11.keep K13 nin0
  have Fl11'13 := Fl11.keep K13 nin0
  have Z13 : n0 ≤ T13.heap.size := Nat.le_trans Z11 K13.1
  have N13a := Fr.app N12a N13
  show own_Fin p.tables e below _ (T13.setTop (mkF m 104 #[.val (.int i0), .val (.int i1), .val (.ref b1), .val (.int (1 : Int32)), .val (.int (i1 &&& (7 : Int32))), .val (.ref r), .val (.int (1 : Int32)), .val (.ref b6), .val (.int (1 : Int32)), .val (.ref b9), .val (.int (1 : Int32)), .val (.int (1 : Int32)), .unset, .unset] [(.int (0 : Int32))]))
  refine own_st (fun t k => XS.istore X13.here hx rfl (hb hby at_104) rfl (l' := #[.val (.int i0), .val (.int i1), .val (.ref b1), .val (.int (1 : Int32)), .val (.int (i1 &&& (7 : Int32))), .val (.ref r), .val (.int (1 : Int32)), .val (.ref b6), .val (.int (1 : Int32)), .val (.ref b9), .val (.int (1 : Int32)), .val (.int (1 : Int32)), .val (.int (0 : Int32)), .unset]) rfl k) ?_
  show own_Fin p.tables e below _ (T13.setTop (mkF m 106 #[.val (.int i0), .val (.int i1), .val (.ref b1), .val (.int (1 : Int32)), .val (.int (i1 &&& (7 : Int32))), .val (.ref r), .val (.int (1 : Int32)), .val (.ref b6), .val (.int (1 : Int32)), .val (.ref b9), .val (.int (1 : Int32)), .val (.int (1 : Int32)), .val (.int (0 : Int32)), .unset] []))
  refine own_st (fun t k => XS.iload X13.here hx rfl (hb hby at_106) rfl k) ?_
  show own_Fin p.tables e below _ (T13.setTop (mkF m 108 #[.val (.int i0), .val (.int i1), .val (.ref b1), .val (.int (1 : Int32)), .val (.int (i1 &&& (7 : Int32))), .val (.ref r), .val (.int (1 : Int32)), .val (.ref b6), .val (.int (1 : Int32)), .val (.ref b9), .val (.int (1 : Int32)), .val (.int (1 : Int32)), .val (.int (0 : Int32)), .unset] [(.int (0 : Int32))]))
  refine own_st (fun t k => XS.ifNo X13.here hx rfl (hb hby at_108) rfl (XT.i0_ne_f (by decide)) k) ?_
  show own_Fin p.tables e below _ (T13.setTop (mkF m 111 #[.val (.int i0), .val (.int i1), .val (.ref b1), .val (.int (1 : Int32)), .val (.int (i1 &&& (7 : Int32))), .val (.ref r), .val (.int (1 : Int32)), .val (.ref b6), .val (.int (1 : Int32)), .val (.ref b9), .val (.int (1 : Int32)), .val (.int (1 : Int32)), .val (.int (0 : Int32)), .unset] []))
  refine own_st (fun t k => XS.aload X13.here hx rfl (hb hby at_111) rfl rfl k) ?_
  show own_Fin p.tables e below _ (T13.setTop (mkF m 113 #[.val (.int i0), .val (.int i1), .val (.ref b1), .val (.int (1 : Int32)), .val (.int (i1 &&& (7 : Int32))), .val (.ref r), .val (.int (1 : Int32)), .val (.ref b6), .val (.int (1 : Int32)), .val (.ref b9), .val (.int (1 : Int32)), .val (.int (1 : Int32)), .val (.int (0 : Int32)), .unset] [(.ref b6)]))
  obtain ⟨cq14, kq14, qa14, qb14, qc14⟩ := isOf hZ rfl A6'13
  obtain ⟨_, _, ⟨T14, L14, k14, n14⟩, -, X14, ⟨Lc14, hQ14, l14, y14, z14⟩, st14⟩ := X13.virtualBack hx (y := (⟨"com/example/condense/condense/analysis/AffineHull", "isEmpty", "()Z"⟩ : MethodName)) (z := (⟨"com/example/condense/condense/analysis/AffineHull", "isEmpty", "()Z"⟩ : MethodName)) hown (mvT hZ (hw _ (List.mem_of_getElem? (i := 37) rfl))) (mvT hZ (hw _ (List.mem_of_getElem? (i := 38) rfl))) (notFace_of_selects (args := #[]) (mvT hZ (hw _ (List.mem_of_getElem? (i := 40) rfl)))) (mvT hZ (hw _ (List.mem_of_getElem? (i := 40) rfl))) (mvT hZ (hw _ (List.mem_of_getElem? (i := 39) rfl))) (by decide) (backOf (W := 0) (rmE1 l Z a0 hw [] b6 b2 T13.heap n0 Z13 Fb11'13) hZ (hw _ (List.mem_of_getElem? (i := 41) rfl)) (hw _ (List.mem_of_getElem? (i := 2) rfl)) (by decide) (by decide)) qa14 qc14 (g := (mkF m 113 #[.val (.int i0), .val (.int i1), .val (.ref b1), .val (.int (1 : Int32)), .val (.int (i1 &&& (7 : Int32))), .val (.ref r), .val (.int (1 : Int32)), .val (.ref b6), .val (.int (1 : Int32)), .val (.ref b9), .val (.int (1 : Int32)), .val (.int (1 : Int32)), .val (.int (0 : Int32)), .unset] [(.ref b6)])) rfl (by rw [hml]; rfl) (Steps.refl _) (argsL := []) (rest := []) (lenOf pd___Z rfl) rfl (by show 2 * 0 + _ ≤ _; exact Nat.le_of_eq rfl) (hb hby at_113) (fun _ _ => ⟨rfl, rfl, (by decide : 25 + 0 ≤ _), (by decide : 151 + 0 ≤ _)⟩)
  dsimp only [Pt.U, Pt.locs, Pt.cells, Pt.slots] at X14 l14 y14 z14 st14 hQ14
  subst l14 y14 z14
  obtain ⟨rfl, N14, q14⟩ := hQ14
  refine own_st (fun t k => st14.trans k) ?_
  have N14a := Fr.app N13a N14
  show own_Fin p.tables e below _ (T14.setTop (mkF m 116 #[.val (.int i0), .val (.int i1), .val (.ref b1), .val (.int (1 : Int32)), .val (.int (i1 &&& (7 : Int32))), .val (.ref r), .val (.int (1 : Int32)), .val (.ref b6), .val (.int (1 : Int32)), .val (.ref b9), .val (.int (1 : Int32)), .val (.int (1 : Int32)), .val (.int (0 : Int32)), .unset] [(.int (0 : Int32))]))
  refine own_st (fun t k => XS.ifNo X14.here hx rfl (hb hby at_116) rfl (XT.i0_ne_f (by decide)) k) ?_
  show own_Fin p.tables e below _ (T14.setTop (mkF m 119 #[.val (.int i0), .val (.int i1), .val (.ref b1), .val (.int (1 : Int32)), .val (.int (i1 &&& (7 : Int32))), .val (.ref r), .val (.int (1 : Int32)), .val (.ref b6), .val (.int (1 : Int32)), .val (.ref b9), .val (.int (1 : Int32)), .val (.int (1 : Int32)), .val (.int (0 : Int32)), .unset] []))
  refine own_st (fun t k => XS.iconst X14.here hx rfl (hb hby at_119) k) ?_
  show own_Fin p.tables e below _ (T14.setTop (mkF m 120 #[.val (.int i0), .val (.int i1), .val (.ref b1), .val (.int (1 : Int32)), .val (.int (i1 &&& (7 : Int32))), .val (.ref r), .val (.int (1 : Int32)), .val (.ref b6), .val (.int (1 : Int32)), .val (.ref b9), .val (.int (1 : Int32)), .val (.int (1 : Int32)), .val (.int (0 : Int32)), .unset] [(.int (1 : Int32))]))
  refine own_st (fun t k => XS.goto X14.here hx rfl (pc0 := 120) (pc' := 124) rfl (hb hby at_120) (by decide) (by decide) k) ?_
  show own_Fin p.tables e below _ (T14.setTop (mkF m 124 #[.val (.int i0), .val (.int i1), .val (.ref b1), .val (.int (1 : Int32)), .val (.int (i1 &&& (7 : Int32))), .val (.ref r), .val (.int (1 : Int32)), .val (.ref b6), .val (.int (1 : Int32)), .val (.ref b9), .val (.int (1 : Int32)), .val (.int (1 : Int32)), .val (.int (0 : Int32)), .unset] [(.int (1 : Int32))]))
  refine own_st (fun t k => XS.istore X14.here hx rfl (hb hby at_124) rfl (l' := #[.val (.int i0), .val (.int i1), .val (.ref b1), .val (.int (1 : Int32)), .val (.int (i1 &&& (7 : Int32))), .val (.ref r), .val (.int (1 : Int32)), .val (.ref b6), .val (.int (1 : Int32)), .val (.ref b9), .val (.int (1 : Int32)), .val (.int (1 : Int32)), .val (.int (0 : Int32)), .val (.int (1 : Int32))]) rfl k) ?_
  show own_Fin p.tables e below _ (T14.setTop (mkF m 126 #[.val (.int i0), .val (.int i1), .val (.ref b1), .val (.int (1 : Int32)), .val (.int (i1 &&& (7 : Int32))), .val (.ref r), .val (.int (1 : Int32)), .val (.ref b6), .val (.int (1 : Int32)), .val (.ref b9), .val (.int (1 : Int32)), .val (.int (1 : Int32)), .val (.int (0 : Int32)), .val (.int (1 : Int32))] []))
  refine own_st (fun t k => XS.iloadN X14.here hx rfl (hb hby at_126) rfl k) ?_
  show own_Fin p.tables e below _ (T14.setTop (mkF m 127 #[.val (.int i0), .val (.int i1), .val (.ref b1), .val (.int (1 : Int32)), .val (.int (i1 &&& (7 : Int32))), .val (.ref r), .val (.int (1 : Int32)), .val (.ref b6), .val (.int (1 : Int32)), .val (.ref b9), .val (.int (1 : Int32)), .val (.int (1 : Int32)), .val (.int (0 : Int32)), .val (.int (1 : Int32))] [(.int (1 : Int32))]))
  refine own_st (fun t k => XS.ifNo X14.here hx rfl (hb hby at_127) rfl (XT.i0_eq_f (by decide)) k) ?_
  show own_Fin p.tables e below _ (T14.setTop (mkF m 130 #[.val (.int i0), .val (.int i1), .val (.ref b1), .val (.int (1 : Int32)), .val (.int (i1 &&& (7 : Int32))), .val (.ref r), .val (.int (1 : Int32)), .val (.ref b6), .val (.int (1 : Int32)), .val (.ref b9), .val (.int (1 : Int32)), .val (.int (1 : Int32)), .val (.int (0 : Int32)), .val (.int (1 : Int32))] []))
  refine own_st (fun t k => XS.iload X14.here hx rfl (hb hby at_130) rfl k) ?_
  show own_Fin p.tables e below _ (T14.setTop (mkF m 132 #[.val (.int i0), .val (.int i1), .val (.ref b1), .val (.int (1 : Int32)), .val (.int (i1 &&& (7 : Int32))), .val (.ref r), .val (.int (1 : Int32)), .val (.ref b6), .val (.int (1 : Int32)), .val (.ref b9), .val (.int (1 : Int32)), .val (.int (1 : Int32)), .val (.int (0 : Int32)), .val (.int (1 : Int32))] [(.int (1 : Int32))]))
  refine own_st (fun t k => XS.ifNo X14.here hx rfl (hb hby at_132) rfl (XT.i0_eq_f (by decide)) k) ?_
  show own_Fin p.tables e below _ (T14.setTop (mkF m 135 #[.val (.int i0), .val (.int i1), .val (.ref b1), .val (.int (1 : Int32)), .val (.int (i1 &&& (7 : Int32))), .val (.ref r), .val (.int (1 : Int32)), .val (.ref b6), .val (.int (1 : Int32)), .val (.ref b9), .val (.int (1 : Int32)), .val (.int (1 : Int32)), .val (.int (0 : Int32)), .val (.int (1 : Int32))] []))
  refine own_st (fun t k => XS.iload X14.here hx rfl (hb hby at_135) rfl k) ?_
  show own_Fin p.tables e below _ (T14.setTop (mkF m 137 #[.val (.int i0), .val (.int i1), .val (.ref b1), .val (.int (1 : Int32)), .val (.int (i1 &&& (7 : Int32))), .val (.ref r), .val (.int (1 : Int32)), .val (.ref b6), .val (.int (1 : Int32)), .val (.ref b9), .val (.int (1 : Int32)), .val (.int (1 : Int32)), .val (.int (0 : Int32)), .val (.int (1 : Int32))] [(.int (1 : Int32))]))
  refine own_st (fun t k => XS.ifNo X14.here hx rfl (hb hby at_137) rfl (XT.i0_eq_f (by decide)) k) ?_
  show own_Fin p.tables e below _ (T14.setTop (mkF m 140 #[.val (.int i0), .val (.int i1), .val (.ref b1), .val (.int (1 : Int32)), .val (.int (i1 &&& (7 : Int32))), .val (.ref r), .val (.int (1 : Int32)), .val (.ref b6), .val (.int (1 : Int32)), .val (.ref b9), .val (.int (1 : Int32)), .val (.int (1 : Int32)), .val (.int (0 : Int32)), .val (.int (1 : Int32))] []))
  refine own_st (fun t k => XS.iload X14.here hx rfl (hb hby at_140) rfl k) ?_
  show own_Fin p.tables e below _ (T14.setTop (mkF m 142 #[.val (.int i0), .val (.int i1), .val (.ref b1), .val (.int (1 : Int32)), .val (.int (i1 &&& (7 : Int32))), .val (.ref r), .val (.int (1 : Int32)), .val (.ref b6), .val (.int (1 : Int32)), .val (.ref b9), .val (.int (1 : Int32)), .val (.int (1 : Int32)), .val (.int (0 : Int32)), .val (.int (1 : Int32))] [(.int (1 : Int32))]))
  refine own_st (fun t k => XS.ifNo X14.here hx rfl (hb hby at_142) rfl (XT.i0_eq_f (by decide)) k) ?_
  show own_Fin p.tables e below _ (T14.setTop (mkF m 145 #[.val (.int i0), .val (.int i1), .val (.ref b1), .val (.int (1 : Int32)), .val (.int (i1 &&& (7 : Int32))), .val (.ref r), .val (.int (1 : Int32)), .val (.ref b6), .val (.int (1 : Int32)), .val (.ref b9), .val (.int (1 : Int32)), .val (.int (1 : Int32)), .val (.int (0 : Int32)), .val (.int (1 : Int32))] []))
  refine own_st (fun t k => XS.iload X14.here hx rfl (hb hby at_145) rfl k) ?_
  show own_Fin p.tables e below _ (T14.setTop (mkF m 147 #[.val (.int i0), .val (.int i1), .val (.ref b1), .val (.int (1 : Int32)), .val (.int (i1 &&& (7 : Int32))), .val (.ref r), .val (.int (1 : Int32)), .val (.ref b6), .val (.int (1 : Int32)), .val (.ref b9), .val (.int (1 : Int32)), .val (.int (1 : Int32)), .val (.int (0 : Int32)), .val (.int (1 : Int32))] [(.int (1 : Int32))]))
  refine own_st (fun t k => XS.ifNo X14.here hx rfl (hb hby at_147) rfl (XT.i0_eq_f (by decide)) k) ?_
  show own_Fin p.tables e below _ (T14.setTop (mkF m 150 #[.val (.int i0), .val (.int i1), .val (.ref b1), .val (.int (1 : Int32)), .val (.int (i1 &&& (7 : Int32))), .val (.ref r), .val (.int (1 : Int32)), .val (.ref b6), .val (.int (1 : Int32)), .val (.ref b9), .val (.int (1 : Int32)), .val (.int (1 : Int32)), .val (.int (0 : Int32)), .val (.int (1 : Int32))] []))
  refine own_st (fun t k => XS.iconst X14.here hx rfl (hb hby at_150) k) ?_
  show own_Fin p.tables e below _ (T14.setTop (mkF m 151 #[.val (.int i0), .val (.int i1), .val (.ref b1), .val (.int (1 : Int32)), .val (.int (i1 &&& (7 : Int32))), .val (.ref r), .val (.int (1 : Int32)), .val (.ref b6), .val (.int (1 : Int32)), .val (.ref b9), .val (.int (1 : Int32)), .val (.int (1 : Int32)), .val (.int (0 : Int32)), .val (.int (1 : Int32))] [(.int (1 : Int32))]))
  refine own_st (fun t k => XS.goto X14.here hx rfl (pc0 := 151) (pc' := 155) rfl (hb hby at_151) (by decide) (by decide) k) ?_
  show own_Fin p.tables e below _ (T14.setTop (mkF m 155 #[.val (.int i0), .val (.int i1), .val (.ref b1), .val (.int (1 : Int32)), .val (.int (i1 &&& (7 : Int32))), .val (.ref r), .val (.int (1 : Int32)), .val (.ref b6), .val (.int (1 : Int32)), .val (.ref b9), .val (.int (1 : Int32)), .val (.int (1 : Int32)), .val (.int (0 : Int32)), .val (.int (1 : Int32))] [(.int (1 : Int32))]))
  obtain ⟨fs, hr, hrun, hended, hW, hsame⟩ := X14.leave (v := (some (.int (1 : Int32)))) (fun h => by rw [Bd.returns] at h; cases h)
  refine ⟨_, _, retN X14 hx (t := .boolean) Bd.returns (by simp) (hb hby at_155) hr, hrun, hended, _, _, rfl, ?_, ⟨_, rfl⟩, hW, hsame.mono (by decide) (by decide)⟩
  show Q0 Z i0 i1 aE kE aZ aO h0 n0 _ T14.heap _
  rw [q14]
  exact ⟨rfl, N14a⟩
set_option maxRecDepth 65536 in
set_option maxHeartbeats 40000000 in
theorem comes_1 {Post : Tables → Env → Array Value → State → Outcome → State → Prop} (hpost : ∀ tb e args s v u, (limb_1_1.after args s (.returned v) u = true ∧ limb_1_2.after args s (.returned v) u = true ∧ True) → FrameEnd s (.returned v) u (Jvm.fieldLocs frame_1_writes args s ++ Jvm.arrayLocs frame_1_arrays args s ++ Jvm.staticLocs frame_1_statics s) 48 256 → Post tb e args s (.returned v) u) :
    ArmFor flags0 classFile x code maxLocals ret World_1 tables_1 room_1 Calls_1 rest_1 Pre_1 Post := by
  intro l hfl _ _ p e ha hc hk s m args below hf hA hF happ hP
  obtain ⟨hcalls, hrest, hpre⟩ := hP
  obtain ⟨-, -, -, hnamed, -, -, -, hat⟩ := (Spec.applies_iff hf).mp happ
  obtain ⟨hg, hn⟩ := and_e (Cond.before_iff.mp (show (Jvm.Cond.and given_1 narrow_1).before args s = true from hpre))
  obtain ⟨g0, gr0⟩ := and_e hg
  obtain ⟨w0, w1, rfl⟩ : ∃ w0 w1 : Value, args = #[w0, w1] := by
    have hs : args.size = 2 := by simpa [Cond.value, given_1] using g0
    obtain ⟨L⟩ := args
    match L, hs with
    | [w0, w1], _ => exact ⟨w0, w1, rfl⟩
  have hw := fun d (hd : d ∈ tables_1) => atoms_spec (ws := Jvm.Cond.code x code maxLocals ret :: tables_1) hat d (List.mem_cons_of_mem _ hd)
  have hfit : Fit s := fun {y c} hc i hi => by
    obtain ⟨ha, rfl⟩ := Array.getElem?_eq_some_iff.mp hc
    have q := List.all_eq_true.mp ((Array.all_eq_true_iff_forall_mem.mp hF) _ (Array.getElem_mem ha)) i (List.mem_range.mpr hi)
    simpa [Array.getElem?_eq_getElem hi] using q
  obtain ⟨ga0, gr1⟩ := and_e gr0
  obtain ⟨i0, ei0⟩ := is_v ga0
  obtain rfl : w0 = (.int i0) := Option.some.inj ei0
  obtain ⟨i1, ei1⟩ := is_v gr1
  obtain rfl : w1 = (.int i1) := Option.some.inj ei1
  have hr := atoms_of jdkStatics_1 (show (jdkStatics_1.foldr Jvm.Cond.and restOwn_1).before _ s = true from hrest)
  have hj := fun k d (q : jdkStatics_1[k]? = some d) => Cond.before_iff.mp (hr.1 d (List.mem_of_getElem? q))
  have hj0 := fun k d (q : jdkStatics_1[k]? = some d) => hr.1 d (List.mem_of_getElem? q)
  obtain ⟨aE, clE, ev_E, A_E, le_E, lt_E⟩ := own_len (hj 6 _ rfl) (hj 8 _ rfl)
  have S_D := Sta.start ev_E (Or.inr ⟨(hw _ (List.mem_of_getElem? (i := 11) rfl)), hj0 2 _ rfl⟩)
  obtain ⟨aZ, ev_Z⟩ := exa_v (hj 11 _ rfl)
  have S_Z := Sta.start ev_Z (Or.inl (hj0 10 _ rfl))
  have E_Z := Exa.start ev_Z (hj 11 _ rfl)
  obtain ⟨aO, ev_O⟩ := exa_v (hj 18 _ rfl)
  have S_O := Sta.start ev_O (Or.inl (hj0 17 _ rfl))
  have E_O := Exa.start ev_O (hj 18 _ rfl)
  obtain ⟨n, o, h1, h2, h3, _, L, rfl, ⟨rfl, N⟩, hq⟩ := rm0 l s _ hw tables_1 i0 i1 aE _ aZ aO s.heap s.heap.size (Nat.le_refl _) (Old.start s) S_D (own_arv0 hfit A_E le_E lt_E) S_Z E_Z S_O E_O p e ha hc hk s m _ below hf ((Spec.applies_iff_loose hf).mp happ).1 ⟨rfl, State.Warmed39.refl s, rfl⟩ trivial
  refine ⟨n, _, h1, h2, h3, hpost _ _ _ _ _ _ ⟨Cond.after_iff.mpr rfl, Cond.after_iff.mpr (eq_i res_at (Term.int_eval (1)) rfl), trivial⟩ ⟨hq.1, hq.2.1, (hq.2.2.sift fun y hy => Or.inr (N y hy)).mono (by decide) (by decide)⟩⟩
theorem main_1_1 : Claimed_1_1 := comes_1 fun _ _ _ _ _ _ h hF => ⟨h.1, hF⟩
theorem main_1_2 : Claimed_1_2 := comes_1 fun _ _ _ _ _ _ h hF => ⟨h.2.1, hF⟩
end Jvm.Pilot.@@N@@
namespace Jvm.Pilot.@@N@@
open Jvm Jvm.ClassFile Sem Op Lib Jvm.Free Jvm.Stand Jvm.Pilot.@@N@@.Jvm.D
/-! MADE BY PROGRAM (witnessworld.py) out of the Statement's table words and the real class files: 27 classes; the members and pool entries that the words name. The judged class is class 1, her method 1. -/
namespace start1
open Jvm.ClassFile
def u (s : String) : CpInfo := .utf8 (stringToUtf16 s)
/-- a pool by its gaps: so many unusable entries, then the entry; so many at the end -/
def gap : Nat → List CpInfo → List CpInfo
  | 0, r => r
  | n + 1, r => .unusable :: gap n r
def poolList (es : List (Nat × CpInfo)) (last : Nat) : List CpInfo := es.foldr (fun e r => gap e.1 (e.2 :: r)) (gap last [])
def pool (es : List (Nat × CpInfo)) (last : Nat) : Array CpInfo := ⟨poolList es last⟩
def fileOf (pool : Array CpInfo) (this : Nat) (attrs : Array Attribute := #[]) (ms : Array MethodInfo := #[]) (fl : Nat := 33) (sup : Nat := 0) (ifs : Array Nat := #[]) (fds : Array FieldInfo := #[]) : ClassFile where
  minorVersion := 0
  majorVersion := 65
  constantPool := pool
  accessFlags := fl
  thisClass := this
  superClass := sup
  interfaces := ifs
  fields := fds
  methods := ms
  attributes := attrs
def plain (name : String) (sup : Option ClassId) : Class where
  name := name
  kind := .ordinary
  loader := none
  accessFlags := 33
  super := sup
  interfaces := #[]
  cf := none
  fields := #[]
  methods := #[]
  instanceTypes := #[]
  staticTypes := #[]
  resolved := #[]
  callSites := []
  init := .initialized
  statics := none
  mirror := none

def pool0 : Array CpInfo := pool [(5, u "<init>"), (0, u "()V"), (1, .class_ 10), (1, u "java/lang/Object")] 113

def k0c0 : Code := { maxStack := 0, maxLocals := 1, code := object_method_1_code, exceptionTable := #[], attributes := #[] }
def k0m0 : Method := { name := "<init>", desc := "()V", sig := { parameters := [], returnType := none }, accessFlags := 1, code := some k0c0 }
/-- java/lang/Object -/
def k0 : Class := { plain "java/lang/Object" none with
  accessFlags := 33
  interfaces := #[]
  cf := some (fileOf pool0 8 #[] #[{ accessFlags := 1, nameIndex := 5, descriptorIndex := 6, attributes := #[] }] 33 0 #[] #[])
  fields := #[]
  methods := #[k0m0]
  instanceTypes := #[]
  staticTypes := #[]
  resolved := Array.replicate 124 none
  statics := none }

def pool1 : Array CpInfo := pool [(2, .class_ 4), (0, .nameAndType 5 6), (0, u "java/lang/Object"), (0, u "<init>"), (0, u "()V"), (0, .class_ 8), (0, u "com/example/condense/condense/analysis/AffineHull"), (0, .methodref 7 10), (0, .nameAndType 5 11), (0, u "(I)V"), (0, .methodref 7 13), (0, .nameAndType 14 15), (0, u "isEmpty"), (0, u "()Z"), (0, .methodref 7 17), (0, .nameAndType 18 19), (0, u "whole"), (0, u "(I)Lcom/example/condense/condense/analysis/AffineHull;"), (0, .class_ 21), (0, u "java/util/ArrayList"), (0, .methodref 20 3), (0, .methodref 7 24), (0, .nameAndType 25 26), (0, u "add"), (0, u "(Ljava/util/List;)Z"), (0, .class_ 28), (0, u "com/example/condense/condense/analysis/AffineHullIsEmptyPinLaw"), (2, u "law"), (0, u "(II)Z")] 3

def k1m0 : Method := { name := "<init>", desc := "()V", sig := { parameters := [], returnType := none }, accessFlags := 2, code := none }
def k1c1 : Code := { maxStack := 3, maxLocals := 14, code := code, exceptionTable := #[], attributes := #[] }
def k1m1 : Method := { name := "law", desc := "(II)Z", sig := { parameters := [.int, .int], returnType := some .boolean }, accessFlags := 9, code := some k1c1 }
/-- com/example/condense/condense/analysis/AffineHullIsEmptyPinLaw -/
def k1 : Class := { plain "com/example/condense/condense/analysis/AffineHullIsEmptyPinLaw" (some 0) with
  accessFlags := 49
  interfaces := #[]
  cf := some (fileOf pool1 27 #[] #[{ accessFlags := 2, nameIndex := 5, descriptorIndex := 6, attributes := #[] }, { accessFlags := 9, nameIndex := 31, descriptorIndex := 32, attributes := #[] }] 49 2 #[] #[])
  fields := #[]
  methods := #[k1m0, k1m1]
  instanceTypes := #[]
  staticTypes := #[]
  resolved := Array.replicate 36 none
  statics := none }

def pool2 : Array CpInfo := pool [(1, .methodref 2 3), (0, .class_ 4), (0, .nameAndType 5 6), (0, u "java/lang/Object"), (0, u "<init>"), (0, u "()V"), (0, .class_ 8), (0, u "java/util/ArrayList"), (0, .methodref 7 3), (0, .fieldref 11 12), (0, .class_ 13), (0, .nameAndType 14 15), (0, u "com/example/condense/condense/analysis/AffineHull"), (0, u "directions"), (0, u "Ljava/util/List;"), (0, .fieldref 11 17), (0, .nameAndType 18 19), (0, u "dimension"), (0, u "I"), (0, .methodref 11 21), (0, .nameAndType 5 22), (0, u "(I)V"), (0, .methodref 11 24), (0, .nameAndType 25 26), (0, u "zero"), (0, u "(I)[Ljava/math/BigInteger;"), (0, .fieldref 11 28), (0, .nameAndType 29 30), (0, u "base"), (0, u "[Ljava/math/BigInteger;"), (0, .fieldref 32 33), (0, .class_ 34), (0, .nameAndType 35 36), (0, u "java/math/BigInteger"), (0, u "ONE"), (0, u "Ljava/math/BigInteger;"), (0, .interfaceMethodref 38 39), (0, .class_ 40), (0, .nameAndType 41 42), (0, u "java/util/List"), (0, u "add"), (0, u "(Ljava/lang/Object;)Z"), (0, .interfaceMethodref 38 44), (0, .nameAndType 45 46), (0, u "size"), (0, u "()I"), (9, .interfaceMethodref 38 57), (0, .nameAndType 58 59), (0, u "toArray"), (0, u "([Ljava/lang/Object;)[Ljava/lang/Object;"), (0, .class_ 30), (8, .interfaceMethodref 38 70), (0, .nameAndType 71 72), (0, u "iterator"), (0, u "()Ljava/util/Iterator;"), (0, .interfaceMethodref 74 75), (0, .class_ 76), (0, .nameAndType 77 78), (0, u "java/util/Iterator"), (0, u "hasNext"), (0, u "()Z"), (4, .methodref 11 84), (0, .nameAndType 85 86), (0, u "pivot"), (0, u "([Ljava/math/BigInteger;)I"), (31, .fieldref 32 119), (0, .nameAndType 120 36), (0, u "ZERO"), (3, .class_ 126), (1, u "java/util/Arrays"), (12, .methodref 124 140), (0, .nameAndType 141 142), (0, u "fill"), (0, u "([Ljava/lang/Object;Ljava/lang/Object;)V"), (4, u "whole"), (0, u "(I)Lcom/example/condense/condense/analysis/AffineHull;"), (1, u "isEmpty"), (1, u "(Ljava/util/List;)Z")] 23

def k2c0 : Code := { maxStack := 3, maxLocals := 2, code := prog_1_method_1_code, exceptionTable := #[], attributes := #[] }
def k2m0 : Method := { name := "<init>", desc := "(I)V", sig := { parameters := [.int], returnType := none }, accessFlags := 0, code := some k2c0 }
def k2c1 : Code := { maxStack := 3, maxLocals := 4, code := prog_1_method_2_code, exceptionTable := #[], attributes := #[] }
def k2m1 : Method := { name := "whole", desc := "(I)Lcom/example/condense/condense/analysis/AffineHull;", sig := { parameters := [.int], returnType := some (.object "com/example/condense/condense/analysis/AffineHull") }, accessFlags := 8, code := some k2c1 }
def k2c2 : Code := { maxStack := 1, maxLocals := 1, code := prog_1_method_3_code, exceptionTable := #[], attributes := #[] }
def k2m2 : Method := { name := "isEmpty", desc := "()Z", sig := { parameters := [], returnType := some .boolean }, accessFlags := 0, code := some k2c2 }
def k2c3 : Code := { maxStack := 5, maxLocals := 6, code := prog_1_method_5_code, exceptionTable := #[], attributes := #[] }
def k2m3 : Method := { name := "add", desc := "(Ljava/util/List;)Z", sig := { parameters := [(.object "java/util/List")], returnType := some .boolean }, accessFlags := 0, code := some k2c3 }
def k2c4 : Code := { maxStack := 2, maxLocals := 2, code := prog_1_method_9_code, exceptionTable := #[], attributes := #[] }
def k2m4 : Method := { name := "pivot", desc := "([Ljava/math/BigInteger;)I", sig := { parameters := [(.array (.object "java/math/BigInteger"))], returnType := some .int }, accessFlags := 10, code := some k2c4 }
def k2c5 : Code := { maxStack := 2, maxLocals := 2, code := prog_1_method_12_code, exceptionTable := #[], attributes := #[] }
def k2m5 : Method := { name := "zero", desc := "(I)[Ljava/math/BigInteger;", sig := { parameters := [.int], returnType := some (.array (.object "java/math/BigInteger")) }, accessFlags := 10, code := some k2c5 }
/-- com/example/condense/condense/analysis/AffineHull -/
def k2 : Class := { plain "com/example/condense/condense/analysis/AffineHull" (some 0) with
  accessFlags := 32
  interfaces := #[]
  cf := some (fileOf pool2 11 #[] #[{ accessFlags := 0, nameIndex := 5, descriptorIndex := 22, attributes := #[] }, { accessFlags := 8, nameIndex := 147, descriptorIndex := 148, attributes := #[] }, { accessFlags := 0, nameIndex := 150, descriptorIndex := 78, attributes := #[] }, { accessFlags := 0, nameIndex := 41, descriptorIndex := 152, attributes := #[] }, { accessFlags := 10, nameIndex := 85, descriptorIndex := 86, attributes := #[] }, { accessFlags := 10, nameIndex := 25, descriptorIndex := 26, attributes := #[] }] 32 2 #[] #[{ accessFlags := 18, nameIndex := 18, descriptorIndex := 19, attributes := #[] }, { accessFlags := 2, nameIndex := 29, descriptorIndex := 30, attributes := #[] }, { accessFlags := 18, nameIndex := 14, descriptorIndex := 15, attributes := #[] }])
  fields := #[{ name := "dimension", type := .int, accessFlags := 18, slot := 0, constantValue := 0 }, { name := "base", type := (.array (.object "java/math/BigInteger")), accessFlags := 2, slot := 1, constantValue := 0 }, { name := "directions", type := (.object "java/util/List"), accessFlags := 18, slot := 2, constantValue := 0 }]
  methods := #[k2m0, k2m1, k2m2, k2m3, k2m4, k2m5]
  instanceTypes := #[.int, (.array (.object "java/math/BigInteger")), (.object "java/util/List")]
  staticTypes := #[]
  resolved := Array.replicate 176 none
  statics := none }

def pool3 : Array CpInfo := pool [(8, .class_ 10), (1, u "java/lang/Iterable"), (24, .class_ 36), (0, u "java/lang/Object")] 25

/-- java/lang/Iterable -/
def k3 : Class := { plain "java/lang/Iterable" (some 0) with
  accessFlags := 1537
  interfaces := #[]
  cf := some (fileOf pool3 8 #[] #[] 1537 35 #[] #[])
  fields := #[]
  methods := #[]
  instanceTypes := #[]
  staticTypes := #[]
  resolved := Array.replicate 62 none
  statics := none }

def pool4 : Array CpInfo := pool [(10, .class_ 12), (1, u "java/util/Collection"), (47, .class_ 61), (0, u "java/lang/Object"), (0, .class_ 63), (0, u "java/lang/Iterable")] 51

/-- java/util/Collection -/
def k4 : Class := { plain "java/util/Collection" (some 0) with
  accessFlags := 1537
  interfaces := #[3]
  cf := some (fileOf pool4 10 #[] #[] 1537 60 #[62] #[])
  fields := #[]
  methods := #[]
  instanceTypes := #[]
  staticTypes := #[]
  resolved := Array.replicate 115 none
  statics := none }

def pool5 : Array CpInfo := pool [(1, .methodref 2 3), (0, .class_ 4), (0, .nameAndType 5 6), (0, u "java/lang/Object"), (0, u "<init>"), (0, u "()V"), (1, .class_ 10), (1, u "java/util/AbstractCollection"), (66, .class_ 78), (0, u "java/util/Collection")] 81

def k5c0 : Code := { maxStack := 1, maxLocals := 1, code := jdk_22_method_1_code, exceptionTable := #[], attributes := #[] }
def k5m0 : Method := { name := "<init>", desc := "()V", sig := { parameters := [], returnType := none }, accessFlags := 4, code := some k5c0 }
/-- java/util/AbstractCollection -/
def k5 : Class := { plain "java/util/AbstractCollection" (some 0) with
  accessFlags := 1057
  interfaces := #[4]
  cf := some (fileOf pool5 8 #[] #[{ accessFlags := 4, nameIndex := 5, descriptorIndex := 6, attributes := #[] }] 1057 2 #[77] #[])
  fields := #[]
  methods := #[k5m0]
  instanceTypes := #[]
  staticTypes := #[]
  resolved := Array.replicate 160 none
  statics := none }

def pool6 : Array CpInfo := pool [(8, .class_ 10), (1, u "java/util/SequencedCollection"), (15, .class_ 27), (0, u "java/lang/Object"), (0, .class_ 29), (0, u "java/util/Collection")] 27

/-- java/util/SequencedCollection -/
def k6 : Class := { plain "java/util/SequencedCollection" (some 0) with
  accessFlags := 1537
  interfaces := #[4]
  cf := some (fileOf pool6 8 #[] #[] 1537 26 #[28] #[])
  fields := #[]
  methods := #[]
  instanceTypes := #[]
  staticTypes := #[]
  resolved := Array.replicate 57 none
  statics := none }

def pool7 : Array CpInfo := pool [(8, .class_ 10), (1, u "java/util/List"), (23, u "toArray"), (25, u "add"), (3, u "(Ljava/lang/Object;)Z"), (14, u "size"), (0, u "()I"), (22, .class_ 104), (0, u "java/lang/Object"), (15, .class_ 121), (0, u "java/util/SequencedCollection"), (1, u "iterator"), (0, u "()Ljava/util/Iterator;"), (2, u "([Ljava/lang/Object;)[Ljava/lang/Object;")] 123

def k7m0 : Method := { name := "size", desc := "()I", sig := { parameters := [], returnType := some .int }, accessFlags := 1025, code := none }
def k7m1 : Method := { name := "iterator", desc := "()Ljava/util/Iterator;", sig := { parameters := [], returnType := some (.object "java/util/Iterator") }, accessFlags := 1025, code := none }
def k7m2 : Method := { name := "toArray", desc := "([Ljava/lang/Object;)[Ljava/lang/Object;", sig := { parameters := [(.array (.object "java/lang/Object"))], returnType := some (.array (.object "java/lang/Object")) }, accessFlags := 1025, code := none }
def k7m3 : Method := { name := "add", desc := "(Ljava/lang/Object;)Z", sig := { parameters := [(.object "java/lang/Object")], returnType := some .boolean }, accessFlags := 1025, code := none }
/-- java/util/List -/
def k7 : Class := { plain "java/util/List" (some 0) with
  accessFlags := 1537
  interfaces := #[6]
  cf := some (fileOf pool7 8 #[] #[{ accessFlags := 1025, nameIndex := 79, descriptorIndex := 80, attributes := #[] }, { accessFlags := 1025, nameIndex := 123, descriptorIndex := 124, attributes := #[] }, { accessFlags := 1025, nameIndex := 34, descriptorIndex := 127, attributes := #[] }, { accessFlags := 1025, nameIndex := 60, descriptorIndex := 64, attributes := #[] }] 1537 103 #[120] #[])
  fields := #[]
  methods := #[k7m0, k7m1, k7m2, k7m3]
  instanceTypes := #[]
  staticTypes := #[]
  resolved := Array.replicate 251 none
  statics := none }

def pool8 : Array CpInfo := pool [(1, .methodref 2 3), (0, .class_ 4), (0, .nameAndType 5 6), (0, u "java/util/AbstractCollection"), (0, u "<init>"), (0, u "()V"), (0, .fieldref 8 9), (0, .class_ 10), (0, .nameAndType 11 12), (0, u "java/util/AbstractList"), (0, u "modCount"), (0, u "I"), (64, .class_ 78), (0, u "java/util/AbstractList$Itr"), (3, .class_ 83), (0, u "java/util/AbstractList$ListItr"), (9, .class_ 94), (0, u "java/util/AbstractList$RandomAccessSubList"), (3, .class_ 99), (0, u "java/util/AbstractList$SubList"), (33, .class_ 134), (0, u "java/util/List"), (73, .class_ 209), (0, u "java/util/AbstractList$SubList$1"), (0, .class_ 211), (0, u "java/util/AbstractList$RandomAccessSpliterator")] 6

def k8c0 : Code := { maxStack := 2, maxLocals := 1, code := jdk_39_method_1_code, exceptionTable := #[], attributes := #[] }
def k8m0 : Method := { name := "<init>", desc := "()V", sig := { parameters := [], returnType := none }, accessFlags := 4, code := some k8c0 }
/-- java/util/AbstractList -/
def k8 : Class := { plain "java/util/AbstractList" (some 5) with
  accessFlags := 1057
  interfaces := #[7]
  cf := some (fileOf pool8 8 #[.nestMembers #[93, 98, 208, 210, 82, 77]] #[{ accessFlags := 4, nameIndex := 5, descriptorIndex := 6, attributes := #[] }] 1057 2 #[133] #[{ accessFlags := 132, nameIndex := 11, descriptorIndex := 12, attributes := #[] }])
  fields := #[{ name := "modCount", type := .int, accessFlags := 132, slot := 0, constantValue := 0 }]
  methods := #[k8m0]
  instanceTypes := #[.int]
  staticTypes := #[]
  resolved := Array.replicate 218 none
  statics := none }

def pool9 : Array CpInfo := pool [(1, .class_ 2), (0, u "java/util/RandomAccess"), (0, .class_ 4), (0, u "java/lang/Object")] 2

/-- java/util/RandomAccess -/
def k9 : Class := { plain "java/util/RandomAccess" (some 0) with
  accessFlags := 1537
  interfaces := #[]
  cf := some (fileOf pool9 1 #[] #[] 1537 3 #[] #[])
  fields := #[]
  methods := #[]
  instanceTypes := #[]
  staticTypes := #[]
  resolved := Array.replicate 7 none
  statics := none }

def pool10 : Array CpInfo := pool [(1, .class_ 2), (0, u "java/lang/Cloneable"), (0, .class_ 4), (0, u "java/lang/Object")] 2

/-- java/lang/Cloneable -/
def k10 : Class := { plain "java/lang/Cloneable" (some 0) with
  accessFlags := 1537
  interfaces := #[]
  cf := some (fileOf pool10 1 #[] #[] 1537 3 #[] #[])
  fields := #[]
  methods := #[]
  instanceTypes := #[]
  staticTypes := #[]
  resolved := Array.replicate 7 none
  statics := none }

def pool11 : Array CpInfo := pool [(1, .class_ 2), (0, u "java/io/Serializable"), (0, .class_ 4), (0, u "java/lang/Object")] 2

/-- java/io/Serializable -/
def k11 : Class := { plain "java/io/Serializable" (some 0) with
  accessFlags := 1537
  interfaces := #[]
  cf := some (fileOf pool11 1 #[] #[] 1537 3 #[] #[])
  fields := #[]
  methods := #[]
  instanceTypes := #[]
  staticTypes := #[]
  resolved := Array.replicate 7 none
  statics := none }

def pool12 : Array CpInfo := pool [(1, .methodref 2 3), (0, .class_ 4), (0, .nameAndType 5 6), (0, u "java/util/AbstractList"), (0, u "<init>"), (0, u "()V"), (0, .class_ 8), (0, u "java/lang/Object"), (0, .fieldref 10 11), (0, .class_ 12), (0, .nameAndType 13 14), (0, u "java/util/ArrayList"), (0, u "elementData"), (0, u "[Ljava/lang/Object;"), (2, u "EMPTY_ELEMENTDATA"), (21, .fieldref 10 40), (0, .nameAndType 41 14), (0, u "DEFAULTCAPACITY_EMPTY_ELEMENTDATA"), (4, u "toArray"), (0, u "()[Ljava/lang/Object;"), (0, .fieldref 10 49), (0, .nameAndType 50 51), (0, u "size"), (0, u "I"), (11, .fieldref 10 64), (0, .nameAndType 65 51), (0, u "modCount"), (3, .methodref 10 70), (0, .nameAndType 71 72), (0, u "grow"), (0, u "(I)[Ljava/lang/Object;"), (6, .methodref 80 81), (0, .class_ 82), (0, .nameAndType 83 84), (0, u "java/lang/Math"), (0, u "max"), (0, u "(II)I"), (11, u "(Ljava/lang/Object;)Z"), (15, .methodref 113 114), (0, .class_ 115), (0, .nameAndType 116 117), (0, u "java/lang/System"), (0, u "arraycopy"), (0, u "(Ljava/lang/Object;ILjava/lang/Object;II)V"), (11, .methodref 10 130), (0, .nameAndType 71 47), (0, .methodref 10 132), (0, .nameAndType 133 134), (0, u "add"), (0, u "(Ljava/lang/Object;[Ljava/lang/Object;I)V"), (13, .class_ 149), (0, u "java/util/List"), (16, u "iterator"), (0, u "()Ljava/util/Iterator;"), (18, u "()I"), (75, .class_ 263), (0, u "java/util/ArrayList$ListItr"), (3, .class_ 268), (0, u "java/util/ArrayList$Itr"), (0, .methodref 267 270), (0, .nameAndType 5 271), (0, u "(Ljava/util/ArrayList;)V"), (4, .class_ 277), (0, u "java/util/ArrayList$SubList"), (12, .class_ 291), (0, u "java/util/ArrayList$ArrayListSpliterator"), (37, .class_ 330), (0, u "java/util/RandomAccess"), (0, .class_ 332), (0, u "java/lang/Cloneable"), (0, .class_ 334), (0, u "java/io/Serializable"), (0, u "serialVersionUID"), (0, u "J"), (3, u "DEFAULT_CAPACITY"), (34, u "([Ljava/lang/Object;)[Ljava/lang/Object;"), (124, .class_ 501), (0, u "java/util/ArrayList$SubList$2"), (0, .class_ 503), (0, u "java/util/ArrayList$SubList$1")] 5

def k12c0 : Code := { maxStack := 2, maxLocals := 1, code := jdk_38_method_2_code, exceptionTable := #[], attributes := #[] }
def k12m0 : Method := { name := "<init>", desc := "()V", sig := { parameters := [], returnType := none }, accessFlags := 1, code := some k12c0 }
def k12c1 : Code := { maxStack := 4, maxLocals := 4, code := jdk_38_method_6_code, exceptionTable := #[], attributes := #[] }
def k12m1 : Method := { name := "grow", desc := "(I)[Ljava/lang/Object;", sig := { parameters := [.int], returnType := some (.array (.object "java/lang/Object")) }, accessFlags := 2, code := some k12c1 }
def k12c2 : Code := { maxStack := 3, maxLocals := 1, code := jdk_38_method_7_code, exceptionTable := #[], attributes := #[] }
def k12m2 : Method := { name := "grow", desc := "()[Ljava/lang/Object;", sig := { parameters := [], returnType := some (.array (.object "java/lang/Object")) }, accessFlags := 2, code := some k12c2 }
def k12c3 : Code := { maxStack := 1, maxLocals := 1, code := jdk_38_method_8_code, exceptionTable := #[], attributes := #[] }
def k12m3 : Method := { name := "size", desc := "()I", sig := { parameters := [], returnType := some .int }, accessFlags := 1, code := some k12c3 }
def k12c4 : Code := { maxStack := 5, maxLocals := 2, code := jdk_38_method_17_code, exceptionTable := #[], attributes := #[] }
def k12m4 : Method := { name := "toArray", desc := "([Ljava/lang/Object;)[Ljava/lang/Object;", sig := { parameters := [(.array (.object "java/lang/Object"))], returnType := some (.array (.object "java/lang/Object")) }, accessFlags := 1, code := some k12c4 }
def k12c5 : Code := { maxStack := 3, maxLocals := 4, code := jdk_38_method_24_code, exceptionTable := #[], attributes := #[] }
def k12m5 : Method := { name := "add", desc := "(Ljava/lang/Object;[Ljava/lang/Object;I)V", sig := { parameters := [(.object "java/lang/Object"), (.array (.object "java/lang/Object")), .int], returnType := none }, accessFlags := 2, code := some k12c5 }
def k12c6 : Code := { maxStack := 4, maxLocals := 2, code := jdk_38_method_25_code, exceptionTable := #[], attributes := #[] }
def k12m6 : Method := { name := "add", desc := "(Ljava/lang/Object;)Z", sig := { parameters := [(.object "java/lang/Object")], returnType := some .boolean }, accessFlags := 1, code := some k12c6 }
def k12c7 : Code := { maxStack := 3, maxLocals := 1, code := jdk_38_method_55_code, exceptionTable := #[], attributes := #[] }
def k12m7 : Method := { name := "iterator", desc := "()Ljava/util/Iterator;", sig := { parameters := [], returnType := some (.object "java/util/Iterator") }, accessFlags := 1, code := some k12c7 }
/-- java/util/ArrayList -/
def k12 : Class := { plain "java/util/ArrayList" (some 8) with
  accessFlags := 33
  interfaces := #[7, 9, 10, 11]
  cf := some (fileOf pool12 10 #[.nestMembers #[290, 276, 500, 502, 262, 267]] #[{ accessFlags := 1, nameIndex := 5, descriptorIndex := 6, attributes := #[] }, { accessFlags := 2, nameIndex := 71, descriptorIndex := 72, attributes := #[] }, { accessFlags := 2, nameIndex := 71, descriptorIndex := 47, attributes := #[] }, { accessFlags := 1, nameIndex := 50, descriptorIndex := 186, attributes := #[] }, { accessFlags := 1, nameIndex := 46, descriptorIndex := 375, attributes := #[] }, { accessFlags := 2, nameIndex := 133, descriptorIndex := 134, attributes := #[] }, { accessFlags := 1, nameIndex := 133, descriptorIndex := 96, attributes := #[] }, { accessFlags := 1, nameIndex := 166, descriptorIndex := 167, attributes := #[] }] 33 2 #[148, 329, 331, 333] #[{ accessFlags := 26, nameIndex := 335, descriptorIndex := 336, attributes := #[] }, { accessFlags := 26, nameIndex := 340, descriptorIndex := 51, attributes := #[] }, { accessFlags := 26, nameIndex := 17, descriptorIndex := 14, attributes := #[] }, { accessFlags := 26, nameIndex := 41, descriptorIndex := 14, attributes := #[] }, { accessFlags := 128, nameIndex := 13, descriptorIndex := 14, attributes := #[] }, { accessFlags := 2, nameIndex := 50, descriptorIndex := 51, attributes := #[] }])
  fields := #[{ name := "serialVersionUID", type := .long, accessFlags := 26, slot := 0, constantValue := 0 }, { name := "DEFAULT_CAPACITY", type := .int, accessFlags := 26, slot := 1, constantValue := 0 }, { name := "EMPTY_ELEMENTDATA", type := (.array (.object "java/lang/Object")), accessFlags := 26, slot := 2, constantValue := 0 }, { name := "DEFAULTCAPACITY_EMPTY_ELEMENTDATA", type := (.array (.object "java/lang/Object")), accessFlags := 26, slot := 3, constantValue := 0 }, { name := "elementData", type := (.array (.object "java/lang/Object")), accessFlags := 128, slot := 1, constantValue := 0 }, { name := "size", type := .int, accessFlags := 2, slot := 2, constantValue := 0 }]
  methods := #[k12m0, k12m1, k12m2, k12m3, k12m4, k12m5, k12m6, k12m7]
  instanceTypes := #[.int, (.array (.object "java/lang/Object")), .int]
  staticTypes := #[.long, .int, (.array (.object "java/lang/Object")), (.array (.object "java/lang/Object"))]
  resolved := Array.replicate 509 none
  statics := some 0 }

def pool13 : Array CpInfo := pool [(2, .class_ 4), (1, u "java/lang/Object"), (0, u "<init>"), (0, u "()V"), (1, .class_ 10), (1, u "java/lang/Number"), (2, .class_ 14), (0, u "java/io/Serializable"), (0, u "serialVersionUID"), (0, u "J")] 20

def k13m0 : Method := { name := "<init>", desc := "()V", sig := { parameters := [], returnType := none }, accessFlags := 1, code := none }
/-- java/lang/Number -/
def k13 : Class := { plain "java/lang/Number" (some 0) with
  accessFlags := 1057
  interfaces := #[11]
  cf := some (fileOf pool13 8 #[] #[{ accessFlags := 1, nameIndex := 5, descriptorIndex := 6, attributes := #[] }] 1057 2 #[13] #[{ accessFlags := 26, nameIndex := 15, descriptorIndex := 16, attributes := #[] }])
  fields := #[{ name := "serialVersionUID", type := .long, accessFlags := 26, slot := 0, constantValue := 0 }]
  methods := #[k13m0]
  instanceTypes := #[]
  staticTypes := #[.long]
  resolved := Array.replicate 37 none
  statics := none }

def pool14 : Array CpInfo := pool [(1, .class_ 2), (0, u "java/lang/Comparable"), (0, .class_ 4), (0, u "java/lang/Object")] 7

/-- java/lang/Comparable -/
def k14 : Class := { plain "java/lang/Comparable" (some 0) with
  accessFlags := 1537
  interfaces := #[]
  cf := some (fileOf pool14 1 #[] #[] 1537 3 #[] #[])
  fields := #[]
  methods := #[]
  instanceTypes := #[]
  staticTypes := #[]
  resolved := Array.replicate 12 none
  statics := none }

def pool15 : Array CpInfo := pool [(4, .class_ 6), (1, u "java/lang/Number"), (16, .class_ 25), (1, u "java/math/BigInteger"), (0, u "ZERO"), (0, u "Ljava/math/BigInteger;"), (2, u "mag"), (0, u "[I"), (2, u "signum"), (0, u "I"), (59, u "bitsPerDigit"), (0, u "[J"), (9, u "digitsPerInt"), (12, u "intRadix"), (60, u "SMALL_PRIME_PRODUCT"), (79, u "ONE"), (6, u "TWO"), (43, u "$assertionsDisabled"), (0, u "Z"), (36, u "posConst"), (0, u "[Ljava/math/BigInteger;"), (4, u "negConst"), (116, .class_ 474), (1, u "java/math/BigInteger$RecursiveOp"), (106, u "NEGATIVE_ONE"), (91, u "bnExpModThreshTable"), (72, u "lowestSetBitPlusTwo"), (2, u "bitLengthPlusOne"), (2, u "bitCountPlusOne"), (6, u "LOG_TWO"), (0, u "D"), (2, u "logCache"), (0, u "[D"), (13, u "NUM_ZEROS"), (2, u "ZEROS"), (0, u "Ljava/lang/String;"), (9, u "longRadix"), (5, u "digitsPerLong"), (22, u "powerCache"), (0, u "[[Ljava/math/BigInteger;"), (45, u "firstNonzeroIntNumPlusTwo"), (38, .class_ 909), (1, u "java/math/BigInteger$UnsafeHolder"), (141, u "TEN"), (106, u "serialPersistentFields"), (0, u "[Ljava/io/ObjectStreamField;"), (0, .class_ 1161), (0, u "java/lang/Comparable"), (0, u "LONG_MASK"), (0, u "J"), (1, u "MAX_MAG_LENGTH"), (0, u "PRIME_SEARCH_BIT_LENGTH_LIMIT"), (1, u "KARATSUBA_THRESHOLD"), (1, u "TOOM_COOK_THRESHOLD"), (1, u "KARATSUBA_SQUARE_THRESHOLD"), (1, u "TOOM_COOK_SQUARE_THRESHOLD"), (1, u "BURNIKEL_ZIEGLER_THRESHOLD"), (0, u "BURNIKEL_ZIEGLER_OFFSET"), (1, u "SCHOENHAGE_BASE_CONVERSION_THRESHOLD"), (1, u "MULTIPLY_SQUARE_THRESHOLD"), (0, u "MONTGOMERY_INTRINSIC_THRESHOLD"), (1, u "SMALL_PRIME_THRESHOLD"), (1, u "DEFAULT_PRIME_CERTAINTY"), (1, u "MAX_CONSTANT"), (3, u "serialVersionUID"), (338, .class_ 1532), (0, u "java/math/BigInteger$RecursiveOp$RecursiveSquare"), (0, .class_ 1534), (0, u "java/math/BigInteger$RecursiveOp$RecursiveMultiply")] 7

/-- java/math/BigInteger -/
def k15 : Class := { plain "java/math/BigInteger" (some 13) with
  accessFlags := 33
  interfaces := #[14]
  cf := some (fileOf pool15 23 #[.nestMembers #[907, 472, 1531, 1533]] #[] 33 4 #[1160] #[{ accessFlags := 16, nameIndex := 34, descriptorIndex := 35, attributes := #[] }, { accessFlags := 16, nameIndex := 30, descriptorIndex := 31, attributes := #[] }, { accessFlags := 2, nameIndex := 752, descriptorIndex := 35, attributes := #[] }, { accessFlags := 2, nameIndex := 749, descriptorIndex := 35, attributes := #[] }, { accessFlags := 2, nameIndex := 746, descriptorIndex := 35, attributes := #[] }, { accessFlags := 2, nameIndex := 868, descriptorIndex := 35, attributes := #[] }, { accessFlags := 24, nameIndex := 1162, descriptorIndex := 1163, attributes := #[] }, { accessFlags := 26, nameIndex := 1165, descriptorIndex := 35, attributes := #[] }, { accessFlags := 26, nameIndex := 1166, descriptorIndex := 35, attributes := #[] }, { accessFlags := 26, nameIndex := 1168, descriptorIndex := 35, attributes := #[] }, { accessFlags := 26, nameIndex := 1170, descriptorIndex := 35, attributes := #[] }, { accessFlags := 26, nameIndex := 1172, descriptorIndex := 35, attributes := #[] }, { accessFlags := 26, nameIndex := 1174, descriptorIndex := 35, attributes := #[] }, { accessFlags := 24, nameIndex := 1176, descriptorIndex := 35, attributes := #[] }, { accessFlags := 24, nameIndex := 1177, descriptorIndex := 35, attributes := #[] }, { accessFlags := 26, nameIndex := 1179, descriptorIndex := 35, attributes := #[] }, { accessFlags := 26, nameIndex := 1181, descriptorIndex := 35, attributes := #[] }, { accessFlags := 26, nameIndex := 1182, descriptorIndex := 35, attributes := #[] }, { accessFlags := 10, nameIndex := 95, descriptorIndex := 96, attributes := #[] }, { accessFlags := 26, nameIndex := 1184, descriptorIndex := 35, attributes := #[] }, { accessFlags := 26, nameIndex := 1186, descriptorIndex := 35, attributes := #[] }, { accessFlags := 26, nameIndex := 180, descriptorIndex := 27, attributes := #[] }, { accessFlags := 26, nameIndex := 1188, descriptorIndex := 35, attributes := #[] }, { accessFlags := 26, nameIndex := 349, descriptorIndex := 350, attributes := #[] }, { accessFlags := 26, nameIndex := 355, descriptorIndex := 350, attributes := #[] }, { accessFlags := 74, nameIndex := 821, descriptorIndex := 822, attributes := #[] }, { accessFlags := 26, nameIndex := 763, descriptorIndex := 764, attributes := #[] }, { accessFlags := 26, nameIndex := 759, descriptorIndex := 760, attributes := #[] }, { accessFlags := 25, nameIndex := 26, descriptorIndex := 27, attributes := #[] }, { accessFlags := 25, nameIndex := 260, descriptorIndex := 27, attributes := #[] }, { accessFlags := 25, nameIndex := 267, descriptorIndex := 27, attributes := #[] }, { accessFlags := 26, nameIndex := 581, descriptorIndex := 27, attributes := #[] }, { accessFlags := 25, nameIndex := 1051, descriptorIndex := 27, attributes := #[] }, { accessFlags := 8, nameIndex := 673, descriptorIndex := 31, attributes := #[] }, { accessFlags := 10, nameIndex := 778, descriptorIndex := 35, attributes := #[] }, { accessFlags := 26, nameIndex := 781, descriptorIndex := 782, attributes := #[] }, { accessFlags := 10, nameIndex := 798, descriptorIndex := 31, attributes := #[] }, { accessFlags := 10, nameIndex := 792, descriptorIndex := 350, attributes := #[] }, { accessFlags := 10, nameIndex := 106, descriptorIndex := 31, attributes := #[] }, { accessFlags := 10, nameIndex := 119, descriptorIndex := 31, attributes := #[] }, { accessFlags := 26, nameIndex := 1192, descriptorIndex := 1163, attributes := #[] }, { accessFlags := 26, nameIndex := 1158, descriptorIndex := 1159, attributes := #[] }, { accessFlags := 4120, nameIndex := 311, descriptorIndex := 312, attributes := #[] }])
  fields := #[{ name := "signum", type := .int, accessFlags := 16, slot := 0, constantValue := 0 }, { name := "mag", type := (.array .int), accessFlags := 16, slot := 1, constantValue := 0 }, { name := "bitCountPlusOne", type := .int, accessFlags := 2, slot := 2, constantValue := 0 }, { name := "bitLengthPlusOne", type := .int, accessFlags := 2, slot := 3, constantValue := 0 }, { name := "lowestSetBitPlusTwo", type := .int, accessFlags := 2, slot := 4, constantValue := 0 }, { name := "firstNonzeroIntNumPlusTwo", type := .int, accessFlags := 2, slot := 5, constantValue := 0 }, { name := "LONG_MASK", type := .long, accessFlags := 24, slot := 0, constantValue := 0 }, { name := "MAX_MAG_LENGTH", type := .int, accessFlags := 26, slot := 1, constantValue := 0 }, { name := "PRIME_SEARCH_BIT_LENGTH_LIMIT", type := .int, accessFlags := 26, slot := 2, constantValue := 0 }, { name := "KARATSUBA_THRESHOLD", type := .int, accessFlags := 26, slot := 3, constantValue := 0 }, { name := "TOOM_COOK_THRESHOLD", type := .int, accessFlags := 26, slot := 4, constantValue := 0 }, { name := "KARATSUBA_SQUARE_THRESHOLD", type := .int, accessFlags := 26, slot := 5, constantValue := 0 }, { name := "TOOM_COOK_SQUARE_THRESHOLD", type := .int, accessFlags := 26, slot := 6, constantValue := 0 }, { name := "BURNIKEL_ZIEGLER_THRESHOLD", type := .int, accessFlags := 24, slot := 7, constantValue := 0 }, { name := "BURNIKEL_ZIEGLER_OFFSET", type := .int, accessFlags := 24, slot := 8, constantValue := 0 }, { name := "SCHOENHAGE_BASE_CONVERSION_THRESHOLD", type := .int, accessFlags := 26, slot := 9, constantValue := 0 }, { name := "MULTIPLY_SQUARE_THRESHOLD", type := .int, accessFlags := 26, slot := 10, constantValue := 0 }, { name := "MONTGOMERY_INTRINSIC_THRESHOLD", type := .int, accessFlags := 26, slot := 11, constantValue := 0 }, { name := "bitsPerDigit", type := (.array .long), accessFlags := 10, slot := 12, constantValue := 0 }, { name := "SMALL_PRIME_THRESHOLD", type := .int, accessFlags := 26, slot := 13, constantValue := 0 }, { name := "DEFAULT_PRIME_CERTAINTY", type := .int, accessFlags := 26, slot := 14, constantValue := 0 }, { name := "SMALL_PRIME_PRODUCT", type := (.object "java/math/BigInteger"), accessFlags := 26, slot := 15, constantValue := 0 }, { name := "MAX_CONSTANT", type := .int, accessFlags := 26, slot := 16, constantValue := 0 }, { name := "posConst", type := (.array (.object "java/math/BigInteger")), accessFlags := 26, slot := 17, constantValue := 0 }, { name := "negConst", type := (.array (.object "java/math/BigInteger")), accessFlags := 26, slot := 18, constantValue := 0 }, { name := "powerCache", type := (.array (.array (.object "java/math/BigInteger"))), accessFlags := 74, slot := 19, constantValue := 0 }, { name := "logCache", type := (.array .double), accessFlags := 26, slot := 20, constantValue := 0 }, { name := "LOG_TWO", type := .double, accessFlags := 26, slot := 21, constantValue := 0 }, { name := "ZERO", type := (.object "java/math/BigInteger"), accessFlags := 25, slot := 22, constantValue := 0 }, { name := "ONE", type := (.object "java/math/BigInteger"), accessFlags := 25, slot := 23, constantValue := 0 }, { name := "TWO", type := (.object "java/math/BigInteger"), accessFlags := 25, slot := 24, constantValue := 0 }, { name := "NEGATIVE_ONE", type := (.object "java/math/BigInteger"), accessFlags := 26, slot := 25, constantValue := 0 }, { name := "TEN", type := (.object "java/math/BigInteger"), accessFlags := 25, slot := 26, constantValue := 0 }, { name := "bnExpModThreshTable", type := (.array .int), accessFlags := 8, slot := 27, constantValue := 0 }, { name := "NUM_ZEROS", type := .int, accessFlags := 10, slot := 28, constantValue := 0 }, { name := "ZEROS", type := (.object "java/lang/String"), accessFlags := 26, slot := 29, constantValue := 0 }, { name := "digitsPerLong", type := (.array .int), accessFlags := 10, slot := 30, constantValue := 0 }, { name := "longRadix", type := (.array (.object "java/math/BigInteger")), accessFlags := 10, slot := 31, constantValue := 0 }, { name := "digitsPerInt", type := (.array .int), accessFlags := 10, slot := 32, constantValue := 0 }, { name := "intRadix", type := (.array .int), accessFlags := 10, slot := 33, constantValue := 0 }, { name := "serialVersionUID", type := .long, accessFlags := 26, slot := 34, constantValue := 0 }, { name := "serialPersistentFields", type := (.array (.object "java/io/ObjectStreamField")), accessFlags := 26, slot := 35, constantValue := 0 }, { name := "$assertionsDisabled", type := .boolean, accessFlags := 4120, slot := 36, constantValue := 0 }]
  methods := #[]
  instanceTypes := #[.int, (.array .int), .int, .int, .int, .int]
  staticTypes := #[.long, .int, .int, .int, .int, .int, .int, .int, .int, .int, .int, .int, (.array .long), .int, .int, (.object "java/math/BigInteger"), .int, (.array (.object "java/math/BigInteger")), (.array (.object "java/math/BigInteger")), (.array (.array (.object "java/math/BigInteger"))), (.array .double), .double, (.object "java/math/BigInteger"), (.object "java/math/BigInteger"), (.object "java/math/BigInteger"), (.object "java/math/BigInteger"), (.object "java/math/BigInteger"), (.array .int), .int, (.object "java/lang/String"), (.array .int), (.array (.object "java/math/BigInteger")), (.array .int), (.array .int), .long, (.array (.object "java/io/ObjectStreamField")), .boolean]
  resolved := Array.replicate 1542 none
  statics := some 1 }

def pool16 : Array CpInfo := pool [(2, .class_ 4), (1, u "java/lang/Object"), (0, u "<init>"), (0, u "()V"), (7, .class_ 16), (1, u "java/util/Arrays"), (57, .class_ 76), (1, u "java/util/Arrays$NaturalOrder"), (36, .class_ 115), (1, u "java/util/Arrays$LegacyMergeSort"), (1, u "Z"), (257, .class_ 376), (0, u "java/util/Arrays$ArrayList"), (68, u "$assertionsDisabled"), (269, u "MIN_ARRAY_SORT_GRAN"), (0, u "I"), (2, u "INSERTIONSORT_THRESHOLD"), (120, u "fill"), (17, u "([Ljava/lang/Object;Ljava/lang/Object;)V"), (116, .class_ 976), (0, u "java/util/Arrays$ArrayItr")] 52

def k16m0 : Method := { name := "<init>", desc := "()V", sig := { parameters := [], returnType := none }, accessFlags := 2, code := none }
def k16c1 : Code := { maxStack := 3, maxLocals := 4, code := jdk_65_method_117_code, exceptionTable := #[], attributes := #[] }
def k16m1 : Method := { name := "fill", desc := "([Ljava/lang/Object;Ljava/lang/Object;)V", sig := { parameters := [(.array (.object "java/lang/Object")), (.object "java/lang/Object")], returnType := none }, accessFlags := 9, code := some k16c1 }
/-- java/util/Arrays -/
def k16 : Class := { plain "java/util/Arrays" (some 0) with
  accessFlags := 49
  interfaces := #[]
  cf := some (fileOf pool16 14 #[.nestMembers #[975, 375, 113, 74]] #[{ accessFlags := 2, nameIndex := 5, descriptorIndex := 6, attributes := #[] }, { accessFlags := 9, nameIndex := 840, descriptorIndex := 858, attributes := #[] }] 49 2 #[] #[{ accessFlags := 26, nameIndex := 715, descriptorIndex := 716, attributes := #[] }, { accessFlags := 26, nameIndex := 719, descriptorIndex := 716, attributes := #[] }, { accessFlags := 4120, nameIndex := 445, descriptorIndex := 117, attributes := #[] }])
  fields := #[{ name := "MIN_ARRAY_SORT_GRAN", type := .int, accessFlags := 26, slot := 0, constantValue := 0 }, { name := "INSERTIONSORT_THRESHOLD", type := .int, accessFlags := 26, slot := 1, constantValue := 0 }, { name := "$assertionsDisabled", type := .boolean, accessFlags := 4120, slot := 2, constantValue := 0 }]
  methods := #[k16m0, k16m1]
  instanceTypes := #[]
  staticTypes := #[.int, .int, .boolean]
  resolved := Array.replicate 1029 none
  statics := none }

def pool17 : Array CpInfo := pool [(1, .class_ 2), (0, u "java/lang/Math"), (1, .class_ 6), (1, u "java/lang/Object"), (0, u "<init>"), (0, u "()V"), (89, .class_ 100), (1, u "java/lang/Math$RandomNumberGeneratorHolder"), (71, u "negativeZeroFloatBits"), (0, u "J"), (2, u "negativeZeroDoubleBits"), (21, u "max"), (46, u "$assertionsDisabled"), (0, u "Z"), (88, u "(II)I"), (2, u "twoToTheDoubleScaleDown"), (0, u "D"), (4, u "twoToTheDoubleScaleUp"), (9, u "E"), (3, u "PI"), (2, u "TAU"), (2, u "DEGREES_TO_RADIANS"), (0, u "RADIANS_TO_DEGREES")] 94

def k17m0 : Method := { name := "<init>", desc := "()V", sig := { parameters := [], returnType := none }, accessFlags := 2, code := none }
def k17c1 : Code := { maxStack := 2, maxLocals := 2, code := jdk_29_method_65_code, exceptionTable := #[], attributes := #[] }
def k17m1 : Method := { name := "max", desc := "(II)I", sig := { parameters := [.int, .int], returnType := some .int }, accessFlags := 9, code := some k17c1 }
/-- java/lang/Math -/
def k17 : Class := { plain "java/lang/Math" (some 0) with
  accessFlags := 49
  interfaces := #[]
  cf := some (fileOf pool17 1 #[.nestMembers #[98]] #[{ accessFlags := 2, nameIndex := 7, descriptorIndex := 8, attributes := #[] }, { accessFlags := 9, nameIndex := 198, descriptorIndex := 335, attributes := #[] }] 49 4 #[] #[{ accessFlags := 25, nameIndex := 354, descriptorIndex := 339, attributes := #[] }, { accessFlags := 25, nameIndex := 358, descriptorIndex := 339, attributes := #[] }, { accessFlags := 25, nameIndex := 361, descriptorIndex := 339, attributes := #[] }, { accessFlags := 26, nameIndex := 364, descriptorIndex := 339, attributes := #[] }, { accessFlags := 26, nameIndex := 365, descriptorIndex := 339, attributes := #[] }, { accessFlags := 26, nameIndex := 172, descriptorIndex := 173, attributes := #[] }, { accessFlags := 26, nameIndex := 176, descriptorIndex := 173, attributes := #[] }, { accessFlags := 8, nameIndex := 344, descriptorIndex := 339, attributes := #[] }, { accessFlags := 8, nameIndex := 338, descriptorIndex := 339, attributes := #[] }, { accessFlags := 4120, nameIndex := 245, descriptorIndex := 246, attributes := #[] }])
  fields := #[{ name := "E", type := .double, accessFlags := 25, slot := 0, constantValue := 0 }, { name := "PI", type := .double, accessFlags := 25, slot := 1, constantValue := 0 }, { name := "TAU", type := .double, accessFlags := 25, slot := 2, constantValue := 0 }, { name := "DEGREES_TO_RADIANS", type := .double, accessFlags := 26, slot := 3, constantValue := 0 }, { name := "RADIANS_TO_DEGREES", type := .double, accessFlags := 26, slot := 4, constantValue := 0 }, { name := "negativeZeroFloatBits", type := .long, accessFlags := 26, slot := 5, constantValue := 0 }, { name := "negativeZeroDoubleBits", type := .long, accessFlags := 26, slot := 6, constantValue := 0 }, { name := "twoToTheDoubleScaleUp", type := .double, accessFlags := 8, slot := 7, constantValue := 0 }, { name := "twoToTheDoubleScaleDown", type := .double, accessFlags := 8, slot := 8, constantValue := 0 }, { name := "$assertionsDisabled", type := .boolean, accessFlags := 4120, slot := 9, constantValue := 0 }]
  methods := #[k17m0, k17m1]
  instanceTypes := #[]
  staticTypes := #[.double, .double, .double, .double, .double, .long, .long, .double, .double, .boolean]
  resolved := Array.replicate 460 none
  statics := none }

def pool18 : Array CpInfo := pool [(2, .class_ 4), (1, u "java/lang/Object"), (0, u "<init>"), (0, u "()V"), (1, .class_ 10), (1, u "java/lang/System"), (0, u "allowSecurityManager"), (0, u "I"), (16, u "cons"), (0, u "Ljava/io/Console;"), (77, .class_ 110), (1, u "java/lang/System$CallersHolder"), (43, u "initialErrStream"), (0, u "Ljava/io/PrintStream;"), (19, u "security"), (0, u "Ljava/lang/SecurityManager;"), (31, .class_ 209), (0, u "java/lang/System$1"), (7, u "props"), (0, u "Ljava/util/Properties;"), (2, u "lineSeparator"), (0, u "Ljava/lang/String;"), (96, .class_ 321), (1, u "java/lang/System$LoggerFinder"), (5, .class_ 328), (0, u "java/lang/System$Logger"), (67, u "err"), (2, u "out"), (91, u "notSupportedJnuEncoding"), (15, u "in"), (17, u "initialIn"), (0, u "Ljava/io/InputStream;"), (35, u "bootLayer"), (0, u "Ljava/lang/ModuleLayer;"), (99, .class_ 664), (0, u "java/lang/System$2"), (9, u "NEVER"), (2, u "MAYBE"), (49, u "arraycopy"), (0, u "(Ljava/lang/Object;ILjava/lang/Object;II)V"), (72, .class_ 802), (0, u "java/lang/System$Logger$Level")] 31

def k18m0 : Method := { name := "<init>", desc := "()V", sig := { parameters := [], returnType := none }, accessFlags := 2, code := none }
def k18m1 : Method := { name := "arraycopy", desc := "(Ljava/lang/Object;ILjava/lang/Object;II)V", sig := { parameters := [(.object "java/lang/Object"), .int, (.object "java/lang/Object"), .int, .int], returnType := none }, accessFlags := 265, code := none }
/-- java/lang/System -/
def k18 : Class := { plain "java/lang/System" (some 0) with
  accessFlags := 49
  interfaces := #[]
  cf := some (fileOf pool18 8 #[.nestMembers #[319, 327, 801, 108, 663, 208]] #[{ accessFlags := 2, nameIndex := 5, descriptorIndex := 6, attributes := #[] }, { accessFlags := 265, nameIndex := 727, descriptorIndex := 728, attributes := #[] }] 49 2 #[] #[{ accessFlags := 25, nameIndex := 507, descriptorIndex := 526, attributes := #[] }, { accessFlags := 25, nameIndex := 399, descriptorIndex := 155, attributes := #[] }, { accessFlags := 25, nameIndex := 396, descriptorIndex := 155, attributes := #[] }, { accessFlags := 10, nameIndex := 525, descriptorIndex := 526, attributes := #[] }, { accessFlags := 26, nameIndex := 674, descriptorIndex := 12, attributes := #[] }, { accessFlags := 26, nameIndex := 677, descriptorIndex := 12, attributes := #[] }, { accessFlags := 10, nameIndex := 11, descriptorIndex := 12, attributes := #[] }, { accessFlags := 74, nameIndex := 175, descriptorIndex := 176, attributes := #[] }, { accessFlags := 10, nameIndex := 491, descriptorIndex := 222, attributes := #[] }, { accessFlags := 74, nameIndex := 29, descriptorIndex := 30, attributes := #[] }, { accessFlags := 74, nameIndex := 154, descriptorIndex := 155, attributes := #[] }, { accessFlags := 10, nameIndex := 217, descriptorIndex := 218, attributes := #[] }, { accessFlags := 10, nameIndex := 221, descriptorIndex := 222, attributes := #[] }, { accessFlags := 8, nameIndex := 562, descriptorIndex := 563, attributes := #[] }])
  fields := #[{ name := "in", type := (.object "java/io/InputStream"), accessFlags := 25, slot := 0, constantValue := 0 }, { name := "out", type := (.object "java/io/PrintStream"), accessFlags := 25, slot := 1, constantValue := 0 }, { name := "err", type := (.object "java/io/PrintStream"), accessFlags := 25, slot := 2, constantValue := 0 }, { name := "initialIn", type := (.object "java/io/InputStream"), accessFlags := 10, slot := 3, constantValue := 0 }, { name := "NEVER", type := .int, accessFlags := 26, slot := 4, constantValue := 0 }, { name := "MAYBE", type := .int, accessFlags := 26, slot := 5, constantValue := 0 }, { name := "allowSecurityManager", type := .int, accessFlags := 10, slot := 6, constantValue := 0 }, { name := "security", type := (.object "java/lang/SecurityManager"), accessFlags := 74, slot := 7, constantValue := 0 }, { name := "notSupportedJnuEncoding", type := (.object "java/lang/String"), accessFlags := 10, slot := 8, constantValue := 0 }, { name := "cons", type := (.object "java/io/Console"), accessFlags := 74, slot := 9, constantValue := 0 }, { name := "initialErrStream", type := (.object "java/io/PrintStream"), accessFlags := 74, slot := 10, constantValue := 0 }, { name := "props", type := (.object "java/util/Properties"), accessFlags := 10, slot := 11, constantValue := 0 }, { name := "lineSeparator", type := (.object "java/lang/String"), accessFlags := 10, slot := 12, constantValue := 0 }, { name := "bootLayer", type := (.object "java/lang/ModuleLayer"), accessFlags := 8, slot := 13, constantValue := 0 }]
  methods := #[k18m0, k18m1]
  instanceTypes := #[]
  staticTypes := #[(.object "java/io/InputStream"), (.object "java/io/PrintStream"), (.object "java/io/PrintStream"), (.object "java/io/InputStream"), .int, .int, .int, (.object "java/lang/SecurityManager"), (.object "java/lang/String"), (.object "java/io/Console"), (.object "java/io/PrintStream"), (.object "java/util/Properties"), (.object "java/lang/String"), (.object "java/lang/ModuleLayer")]
  resolved := Array.replicate 834 none
  statics := none }

def pool19 : Array CpInfo := pool [(16, .class_ 18), (1, u "java/util/Iterator"), (0, u "hasNext"), (0, u "()Z"), (10, .class_ 32), (0, u "java/lang/Object")] 20

def k19m0 : Method := { name := "hasNext", desc := "()Z", sig := { parameters := [], returnType := some .boolean }, accessFlags := 1025, code := none }
/-- java/util/Iterator -/
def k19 : Class := { plain "java/util/Iterator" (some 0) with
  accessFlags := 1537
  interfaces := #[]
  cf := some (fileOf pool19 16 #[] #[{ accessFlags := 1025, nameIndex := 19, descriptorIndex := 20, attributes := #[] }] 1537 31 #[] #[])
  fields := #[]
  methods := #[k19m0]
  instanceTypes := #[]
  staticTypes := #[]
  resolved := Array.replicate 53 none
  statics := none }

def pool20 : Array CpInfo := pool [(1, .fieldref 2 3), (0, .class_ 4), (0, .nameAndType 5 6), (0, u "java/util/ArrayList$Itr"), (0, u "this$0"), (0, u "Ljava/util/ArrayList;"), (0, .methodref 8 9), (0, .class_ 10), (0, .nameAndType 11 12), (0, u "java/lang/Object"), (0, u "<init>"), (0, u "()V"), (0, .fieldref 2 14), (0, .nameAndType 15 16), (0, u "lastRet"), (0, u "I"), (0, .fieldref 18 19), (0, .class_ 20), (0, .nameAndType 21 16), (0, u "java/util/ArrayList"), (0, u "modCount"), (0, .fieldref 2 23), (0, .nameAndType 24 16), (0, u "expectedModCount"), (0, .fieldref 2 26), (0, .nameAndType 27 16), (0, u "cursor"), (0, .fieldref 18 29), (0, .nameAndType 30 16), (0, u "size"), (38, .class_ 70), (0, u "java/util/Iterator"), (0, u "(Ljava/util/ArrayList;)V"), (8, u "hasNext"), (0, u "()Z")] 22

def k20c0 : Code := { maxStack := 2, maxLocals := 2, code := jdk_49_method_1_code, exceptionTable := #[], attributes := #[] }
def k20m0 : Method := { name := "<init>", desc := "(Ljava/util/ArrayList;)V", sig := { parameters := [(.object "java/util/ArrayList")], returnType := none }, accessFlags := 0, code := some k20c0 }
def k20c1 : Code := { maxStack := 2, maxLocals := 1, code := jdk_49_method_2_code, exceptionTable := #[], attributes := #[] }
def k20m1 : Method := { name := "hasNext", desc := "()Z", sig := { parameters := [], returnType := some .boolean }, accessFlags := 1, code := some k20c1 }
/-- java/util/ArrayList$Itr -/
def k20 : Class := { plain "java/util/ArrayList$Itr" (some 0) with
  accessFlags := 32
  interfaces := #[19]
  cf := some (fileOf pool20 2 #[.nestHost 18] #[{ accessFlags := 0, nameIndex := 11, descriptorIndex := 71, attributes := #[] }, { accessFlags := 1, nameIndex := 80, descriptorIndex := 81, attributes := #[] }] 32 8 #[69] #[{ accessFlags := 0, nameIndex := 27, descriptorIndex := 16, attributes := #[] }, { accessFlags := 0, nameIndex := 15, descriptorIndex := 16, attributes := #[] }, { accessFlags := 0, nameIndex := 24, descriptorIndex := 16, attributes := #[] }, { accessFlags := 4112, nameIndex := 5, descriptorIndex := 6, attributes := #[] }])
  fields := #[{ name := "cursor", type := .int, accessFlags := 0, slot := 0, constantValue := 0 }, { name := "lastRet", type := .int, accessFlags := 0, slot := 1, constantValue := 0 }, { name := "expectedModCount", type := .int, accessFlags := 0, slot := 2, constantValue := 0 }, { name := "this$0", type := (.object "java/util/ArrayList"), accessFlags := 4112, slot := 3, constantValue := 0 }]
  methods := #[k20m0, k20m1]
  instanceTypes := #[.int, .int, .int, (.object "java/util/ArrayList")]
  staticTypes := #[]
  resolved := Array.replicate 104 none
  statics := none }

/-- the primitive byte -/
def k21 : Class := { plain "byte" none with kind := .primitive 'B', accessFlags := 0x411 }
/-- [B -/
def k22 : Class := { plain "[B" (some 0) with kind := .array 21 .byte, interfaces := #[10, 11], accessFlags := 1041 }

/-- the primitive int -/
def k23 : Class := { plain "int" none with kind := .primitive 'I', accessFlags := 0x411 }
/-- [I -/
def k24 : Class := { plain "[I" (some 0) with kind := .array 23 .int, interfaces := #[10, 11], accessFlags := 1041 }

/-- [Ljava/lang/Object; -/
def k25 : Class := { plain "[Ljava/lang/Object;" (some 0) with kind := .array 0 (.object "java/lang/Object"), interfaces := #[10, 11], accessFlags := 1041 }

/-- [Ljava/math/BigInteger; -/
def k26 : Class := { plain "[Ljava/math/BigInteger;" (some 0) with kind := .array 15 (.object "java/math/BigInteger"), interfaces := #[10, 11], accessFlags := 1041 }

def heap : Heap := #[{ cls := 12, slots := #[.long 0, .int 0, .ref 6, .ref 7], vm := .statics 12 },
  { cls := 15, slots := #[.long 0, .int 0, .int 0, .int 0, .int 0, .int 0, .int 0, .int 0, .int 0, .int 0, .int 0, .int 0, .null, .int 0, .int 0, .null, .int 0, .null, .null, .null, .null, .double 0, .ref 4, .ref 5, .null, .null, .null, .null, .int 0, .null, .null, .null, .null, .null, .long 0, .null, .int 0], vm := .statics 15 },
  { cls := 24, slots := #[], vm := .none },
  { cls := 24, slots := #[.int 1], vm := .none },
  { cls := 15, slots := #[.int 0, .ref 2, .int 0, .int 0, .int 0, .int 0], vm := .none },
  { cls := 15, slots := #[.int 1, .ref 3, .int 0, .int 0, .int 0, .int 0], vm := .none },
  { cls := 25, slots := #[], vm := .none },
  { cls := 25, slots := #[], vm := .none }]
def classes : Array Class := #[k0, k1, k2, k3, k4, k5, k6, k7, k8, k9, k10, k11, k12, k13, k14, k15, k16, k17, k18, k19, k20, k21, k22, k23, k24, k25, k26]
def interned : List (Array UInt16 × Addr) := []
def slotsUsed : Nat := 54
def theMethod : MethodId := ⟨1, 1⟩
def args0 : Array Value := #[.int 5, .int 3]
def aboutOver (below : List Frame) : State where
  vm := { classes := classes, interned := interned.toArray }
  heap := heap
  slotsUsed := slotsUsed
  threads := #[{ frames := .invoking theMethod args0 :: below }]
def below0 : List Frame := [.native { method := ⟨0, 0⟩, args := #[] }]
def about1 : State := aboutOver below0
def p0 : Program := .bare "" "" ""
def e0 : Env := launch0.env 0 0 0
theorem w_frames : about1.frames = Frame.invoking theMethod args0 :: below0 := rfl
set_option maxRecDepth 65536 in
theorem w_args : argsFit about1.vm theMethod args0 = true := by decide +kernel
set_option maxRecDepth 65536 in
theorem w_heap : heapFits about1 = true := by decide +kernel
set_option maxRecDepth 65536 in
theorem w_runnable : about1.curStatus? = some .runnable := by decide +kernel
set_option maxRecDepth 65536 in
theorem w_alone : about1.alone = true := by decide +kernel
set_option maxRecDepth 65536 in
theorem w_named : about1.methodNamed? x = some theMethod := by decide +kernel
set_option maxRecDepth 65536 in
theorem w_hears : about1.hears theMethod below0 = true := by decide +kernel
set_option maxRecDepth 65536 in
theorem w_ripe : about1.ripe theMethod args0 below0 = true := by decide +kernel
theorem w_running : about1.status = .running := rfl
set_option maxRecDepth 65536 in
theorem w_room : about1.hasRoom e0.platform room_1 = true :=
  launch0.hasRoom_least _ room_1 (by decide +kernel) (by decide +kernel) (by decide +kernel) (by decide +kernel) (by decide +kernel) (by decide +kernel)
theorem allAtoms_all (ts : List Jvm.Cond) (a : Array Jvm.Value) (st : Jvm.State) : (allAtoms ts).before a st = ts.all (fun c => c.before a st) := by
  induction ts with
  | nil => rfl
  | cons c t ih =>
    show (Jvm.Cond.and c (allAtoms t)).before a st = _
    rw [Jvm.Cond.before_and, ih, List.all_cons]
def words1 : List Jvm.Cond := Jvm.Cond.code x code maxLocals ret :: tables_1
/-- a 'code' word, met by the world's own term for the bytes: nothing is compared byte by byte -/
theorem code_word {y : MethodName} {bytes : ByteArray} {mx : Nat} {rt : Option FieldType} {a : Array Value} {s : State} {m : MethodId} {meth : Method} {c : Code} (h1 : s.methodNamed? y = some m) (h2 : s.vm.method? m = some meth) (h3 : meth.code = some c) (h4 : c.code = bytes)
    (h5 : (c.maxLocals == mx && c.exceptionTable.isEmpty && decide (c.maxStack ≤ mostOperands) && decide (meth.sig.returnType = rt) && !meth.locks && decide (parseMethodDescriptor y.desc = some meth.sig)) = true) : (Jvm.Cond.code y bytes mx rt).before a s = true := by
  simp only [Bool.and_eq_true, beq_iff_eq, Bool.not_eq_true', decide_eq_true_eq] at h5
  obtain ⟨⟨⟨⟨⟨g1, g2⟩, g3⟩, g4⟩, g5⟩, g6⟩ := h5
  simp [Cond.before, Cond.holds, Cond.value, h1, h2, h3, h4, g1, g2, g3, g4, g5, g6]
def isCode : Jvm.Cond → Bool
  | .code _ _ _ _ => true
  | _ => false
theorem all_split {L : List Jvm.Cond} {P : Jvm.Cond → Bool} (h1 : L.all (fun c => isCode c || P c) = true) (h2 : ∀ c ∈ L.filter isCode, P c = true) : L.all P = true := by
  refine List.all_eq_true.mpr fun c hc => ?_
  have h := List.all_eq_true.mp h1 c hc
  rcases Bool.eq_false_or_eq_true (isCode c) with hi | hi
  · exact h2 c (List.mem_filter.mpr ⟨hc, hi⟩)
  · simpa [hi] using h
set_option maxRecDepth 65536 in
theorem w_c0 : (Jvm.Cond.code x code maxLocals ret).before args0 about1 = true := code_word (m := ⟨1, 1⟩) (meth := k1m1) (c := k1c1) (by decide +kernel) rfl rfl rfl (by decide +kernel)
set_option maxRecDepth 65536 in
theorem w_c1 : (Jvm.Cond.code ({ cls := "com/example/condense/condense/analysis/AffineHull", name := "<init>", desc := "(I)V" } : Jvm.MethodName) prog_1_method_1_code (2 : Nat) (Option.none : Option Jvm.ClassFile.FieldType)).before args0 about1 = true := code_word (m := ⟨2, 0⟩) (meth := k2m0) (c := k2c0) (by decide +kernel) rfl rfl rfl (by decide +kernel)
set_option maxRecDepth 65536 in
theorem w_c2 : (Jvm.Cond.code ({ cls := "java/lang/Object", name := "<init>", desc := "()V" } : Jvm.MethodName) object_method_1_code (1 : Nat) (Option.none : Option Jvm.ClassFile.FieldType)).before args0 about1 = true := code_word (m := ⟨0, 0⟩) (meth := k0m0) (c := k0c0) (by decide +kernel) rfl rfl rfl (by decide +kernel)
set_option maxRecDepth 65536 in
theorem w_c3 : (Jvm.Cond.code ({ cls := "java/util/ArrayList", name := "<init>", desc := "()V" } : Jvm.MethodName) jdk_38_method_2_code (1 : Nat) (Option.none : Option Jvm.ClassFile.FieldType)).before args0 about1 = true := code_word (m := ⟨12, 0⟩) (meth := k12m0) (c := k12c0) (by decide +kernel) rfl rfl rfl (by decide +kernel)
set_option maxRecDepth 65536 in
theorem w_c4 : (Jvm.Cond.code ({ cls := "java/util/AbstractList", name := "<init>", desc := "()V" } : Jvm.MethodName) jdk_39_method_1_code (1 : Nat) (Option.none : Option Jvm.ClassFile.FieldType)).before args0 about1 = true := code_word (m := ⟨8, 0⟩) (meth := k8m0) (c := k8c0) (by decide +kernel) rfl rfl rfl (by decide +kernel)
set_option maxRecDepth 65536 in
theorem w_c5 : (Jvm.Cond.code ({ cls := "java/util/AbstractCollection", name := "<init>", desc := "()V" } : Jvm.MethodName) jdk_22_method_1_code (1 : Nat) (Option.none : Option Jvm.ClassFile.FieldType)).before args0 about1 = true := code_word (m := ⟨5, 0⟩) (meth := k5m0) (c := k5c0) (by decide +kernel) rfl rfl rfl (by decide +kernel)
set_option maxRecDepth 65536 in
theorem w_c6 : (Jvm.Cond.code ({ cls := "com/example/condense/condense/analysis/AffineHull", name := "isEmpty", desc := "()Z" } : Jvm.MethodName) prog_1_method_3_code (1 : Nat) (Option.some Jvm.ClassFile.FieldType.boolean)).before args0 about1 = true := code_word (m := ⟨2, 2⟩) (meth := k2m2) (c := k2c2) (by decide +kernel) rfl rfl rfl (by decide +kernel)
set_option maxRecDepth 65536 in
theorem w_c7 : (Jvm.Cond.code ({ cls := "com/example/condense/condense/analysis/AffineHull", name := "whole", desc := "(I)Lcom/example/condense/condense/analysis/AffineHull;" } : Jvm.MethodName) prog_1_method_2_code (4 : Nat) (Option.some (Jvm.ClassFile.FieldType.object "com/example/condense/condense/analysis/AffineHull"))).before args0 about1 = true := code_word (m := ⟨2, 1⟩) (meth := k2m1) (c := k2c1) (by decide +kernel) rfl rfl rfl (by decide +kernel)
set_option maxRecDepth 65536 in
theorem w_c8 : (Jvm.Cond.code ({ cls := "com/example/condense/condense/analysis/AffineHull", name := "zero", desc := "(I)[Ljava/math/BigInteger;" } : Jvm.MethodName) prog_1_method_12_code (2 : Nat) (Option.some (Jvm.ClassFile.FieldType.array (Jvm.ClassFile.FieldType.object "java/math/BigInteger")))).before args0 about1 = true := code_word (m := ⟨2, 5⟩) (meth := k2m5) (c := k2c5) (by decide +kernel) rfl rfl rfl (by decide +kernel)
set_option maxRecDepth 65536 in
theorem w_c9 : (Jvm.Cond.code ({ cls := "java/util/Arrays", name := "fill", desc := "([Ljava/lang/Object;Ljava/lang/Object;)V" } : Jvm.MethodName) jdk_65_method_117_code (4 : Nat) (Option.none : Option Jvm.ClassFile.FieldType)).before args0 about1 = true := code_word (m := ⟨16, 1⟩) (meth := k16m1) (c := k16c1) (by decide +kernel) rfl rfl rfl (by decide +kernel)
set_option maxRecDepth 65536 in
theorem w_c10 : (Jvm.Cond.code ({ cls := "java/util/ArrayList", name := "add", desc := "(Ljava/lang/Object;)Z" } : Jvm.MethodName) jdk_38_method_25_code (2 : Nat) (Option.some Jvm.ClassFile.FieldType.boolean)).before args0 about1 = true := code_word (m := ⟨12, 6⟩) (meth := k12m6) (c := k12c6) (by decide +kernel) rfl rfl rfl (by decide +kernel)
set_option maxRecDepth 65536 in
theorem w_c11 : (Jvm.Cond.code ({ cls := "java/util/ArrayList", name := "add", desc := "(Ljava/lang/Object;[Ljava/lang/Object;I)V" } : Jvm.MethodName) jdk_38_method_24_code (4 : Nat) (Option.none : Option Jvm.ClassFile.FieldType)).before args0 about1 = true := code_word (m := ⟨12, 5⟩) (meth := k12m5) (c := k12c5) (by decide +kernel) rfl rfl rfl (by decide +kernel)
set_option maxRecDepth 65536 in
theorem w_c12 : (Jvm.Cond.code ({ cls := "java/util/ArrayList", name := "grow", desc := "()[Ljava/lang/Object;" } : Jvm.MethodName) jdk_38_method_7_code (1 : Nat) (Option.some (Jvm.ClassFile.FieldType.array (Jvm.ClassFile.FieldType.object "java/lang/Object")))).before args0 about1 = true := code_word (m := ⟨12, 2⟩) (meth := k12m2) (c := k12c2) (by decide +kernel) rfl rfl rfl (by decide +kernel)
set_option maxRecDepth 65536 in
theorem w_c13 : (Jvm.Cond.code ({ cls := "java/util/ArrayList", name := "grow", desc := "(I)[Ljava/lang/Object;" } : Jvm.MethodName) jdk_38_method_6_code (4 : Nat) (Option.some (Jvm.ClassFile.FieldType.array (Jvm.ClassFile.FieldType.object "java/lang/Object")))).before args0 about1 = true := code_word (m := ⟨12, 1⟩) (meth := k12m1) (c := k12c1) (by decide +kernel) rfl rfl rfl (by decide +kernel)
set_option maxRecDepth 65536 in
theorem w_c14 : (Jvm.Cond.code ({ cls := "java/lang/Math", name := "max", desc := "(II)I" } : Jvm.MethodName) jdk_29_method_65_code (2 : Nat) (Option.some Jvm.ClassFile.FieldType.int)).before args0 about1 = true := code_word (m := ⟨17, 1⟩) (meth := k17m1) (c := k17c1) (by decide +kernel) rfl rfl rfl (by decide +kernel)
set_option maxRecDepth 65536 in
theorem w_c15 : (Jvm.Cond.code ({ cls := "com/example/condense/condense/analysis/AffineHull", name := "add", desc := "(Ljava/util/List;)Z" } : Jvm.MethodName) prog_1_method_5_code (6 : Nat) (Option.some Jvm.ClassFile.FieldType.boolean)).before args0 about1 = true := code_word (m := ⟨2, 3⟩) (meth := k2m3) (c := k2c3) (by decide +kernel) rfl rfl rfl (by decide +kernel)
set_option maxRecDepth 65536 in
theorem w_c16 : (Jvm.Cond.code ({ cls := "java/util/ArrayList", name := "size", desc := "()I" } : Jvm.MethodName) jdk_38_method_8_code (1 : Nat) (Option.some Jvm.ClassFile.FieldType.int)).before args0 about1 = true := code_word (m := ⟨12, 3⟩) (meth := k12m3) (c := k12c3) (by decide +kernel) rfl rfl rfl (by decide +kernel)
set_option maxRecDepth 65536 in
theorem w_c17 : (Jvm.Cond.code ({ cls := "java/util/ArrayList", name := "toArray", desc := "([Ljava/lang/Object;)[Ljava/lang/Object;" } : Jvm.MethodName) jdk_38_method_17_code (2 : Nat) (Option.some (Jvm.ClassFile.FieldType.array (Jvm.ClassFile.FieldType.object "java/lang/Object")))).before args0 about1 = true := code_word (m := ⟨12, 4⟩) (meth := k12m4) (c := k12c4) (by decide +kernel) rfl rfl rfl (by decide +kernel)
set_option maxRecDepth 65536 in
theorem w_c18 : (Jvm.Cond.code ({ cls := "java/util/ArrayList", name := "iterator", desc := "()Ljava/util/Iterator;" } : Jvm.MethodName) jdk_38_method_55_code (1 : Nat) (Option.some (Jvm.ClassFile.FieldType.object "java/util/Iterator"))).before args0 about1 = true := code_word (m := ⟨12, 7⟩) (meth := k12m7) (c := k12c7) (by decide +kernel) rfl rfl rfl (by decide +kernel)
set_option maxRecDepth 65536 in
theorem w_c19 : (Jvm.Cond.code ({ cls := "java/util/ArrayList$Itr", name := "<init>", desc := "(Ljava/util/ArrayList;)V" } : Jvm.MethodName) jdk_49_method_1_code (2 : Nat) (Option.none : Option Jvm.ClassFile.FieldType)).before args0 about1 = true := code_word (m := ⟨20, 0⟩) (meth := k20m0) (c := k20c0) (by decide +kernel) rfl rfl rfl (by decide +kernel)
set_option maxRecDepth 65536 in
theorem w_c20 : (Jvm.Cond.code ({ cls := "java/util/ArrayList$Itr", name := "hasNext", desc := "()Z" } : Jvm.MethodName) jdk_49_method_2_code (1 : Nat) (Option.some Jvm.ClassFile.FieldType.boolean)).before args0 about1 = true := code_word (m := ⟨20, 1⟩) (meth := k20m1) (c := k20c1) (by decide +kernel) rfl rfl rfl (by decide +kernel)
set_option maxRecDepth 65536 in
theorem w_c21 : (Jvm.Cond.code ({ cls := "com/example/condense/condense/analysis/AffineHull", name := "pivot", desc := "([Ljava/math/BigInteger;)I" } : Jvm.MethodName) prog_1_method_9_code (2 : Nat) (Option.some Jvm.ClassFile.FieldType.int)).before args0 about1 = true := code_word (m := ⟨2, 4⟩) (meth := k2m4) (c := k2c4) (by decide +kernel) rfl rfl rfl (by decide +kernel)
def codes1 : List Jvm.Cond := [Jvm.Cond.code x code maxLocals ret, Jvm.Cond.code ({ cls := "com/example/condense/condense/analysis/AffineHull", name := "<init>", desc := "(I)V" } : Jvm.MethodName) prog_1_method_1_code (2 : Nat) (Option.none : Option Jvm.ClassFile.FieldType), Jvm.Cond.code ({ cls := "java/lang/Object", name := "<init>", desc := "()V" } : Jvm.MethodName) object_method_1_code (1 : Nat) (Option.none : Option Jvm.ClassFile.FieldType), Jvm.Cond.code ({ cls := "java/util/ArrayList", name := "<init>", desc := "()V" } : Jvm.MethodName) jdk_38_method_2_code (1 : Nat) (Option.none : Option Jvm.ClassFile.FieldType), Jvm.Cond.code ({ cls := "java/util/AbstractList", name := "<init>", desc := "()V" } : Jvm.MethodName) jdk_39_method_1_code (1 : Nat) (Option.none : Option Jvm.ClassFile.FieldType), Jvm.Cond.code ({ cls := "java/util/AbstractCollection", name := "<init>", desc := "()V" } : Jvm.MethodName) jdk_22_method_1_code (1 : Nat) (Option.none : Option Jvm.ClassFile.FieldType), Jvm.Cond.code ({ cls := "com/example/condense/condense/analysis/AffineHull", name := "isEmpty", desc := "()Z" } : Jvm.MethodName) prog_1_method_3_code (1 : Nat) (Option.some Jvm.ClassFile.FieldType.boolean), Jvm.Cond.code ({ cls := "com/example/condense/condense/analysis/AffineHull", name := "whole", desc := "(I)Lcom/example/condense/condense/analysis/AffineHull;" } : Jvm.MethodName) prog_1_method_2_code (4 : Nat) (Option.some (Jvm.ClassFile.FieldType.object "com/example/condense/condense/analysis/AffineHull")), Jvm.Cond.code ({ cls := "com/example/condense/condense/analysis/AffineHull", name := "zero", desc := "(I)[Ljava/math/BigInteger;" } : Jvm.MethodName) prog_1_method_12_code (2 : Nat) (Option.some (Jvm.ClassFile.FieldType.array (Jvm.ClassFile.FieldType.object "java/math/BigInteger"))), Jvm.Cond.code ({ cls := "java/util/Arrays", name := "fill", desc := "([Ljava/lang/Object;Ljava/lang/Object;)V" } : Jvm.MethodName) jdk_65_method_117_code (4 : Nat) (Option.none : Option Jvm.ClassFile.FieldType), Jvm.Cond.code ({ cls := "java/util/ArrayList", name := "add", desc := "(Ljava/lang/Object;)Z" } : Jvm.MethodName) jdk_38_method_25_code (2 : Nat) (Option.some Jvm.ClassFile.FieldType.boolean), Jvm.Cond.code ({ cls := "java/util/ArrayList", name := "add", desc := "(Ljava/lang/Object;[Ljava/lang/Object;I)V" } : Jvm.MethodName) jdk_38_method_24_code (4 : Nat) (Option.none : Option Jvm.ClassFile.FieldType), Jvm.Cond.code ({ cls := "java/util/ArrayList", name := "grow", desc := "()[Ljava/lang/Object;" } : Jvm.MethodName) jdk_38_method_7_code (1 : Nat) (Option.some (Jvm.ClassFile.FieldType.array (Jvm.ClassFile.FieldType.object "java/lang/Object"))), Jvm.Cond.code ({ cls := "java/util/ArrayList", name := "grow", desc := "(I)[Ljava/lang/Object;" } : Jvm.MethodName) jdk_38_method_6_code (4 : Nat) (Option.some (Jvm.ClassFile.FieldType.array (Jvm.ClassFile.FieldType.object "java/lang/Object"))), Jvm.Cond.code ({ cls := "java/lang/Math", name := "max", desc := "(II)I" } : Jvm.MethodName) jdk_29_method_65_code (2 : Nat) (Option.some Jvm.ClassFile.FieldType.int), Jvm.Cond.code ({ cls := "com/example/condense/condense/analysis/AffineHull", name := "add", desc := "(Ljava/util/List;)Z" } : Jvm.MethodName) prog_1_method_5_code (6 : Nat) (Option.some Jvm.ClassFile.FieldType.boolean), Jvm.Cond.code ({ cls := "java/util/ArrayList", name := "size", desc := "()I" } : Jvm.MethodName) jdk_38_method_8_code (1 : Nat) (Option.some Jvm.ClassFile.FieldType.int), Jvm.Cond.code ({ cls := "java/util/ArrayList", name := "toArray", desc := "([Ljava/lang/Object;)[Ljava/lang/Object;" } : Jvm.MethodName) jdk_38_method_17_code (2 : Nat) (Option.some (Jvm.ClassFile.FieldType.array (Jvm.ClassFile.FieldType.object "java/lang/Object"))), Jvm.Cond.code ({ cls := "java/util/ArrayList", name := "iterator", desc := "()Ljava/util/Iterator;" } : Jvm.MethodName) jdk_38_method_55_code (1 : Nat) (Option.some (Jvm.ClassFile.FieldType.object "java/util/Iterator")), Jvm.Cond.code ({ cls := "java/util/ArrayList$Itr", name := "<init>", desc := "(Ljava/util/ArrayList;)V" } : Jvm.MethodName) jdk_49_method_1_code (2 : Nat) (Option.none : Option Jvm.ClassFile.FieldType), Jvm.Cond.code ({ cls := "java/util/ArrayList$Itr", name := "hasNext", desc := "()Z" } : Jvm.MethodName) jdk_49_method_2_code (1 : Nat) (Option.some Jvm.ClassFile.FieldType.boolean), Jvm.Cond.code ({ cls := "com/example/condense/condense/analysis/AffineHull", name := "pivot", desc := "([Ljava/math/BigInteger;)I" } : Jvm.MethodName) prog_1_method_9_code (2 : Nat) (Option.some Jvm.ClassFile.FieldType.int)]
set_option maxRecDepth 65536 in
theorem codes_eq : words1.filter isCode = codes1 := rfl
theorem w_codes : ∀ c ∈ words1.filter isCode, c.before args0 about1 = true := by
  rw [codes_eq]
  intro c hc
  simp only [codes1, List.mem_cons, List.not_mem_nil, or_false] at hc
  rcases hc with rfl | rfl | rfl | rfl | rfl | rfl | rfl | rfl | rfl | rfl | rfl | rfl | rfl | rfl | rfl | rfl | rfl | rfl | rfl | rfl | rfl | rfl
  · exact w_c0
  · exact w_c1
  · exact w_c2
  · exact w_c3
  · exact w_c4
  · exact w_c5
  · exact w_c6
  · exact w_c7
  · exact w_c8
  · exact w_c9
  · exact w_c10
  · exact w_c11
  · exact w_c12
  · exact w_c13
  · exact w_c14
  · exact w_c15
  · exact w_c16
  · exact w_c17
  · exact w_c18
  · exact w_c19
  · exact w_c20
  · exact w_c21
set_option maxRecDepth 65536 in
theorem w_t1 : (words1.take 24).all (fun c => isCode c || c.before args0 about1) = true := by decide +kernel
set_option maxRecDepth 65536 in
theorem w_t2 : ((words1.drop 24).take 24).all (fun c => isCode c || c.before args0 about1) = true := by decide +kernel
set_option maxRecDepth 65536 in
theorem w_t3 : (((words1.drop 24).drop 24).take 24).all (fun c => isCode c || c.before args0 about1) = true := by decide +kernel
set_option maxRecDepth 65536 in
theorem w_t4 : ((((words1.drop 24).drop 24).drop 24).take 24).all (fun c => isCode c || c.before args0 about1) = true := by decide +kernel
set_option maxRecDepth 65536 in
theorem w_t5 : (((((words1.drop 24).drop 24).drop 24).drop 24).take 24).all (fun c => isCode c || c.before args0 about1) = true := by decide +kernel
set_option maxRecDepth 65536 in
theorem w_t6 : ((((((words1.drop 24).drop 24).drop 24).drop 24).drop 24).take 24).all (fun c => isCode c || c.before args0 about1) = true := by decide +kernel
set_option maxRecDepth 65536 in
theorem w_t7 : ((((((words1.drop 24).drop 24).drop 24).drop 24).drop 24).drop 24).all (fun c => isCode c || c.before args0 about1) = true := by decide +kernel
theorem w_tables : (allAtoms (Jvm.Cond.code x code maxLocals ret :: tables_1)).before args0 about1 = true := by
  rw [allAtoms_all]
  show words1.all (fun c => c.before args0 about1) = true
  refine all_split ?_ w_codes
  rw [← List.take_append_drop 24 words1, List.all_append, w_t1, ← List.take_append_drop 24 (words1.drop 24), List.all_append, w_t2, ← List.take_append_drop 24 ((words1.drop 24).drop 24), List.all_append, w_t3, ← List.take_append_drop 24 (((words1.drop 24).drop 24).drop 24), List.all_append, w_t4, ← List.take_append_drop 24 ((((words1.drop 24).drop 24).drop 24).drop 24), List.all_append, w_t5, ← List.take_append_drop 24 (((((words1.drop 24).drop 24).drop 24).drop 24).drop 24), List.all_append, w_t6, w_t7]
  rfl
set_option maxRecDepth 65536 in
theorem w_rest : rest_1_c.before args0 about1 = true := by decide +kernel
set_option maxRecDepth 65536 in
theorem w_case : (Jvm.Cond.and given_1 narrow_1).before args0 about1 = true := by decide +kernel
theorem w_applies : (headSpec (Jvm.Cond.code x code maxLocals ret :: tables_1) room_1).applies x e0.platform about1 = true :=
  (Spec.applies_iff w_frames).mpr ⟨w_running, w_runnable, w_alone, w_named, w_hears, w_ripe, w_room, w_tables⟩
theorem atStart : AtStart classFile x code maxLocals ret World_1 tables_1 room_1 Calls_1 rest_1 Pre_1 launch0 p0 e0 about1 theMethod args0 below0 :=
  ⟨lists_1, trivial, launch0.admits_env _ _ _, launch0.least_env, fairChoices_fair.cas, fairChoices_fair.clock, w_frames, w_args, w_heap, w_applies, trivial, w_rest, w_case⟩
end start1
theorem witness_1 : WitnessClaimed_1 := ⟨start1.p0, start1.e0, start1.about1, start1.theMethod, start1.args0, start1.below0, start1.atStart⟩
end Jvm.Pilot.@@N@@
