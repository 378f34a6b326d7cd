import JvmDerived
import JvmDerived.Pilot.@@N@@Statement
import JvmDerived.Pilot.@@N@@Code
set_option linter.unusedVariables false
set_option linter.unusedSimpArgs false
namespace Jvm.Pilot.@@N@@
open Jvm Jvm.ClassFile Sem Op Lib Jvm.Free Jvm.Stand Jvm.LawKit Jvm.RoadKit Bundle Jvm.Pilot.@@N@@.Jvm.D
/-- what is left of the run from here ends in a state and an outcome of which G holds -/
def own_Fin (tb : Tables) (e : Env) (below : List Frame) (G : State → Outcome → Prop) (st : State) : Prop :=
  ∃ s₂ o, Steps tb e below st s₂ ∧ s₂.status = .running ∧ Ended s₂ below o ∧ G s₂ o
theorem own_st {tb : Tables} {e : Env} {below : List Frame} {G : State → Outcome → Prop} {st st' : State} (k : ∀ t, Steps tb e below st' t → Steps tb e below st t) (h : own_Fin tb e below G st') : own_Fin tb e below G st := by
  obtain ⟨s₂, o, h1, h2⟩ := h
  exact ⟨s₂, o, k _ h1, h2⟩

theorem own_fi {Z : State} {args : Array Value} {t : Term} {a : Addr} {O n d : String} {k : Int32} (ev : t.eval args Z none [] Z = some (.ref a)) (h : (Jvm.Cond.eq (.field t O n d) (.int k)).value args Z none Z [] = some true) : Fld Z Z.heap a O n d (.int k) := by
  obtain ⟨x, y, e1, e2, -, -⟩ := cmp_v (Or.inl h)
  have e3 : (Term.int k).eval args Z none [] Z = some (.int k) := Term.int_eval k
  have e4 : x = .int k := by
    simp only [Jvm.Cond.value, e1, e3] at h
    cases x <;> simp at h
    rw [h]
  subst e4
  rw [fld_at ev] at e1
  exact Fld.start e1

section own
variable {p : Program} {l : Launch} {e : Env} {R : Room} {s : State} {m : MethodId} {args : Array Value} {below : List Frame} {meth : Method} {c : Code} {T : State} {locs : List Loc} {cells slots : Nat} {Z : State} {h h' : Heap} {a : Addr} {k : ClassId} {ty : FieldType} {n : Int32} {vs : List Value} {d : Value}
theorem own_alen (X : Stand p l e R s m args below meth c T locs cells slots) (hx : p.tables.exec = Jvm.exec) (hZ : Z.Warmed39 s.vm) (eT : T.heap = h) (F : Arv Z h a k ty n vs d) {g : JFrame} (hg : g.method = m) {rest : List Value} (hs : g.stack = .ref a :: rest) (hd : decode c.code g.pc = .ok (.arraylength, 1)) (t : State)
    (hr : Steps p.tables e below (T.setTop { g with pc := g.pc + 1, stack := .int n :: rest }) t) : Steps p.tables e below (T.setTop g) t := by
  obtain ⟨cl, A, -, S, N, -⟩ := F
  refine X.arraylength hx (by rw [eT]; exact A.1) (State.isArrayOf_alike hZ.alike A.2.1) hg hs hd t ?_
  rw [len_of S N]; exact hr
theorem own_aald (X : Stand p l e R s m args below meth c T locs cells slots) (hx : p.tables.exec = Jvm.exec) (hZ : Z.Warmed39 s.vm) (eT : T.heap = h) (F : Arv Z h a k ty n vs d) (hty : ty.isReference = true) {j : Int32} (hj : ¬ j < 0 ∧ j < n) {v : Value} (hv : vs.getD j.toNatClampNeg d = v) {g : JFrame} (hg : g.method = m) {rest : List Value} (hs : g.stack = .int j :: .ref a :: rest) (hd : decode c.code g.pc = .ok (.aaload, 1)) (t : State)
    (hr : Steps p.tables e below (T.setTop { g with pc := g.pc + 1, stack := v :: rest }) t) : Steps p.tables e below (T.setTop g) t := by
  obtain ⟨cl, A, -, S, N, H, -⟩ := F
  have hin := inb_of S hj
  exact X.aaload hx (by rw [eT]; exact A.1) (State.isArrayOf_alike hZ.alike A.2.1) hty A.2.2 hin (H.at hin hv) hg hs hd t hr
end own

theorem own_len {Z : State} {args : Array Value} {t : Term} {ty : FieldType} {n : Int32} (h1 : (Jvm.Cond.arrayOf t ty).value args Z none Z [] = some true) (h2 : (Jvm.Cond.eq (.length t) (.int n)).value args Z none Z [] = some true) : ∃ (a : Addr) (cl : Cell), t.eval args Z none [] Z = some (.ref a) ∧ Arr Z Z.heap a cl ty ∧ cl.slots.size.toInt32 = n ∧ cl.slots.size < 2 ^ 31 := by
  obtain ⟨a, ev⟩ := arr_v h1
  obtain ⟨cl, A⟩ := Arr.start ev h1
  have hA : Z.arrayAt? a = some cl := A.fin (Vm.Alike.refl _)
  refine ⟨a, cl, ev, A, ?_⟩
  have e3 : (Term.int n).eval args Z none [] Z = some (.int n) := Term.int_eval n
  by_cases hl : cl.slots.size < 2 ^ 31
  · have e4 := len_f ev hA hl
    simp only [Jvm.Cond.value, e4, e3] at h2
    exact ⟨by simpa using h2, hl⟩
  · exfalso
    have e5 : (Term.length t).eval args Z none [] Z = none := by simp [Term.eval, ev, hA, hl]
    simp [Jvm.Cond.value, e5] at h2
theorem own_arv0 {Z : State} {a : Addr} {cl : Cell} {ty : FieldType} {d : Value} (hf : Fit Z) (A : Arr Z Z.heap a cl ty) (e : cl.slots.size.toInt32 = 0) (hl : cl.slots.size < 2 ^ 31) : Arv Z Z.heap a cl.cls ty 0 [] d :=
  Arv.start hf A hl e (by decide) (by decide) trivial

theorem own_nar {d : String} {v : Value} (h : v.isRef = true) : narrow (.object d) v = v := by
  rcases ref_cases h with rfl | ⟨a, rfl⟩ <;> rfl
theorem own_fit {d : String} {v : Value} (h : v.isRef = true) : fits (.object d) v = true := by
  rcases ref_cases h with rfl | ⟨a, rfl⟩ <;> rfl

theorem pn_com_example_lugar_lugar_InhibitorArc : plainName "com/example/lugar/lugar/InhibitorArc" = true := by first | (simp [plainName, overriddenIn]; done) | decide +kernel
theorem pn_com_example_lugar_lugar_InhibitorArcEqualsPinLaw : plainName "com/example/lugar/lugar/InhibitorArcEqualsPinLaw" = true := by first | (simp [plainName, overriddenIn]; done) | decide +kernel
theorem pn_java_lang_Integer : plainName "java/lang/Integer" = true := by first | (simp [plainName, overriddenIn]; done) | decide +kernel
theorem pn_java_lang_Number : plainName "java/lang/Number" = true := by first | (simp [plainName, overriddenIn]; done) | decide +kernel
theorem d1_0 : decode prog_14_method_1_code 0 = .ok (.aload_n 0, 1) := by decide +kernel
theorem d1_1 : decode prog_14_method_1_code 1 = .ok (.invokespecial 1, 3) := by decide +kernel
theorem d1_4 : decode prog_14_method_1_code 4 = .ok (.iload_n 1, 1) := by decide +kernel
theorem d1_5 : decode prog_14_method_1_code 5 = .ok (.ifCond .ge 17, 3) := by decide +kernel
theorem d1_8 : decode prog_14_method_1_code 8 = .ok (.new 7, 3) := by decide +kernel
theorem d1_11 : decode prog_14_method_1_code 11 = .ok (.dup, 1) := by decide +kernel
theorem d1_12 : decode prog_14_method_1_code 12 = .ok (.iload_n 1, 1) := by decide +kernel
theorem d1_18 : decode prog_14_method_1_code 18 = .ok (.invokespecial 13, 3) := by decide +kernel
theorem d1_21 : decode prog_14_method_1_code 21 = .ok (.athrow, 1) := by decide +kernel
theorem d1_22 : decode prog_14_method_1_code 22 = .ok (.lload_n 2, 1) := by decide +kernel
theorem d1_23 : decode prog_14_method_1_code 23 = .ok (.lconst 0, 1) := by decide +kernel
theorem d1_24 : decode prog_14_method_1_code 24 = .ok (.lcmp, 1) := by decide +kernel
theorem d1_25 : decode prog_14_method_1_code 25 = .ok (.ifCond .ge 17, 3) := by decide +kernel
theorem d1_28 : decode prog_14_method_1_code 28 = .ok (.new 7, 3) := by decide +kernel
theorem d1_31 : decode prog_14_method_1_code 31 = .ok (.dup, 1) := by decide +kernel
theorem d1_32 : decode prog_14_method_1_code 32 = .ok (.lload_n 2, 1) := by decide +kernel
theorem d1_38 : decode prog_14_method_1_code 38 = .ok (.invokespecial 13, 3) := by decide +kernel
theorem d1_41 : decode prog_14_method_1_code 41 = .ok (.athrow, 1) := by decide +kernel
theorem d1_42 : decode prog_14_method_1_code 42 = .ok (.aload_n 0, 1) := by decide +kernel
theorem d1_43 : decode prog_14_method_1_code 43 = .ok (.iload_n 1, 1) := by decide +kernel
theorem d1_44 : decode prog_14_method_1_code 44 = .ok (.putfield 19, 3) := by decide +kernel
theorem d1_47 : decode prog_14_method_1_code 47 = .ok (.aload_n 0, 1) := by decide +kernel
theorem d1_48 : decode prog_14_method_1_code 48 = .ok (.lload_n 2, 1) := by decide +kernel
theorem d1_49 : decode prog_14_method_1_code 49 = .ok (.putfield 25, 3) := by decide +kernel
theorem d1_52 : decode prog_14_method_1_code 52 = .ok (.return_, 1) := by decide +kernel
theorem d3_0 : decode prog_14_method_4_code 0 = .ok (.aload_n 1, 1) := by decide +kernel
theorem d3_1 : decode prog_14_method_4_code 1 = .ok (.instanceof 20, 3) := by decide +kernel
theorem d3_4 : decode prog_14_method_4_code 4 = .ok (.ifCond .eq 35, 3) := by decide +kernel
theorem d3_7 : decode prog_14_method_4_code 7 = .ok (.aload_n 1, 1) := by decide +kernel
theorem d3_8 : decode prog_14_method_4_code 8 = .ok (.checkcast 20, 3) := by decide +kernel
theorem d3_11 : decode prog_14_method_4_code 11 = .ok (.astore_n 2, 1) := by decide +kernel
theorem d3_12 : decode prog_14_method_4_code 12 = .ok (.aload_n 2, 1) := by decide +kernel
theorem d3_13 : decode prog_14_method_4_code 13 = .ok (.getfield 19, 3) := by decide +kernel
theorem d3_16 : decode prog_14_method_4_code 16 = .ok (.aload_n 0, 1) := by decide +kernel
theorem d3_17 : decode prog_14_method_4_code 17 = .ok (.getfield 19, 3) := by decide +kernel
theorem d3_20 : decode prog_14_method_4_code 20 = .ok (.if_icmp .ne 19, 3) := by decide +kernel
theorem d3_23 : decode prog_14_method_4_code 23 = .ok (.aload_n 2, 1) := by decide +kernel
theorem d3_24 : decode prog_14_method_4_code 24 = .ok (.getfield 25, 3) := by decide +kernel
theorem d3_27 : decode prog_14_method_4_code 27 = .ok (.aload_n 0, 1) := by decide +kernel
theorem d3_28 : decode prog_14_method_4_code 28 = .ok (.getfield 25, 3) := by decide +kernel
theorem d3_31 : decode prog_14_method_4_code 31 = .ok (.lcmp, 1) := by decide +kernel
theorem d3_32 : decode prog_14_method_4_code 32 = .ok (.ifCond .ne 7, 3) := by decide +kernel
theorem d3_35 : decode prog_14_method_4_code 35 = .ok (.iconst 1, 1) := by decide +kernel
theorem d3_36 : decode prog_14_method_4_code 36 = .ok (.goto 4, 3) := by decide +kernel
theorem d3_39 : decode prog_14_method_4_code 39 = .ok (.iconst 0, 1) := by decide +kernel
theorem d3_40 : decode prog_14_method_4_code 40 = .ok (.ireturn, 1) := by decide +kernel
theorem d4_0 : decode jdk_33_method_22_code 0 = .ok (.iload_n 0, 1) := by decide +kernel
theorem d4_1 : decode jdk_33_method_22_code 1 = .ok (.bipush (-128), 2) := by decide +kernel
theorem d4_3 : decode jdk_33_method_22_code 3 = .ok (.if_icmp .lt 20, 3) := by decide +kernel
theorem d4_6 : decode jdk_33_method_22_code 6 = .ok (.iload_n 0, 1) := by decide +kernel
theorem d4_7 : decode jdk_33_method_22_code 7 = .ok (.getstatic 191, 3) := by decide +kernel
theorem d4_10 : decode jdk_33_method_22_code 10 = .ok (.if_icmp .gt 13, 3) := by decide +kernel
theorem d4_13 : decode jdk_33_method_22_code 13 = .ok (.getstatic 195, 3) := by decide +kernel
theorem d4_16 : decode jdk_33_method_22_code 16 = .ok (.iload_n 0, 1) := by decide +kernel
theorem d4_17 : decode jdk_33_method_22_code 17 = .ok (.sipush 128, 3) := by decide +kernel
theorem d4_20 : decode jdk_33_method_22_code 20 = .ok (.iadd, 1) := by decide +kernel
theorem d4_21 : decode jdk_33_method_22_code 21 = .ok (.aaload, 1) := by decide +kernel
theorem d4_22 : decode jdk_33_method_22_code 22 = .ok (.areturn, 1) := by decide +kernel
theorem d4_23 : decode jdk_33_method_22_code 23 = .ok (.new 1, 3) := by decide +kernel
theorem d4_26 : decode jdk_33_method_22_code 26 = .ok (.dup, 1) := by decide +kernel
theorem d4_27 : decode jdk_33_method_22_code 27 = .ok (.iload_n 0, 1) := by decide +kernel
theorem d4_28 : decode jdk_33_method_22_code 28 = .ok (.invokespecial 199, 3) := by decide +kernel
theorem d4_31 : decode jdk_33_method_22_code 31 = .ok (.areturn, 1) := by decide +kernel
theorem d5_0 : decode jdk_33_method_23_code 0 = .ok (.aload_n 0, 1) := by decide +kernel
theorem d5_1 : decode jdk_33_method_23_code 1 = .ok (.invokespecial 202, 3) := by decide +kernel
theorem d5_4 : decode jdk_33_method_23_code 4 = .ok (.aload_n 0, 1) := by decide +kernel
theorem d5_5 : decode jdk_33_method_23_code 5 = .ok (.iload_n 1, 1) := by decide +kernel
theorem d5_6 : decode jdk_33_method_23_code 6 = .ok (.putfield 205, 3) := by decide +kernel
theorem d5_9 : decode jdk_33_method_23_code 9 = .ok (.return_, 1) := by decide +kernel
theorem d6_0 : decode jdk_18_method_1_code 0 = .ok (.aload_n 0, 1) := by decide +kernel
theorem d6_1 : decode jdk_18_method_1_code 1 = .ok (.invokespecial 1, 3) := by decide +kernel
theorem d6_4 : decode jdk_18_method_1_code 4 = .ok (.return_, 1) := by decide +kernel
theorem own_root {Z : State} {a0 : Array Value} {O K : String} {n : Nat} (w : (Jvm.Cond.noSuperclass O).before a0 Z = true) (wk : (Jvm.Cond.instantiable K n).before a0 Z = true) (hn : O ≠ K) : NS Z O K := by
  obtain ⟨c, k, h1, h2, h3, -, -⟩ := Cond.noSuperclass_spec w
  obtain ⟨t, k', g1, -⟩ := Cond.instantiable_spec wk
  have ne := ids_ne h1 g1 hn
  refine ⟨c, t, h1, g1, fun fuel => ?_⟩
  cases fuel with
  | zero => rfl
  | succ f => simp [Vm.isSubclassAux, ne, h2, h3]
theorem own_no {Z : State} {a0 : Array Value} {C S K : String} {n : Nat} (w : (Jvm.Cond.superclass C S).before a0 Z = true) (wk : (Jvm.Cond.instantiable K n).before a0 Z = true) (ns : NS Z C K) (hn : C ≠ K) : ∃ c t, Z.vm.findClass C = some c ∧ Z.vm.findClass K = some t ∧ Z.vm.assignable c t = false := by
  obtain ⟨c, t, h0, g0, n3⟩ := ns
  obtain ⟨p, k, kp, h1, h2, h3, h4, h5, -, h7⟩ := Cond.superclass_spec h0 w
  obtain ⟨t', k', g1, g2, g3, g4, -⟩ := Cond.instantiable_spec wk
  cases g0.symm.trans g1
  have ne := ids_ne h0 g0 hn
  have gi : k'.isInterface = false := (Bool.or_eq_false_iff.mp g4).1
  refine ⟨c, t, h0, g0, ?_⟩
  show Z.vm.assignableAux (255 + 1) c t = false
  simp [Vm.assignableAux, ne, h2, g2, h5, g3, gi, Vm.isSubclass, n3]
theorem own_m32 (x : Int32) : ¬ (x &&& 2147483647) < 0 := by
  rw [Int32.lt_iff_toInt_lt]
  have h1 := c_and x 2147483647 (by decide)
  have : (0 : Int32).toInt = 0 := by decide
  omega
theorem own_m64 (x : Int64) : ¬ (x &&& 9223372036854775807) < 0 := by
  rw [Int64.lt_iff_toInt_lt]
  have h1 := c_maskL x 9223372036854775807 63 (by decide) (by decide)
  have : (0 : Int64).toInt = 0 := by decide
  omega
theorem own_k3 (x : Int32) (h0 : ¬ (x &&& 3) = 0) (h1 : ¬ (x &&& 3) = 1) (h2 : ¬ (x &&& 3) = 2) : x &&& 3 = 3 := by
  have m := c_mask x 3 2 (by decide) (by decide)
  refine Int32.toInt_inj.mp ?_
  have e0 : (0 : Int32).toInt = 0 := by decide
  have e1 : (1 : Int32).toInt = 1 := by decide
  have e2 : (2 : Int32).toInt = 2 := by decide
  have e3 : (3 : Int32).toInt = 3 := by decide
  have n0 : (x &&& 3).toInt ≠ 0 := fun h => h0 (Int32.toInt_inj.mp (by rw [h, e0]))
  have n1 : (x &&& 3).toInt ≠ 1 := fun h => h1 (Int32.toInt_inj.mp (by rw [h, e1]))
  have n2 : (x &&& 3).toInt ≠ 2 := fun h => h2 (Int32.toInt_inj.mp (by rw [h, e2]))
  have p2 : ((2 ^ 2 : Nat) : Int) = 4 := by decide
  rw [p2] at m
  omega
/-- what the cache holds, said of a heap -/
def own_Cache (Z : State) (h : Heap) : Prop := ∃ (ac : Addr) (cl : Cell), Sta Z h "java/lang/Integer$IntegerCache" "cache" "[Ljava/lang/Integer;" (.ref ac) ∧ Sta Z h "java/lang/Integer$IntegerCache" "high" "I" (.int 127) ∧ Arr Z h ac cl (.object "java/lang/Integer") ∧ cl.slots.size = 256 ∧
  ∀ j : Int32, ¬ (j < 0 ∨ cl.slots.size ≤ j.toNatClampNeg) → ∃ r, cl.slots[j.toNatClampNeg]? = some (.ref r) ∧ Exa Z h r "java/lang/Integer"
theorem own_Cache.ext {Z : State} {h h' : Heap} (E : Ext h h') (F : own_Cache Z h) : own_Cache Z h' := by
  obtain ⟨ac, cl, h1, h2, h3, h4, h5⟩ := F
  exact ⟨ac, cl, h1.ext E, h2.ext E, h3.ext E, h4, fun j hj => by obtain ⟨r, q1, q2⟩ := h5 j hj; exact ⟨r, q1, q2.ext E⟩⟩
theorem own_in {x : Int32} {cl : Cell} (h4 : cl.slots.size = 256) (h1 : ¬ x < 0) (h2 : ¬ 127 < x) : ¬ (x + 128 < 0 ∨ cl.slots.size ≤ (x + 128).toNatClampNeg) := by
  rw [Int32.lt_iff_toInt_lt] at h1 h2 ⊢
  have e0 : (0 : Int32).toInt = 0 := by decide
  have e1 : (127 : Int32).toInt = 127 := by decide
  have e2 : (128 : Int32).toInt = 128 := by decide
  have a := XT.add32 (x := x) (y := 128) ⟨by omega, by omega⟩
  have n := nat_of (j := x + 128) (by rw [Int32.lt_iff_toInt_lt]; omega)
  omega
theorem pd___V : parseMethodDescriptor "()V" = some ⟨[], none⟩ := by decide +kernel
theorem pd__I_V : parseMethodDescriptor "(I)V" = some ⟨[.int], none⟩ := by decide +kernel
theorem pd__IJ_V : parseMethodDescriptor "(IJ)V" = some ⟨[.int, .long], none⟩ := by decide +kernel
theorem pd__Ljava_lang_Object__Z : parseMethodDescriptor "(Ljava/lang/Object;)Z" = some ⟨[(.object "java/lang/Object")], some .boolean⟩ := by decide +kernel
theorem pd__I_Ljava_lang_Integer_ : parseMethodDescriptor "(I)Ljava/lang/Integer;" = some ⟨[.int], some (.object "java/lang/Integer")⟩ := by decide +kernel
def Q6 (Z : State) (a1 : Addr) (h0 : Heap) (n0 : Nat) (v : Option Value) (h : Heap) (L : List Loc) : Prop := v = none ∧ Fr n0 L ∧ h = h0
set_option maxRecDepth 65536 in
set_option maxHeartbeats 40000000 in
theorem rm6 (l : Launch) (Z : State) (a0 : Array Value) (hw : ∀ d ∈ tables_1, d.before a0 Z = true) (ws : List Jvm.Cond) (a1 : Addr) (h0 : Heap) (n0 : Nat) (Z0 : n0 ≤ h0.size)  :
    MetFree l (⟨"java/lang/Number", "<init>", "()V"⟩ : MethodName) (head1 (Jvm.Cond.code (⟨"java/lang/Number", "<init>", "()V"⟩ : MethodName) jdk_18_method_1_code 1 none :: ws) ({ frames := 1, cells := 0, slots := 0, locals := 12 } : Room)) (fun a U => a = #[(.ref a1)] ∧ Z.Warmed39 U.vm ∧ U.heap = h0) (fun _ _ _ _ _ => True) (fun _ U o U' => ∃ v L, o = .returned v ∧ Q6 Z a1 h0 n0 v U'.heap L ∧ FrameEnd U o U' L ({ frames := 1, cells := 0, slots := 0, locals := 12 } : Room).cells ({ frames := 1, cells := 0, slots := 0, locals := 12 } : Room).slots) := by
  refine MetFree.of_bodySF (plainFor_of_name pn_java_lang_Number) hisR ?_
  intro p e s m args below meth c s₁ Bd hml0 hP hK
  obtain ⟨rfl, hZ, hh⟩ := hP
  have hx := Bd.exec
  have hby := Bd.bytes
  have hml : c.maxLocals = 1 := hml0
  have hown : s.vm.findClass "java/lang/Number" = some m.cls := findClass_of_methodNamed Bd.named
  have hnm := (name_of_methodNamed Bd.named Bd.method).1
  have X0 : Stand p l e ({ frames := 1, cells := 0, slots := 0, locals := 12 } : Room) s m #[(.ref a1)] below meth c s₁ [] 0 0 := Stand.of_body Bd
  have e0 : s₁.heap = h0 := by rw [← hh, Bd.state]; rfl
  have N0 := Fr.nil n0
  change own_Fin p.tables e below (fun s₂ o => ∃ v L, o = .returned v ∧ Q6 Z a1 h0 n0 v s₂.heap L ∧ FrameEnd s o s₂ L ({ frames := 1, cells := 0, slots := 0, locals := 12 } : Room).cells ({ frames := 1, cells := 0, slots := 0, locals := 12 } : Room).slots) (s₁.setTop (entryFrame m #[(.ref a1)] 1))
  refine own_st (fun t k => castTop (show entryFrame m #[(.ref a1)] 1 = mkF m 0 #[.val (.ref a1)] [] by first | (simp [entryFrame, mkF, argsToLocals, Value.category, maxLocals]; done) | rfl) k) ?_
  show own_Fin p.tables e below _ (s₁.setTop (mkF m 0 #[.val (.ref a1)] []))
  refine own_st (fun t k => XS.aloadN X0.here hx rfl (hb hby d6_0) rfl rfl k) ?_
  show own_Fin p.tables e below _ (s₁.setTop (mkF m 1 #[.val (.ref a1)] [(.ref a1)]))
  obtain ⟨T1, X1, e1, st1⟩ := initO X0 hx hZ hown (hw _ (List.mem_of_getElem? (i := 44) rfl)) (hw _ (List.mem_of_getElem? (i := 9) rfl)) (hw _ (List.mem_of_getElem? (i := 10) rfl)) e0 (g := (mkF m 1 #[.val (.ref a1)] [(.ref a1)])) rfl (by rw [hml]; rfl) rfl (hb hby d6_1) (by decide) (W := 0) (by show 2 * 0 + _ ≤ _; exact Nat.le_of_eq rfl) (by decide)
  refine own_st st1 ?_
  show own_Fin p.tables e below _ (T1.setTop (mkF m 4 #[.val (.ref a1)] []))
  obtain ⟨fs, hr, hrun, hended, hW, hsame⟩ := X1.leave (v := none) (fun _ => rfl)
  refine ⟨_, _, X1.returnOut hx Bd.returns (hb hby d6_4) hr, hrun, hended, _, _, rfl, ?_, ⟨_, rfl⟩, hW, hsame.mono (by decide) (by decide)⟩
  show Q6 Z a1 h0 n0 _ T1.heap _
  rw [e1]
  exact ⟨rfl, N0, rfl⟩
def Q5 (Z : State) (a1 : Addr) (p2 : Int32) (h0 : Heap) (n0 : Nat) (v : Option Value) (h : Heap) (L : List Loc) : Prop := v = none ∧ Fr n0 L ∧ Keep h0 h [a1]
set_option maxRecDepth 65536 in
set_option maxHeartbeats 40000000 in
theorem rm5 (l : Launch) (Z : State) (a0 : Array Value) (hw : ∀ d ∈ tables_1, d.before a0 Z = true) (ws : List Jvm.Cond) (a1 : Addr) (p2 : Int32) (h0 : Heap) (n0 : Nat) (Z0 : n0 ≤ h0.size) (F_v : Fld Z h0 a1 "java/lang/Integer" "value" "I" (.int (0 : Int32))) (E_a : Exa Z h0 a1 "java/lang/Integer") (g_a1 : n0 ≤ a1) :
    MetFree l (⟨"java/lang/Integer", "<init>", "(I)V"⟩ : MethodName) (head1 (Jvm.Cond.code (⟨"java/lang/Integer", "<init>", "(I)V"⟩ : MethodName) jdk_33_method_23_code 2 none :: ws) ({ frames := 2, cells := 0, slots := 0, locals := 24 } : Room)) (fun a U => a = #[(.ref a1), (.int p2)] ∧ Z.Warmed39 U.vm ∧ U.heap = h0) (fun _ _ _ _ _ => True) (fun _ U o U' => ∃ v L, o = .returned v ∧ Q5 Z a1 p2 h0 n0 v U'.heap L ∧ FrameEnd U o U' L ({ frames := 2, cells := 0, slots := 0, locals := 24 } : Room).cells ({ frames := 2, cells := 0, slots := 0, locals := 24 } : Room).slots) := by
  refine MetFree.of_bodySF (plainFor_of_name pn_java_lang_Integer) hisR ?_
  intro p e s m args below meth c s₁ Bd hml0 hP hK
  obtain ⟨rfl, hZ, hh⟩ := hP
  have hx := Bd.exec
  have hby := Bd.bytes
  have hml : c.maxLocals = 2 := hml0
  have hown : s.vm.findClass "java/lang/Integer" = some m.cls := findClass_of_methodNamed Bd.named
  have hnm := (name_of_methodNamed Bd.named Bd.method).1
  have X0 : Stand p l e ({ frames := 2, cells := 0, slots := 0, locals := 24 } : Room) s m #[(.ref a1), (.int p2)] below meth c s₁ [] 0 0 := Stand.of_body Bd
  have e0 : s₁.heap = h0 := by rw [← hh, Bd.state]; rfl
  have N0 := Fr.nil n0
  change own_Fin p.tables e below (fun s₂ o => ∃ v L, o = .returned v ∧ Q5 Z a1 p2 h0 n0 v s₂.heap L ∧ FrameEnd s o s₂ L ({ frames := 2, cells := 0, slots := 0, locals := 24 } : Room).cells ({ frames := 2, cells := 0, slots := 0, locals := 24 } : Room).slots) (s₁.setTop (entryFrame m #[(.ref a1), (.int p2)] 2))
  refine own_st (fun t k => castTop (show entryFrame m #[(.ref a1), (.int p2)] 2 = mkF m 0 #[.val (.ref a1), .val (.int p2)] [] by first | (simp [entryFrame, mkF, argsToLocals, Value.category, maxLocals]; done) | rfl) k) ?_
  show own_Fin p.tables e below _ (s₁.setTop (mkF m 0 #[.val (.ref a1), .val (.int p2)] []))
  have K0 : Keep h0 h0 [a1] := Keep.refl h0 [a1]
  refine own_st (fun t k => XS.aloadN X0.here hx rfl (hb hby d5_0) rfl rfl k) ?_
  show own_Fin p.tables e below _ (s₁.setTop (mkF m 1 #[.val (.ref a1), .val (.int p2)] [(.ref a1)]))
  obtain ⟨_, _, ⟨T1, L1, k1, n1⟩, -, X1, ⟨Lc1, hQ1, l1, y1, z1⟩, st1⟩ := X0.specialBack hx (y := (⟨"java/lang/Number", "<init>", "()V"⟩ : MethodName)) rfl hown (mvT hZ (hw _ (List.mem_of_getElem? (i := 38) rfl))) (mvT hZ (hw _ (List.mem_of_getElem? (i := 39) rfl))) (mvT hZ (hw _ (List.mem_of_getElem? (i := 43) rfl))) (by decide) (backOf (W := 0) (rm6 l Z a0 hw [] a1 h0 n0 Z0) hZ (hw _ (List.mem_of_getElem? (i := 43) rfl)) (hw _ (List.mem_of_getElem? (i := 42) rfl)) (by decide) (by decide)) (g := (mkF m 1 #[.val (.ref a1), .val (.int p2)] [(.ref a1)])) rfl (by rw [hml]; rfl) (Steps.refl _) (a := a1) (argsL := []) (rest := []) (lenOf pd___V rfl) rfl (by show 2 * 0 + _ ≤ _; exact Nat.le_of_eq rfl) (hb hby d5_1) (fun _ _ => ⟨rfl, e0, (by decide : 0 + 0 ≤ _), (by decide : 0 + 0 ≤ _)⟩)
  dsimp only [Pt.U, Pt.locs, Pt.cells, Pt.slots] at X1 l1 y1 z1 st1 hQ1
  subst l1 y1 z1
  obtain ⟨rfl, N1, q1⟩ := hQ1
  refine own_st (fun t k => st1.trans k) ?_
  have N1a := Fr.app N0 N1
  show own_Fin p.tables e below _ (T1.setTop (mkF m 4 #[.val (.ref a1), .val (.int p2)] []))
  refine own_st (fun t k => XS.aloadN X1.here hx rfl (hb hby d5_4) rfl rfl k) ?_
  show own_Fin p.tables e below _ (T1.setTop (mkF m 5 #[.val (.ref a1), .val (.int p2)] [(.ref a1)]))
  refine own_st (fun t k => XS.iloadN X1.here hx rfl (hb hby d5_5) rfl k) ?_
  show own_Fin p.tables e below _ (T1.setTop (mkF m 6 #[.val (.ref a1), .val (.int p2)] [(.int p2), (.ref a1)]))
  obtain ⟨T2, h2, X2, e2, W2, st2⟩ := putF X1 hx hZ hown (host := "") (Or.inl (hw _ (List.mem_of_getElem? (i := 45) rfl))) Via.refl q1 F_v E_a (Or.inr ⟨(hw _ (List.mem_of_getElem? (i := 46) rfl)), rfl, hnm⟩) (hw _ (List.mem_of_getElem? (i := 33) rfl)) (ty := .int) (by decide) rfl rfl (g := (mkF m 6 #[.val (.ref a1), .val (.int p2)] [(.int p2), (.ref a1)])) rfl rfl (hb hby d5_6)
  refine own_st st2 ?_
  have F_v'2 := F_v.same W2
  have E_a'2 := E_a.wr W2
  have K0'2 := K0.wr W2 (Or.inl (List.mem_of_getElem? (i := 0) rfl))
  have N2 := Fr.snoc X2 N1a g_a1
  have Z2 : n0 ≤ h2.size := by rw [W2.size]; exact Z0
  show own_Fin p.tables e below _ (T2.setTop (mkF m 9 #[.val (.ref a1), .val (.int p2)] []))
  obtain ⟨fs, hr, hrun, hended, hW, hsame⟩ := X2.leave (v := none) (fun _ => rfl)
  refine ⟨_, _, X2.returnOut hx Bd.returns (hb hby d5_9) hr, hrun, hended, _, _, rfl, ?_, ⟨_, rfl⟩, hW, hsame.mono (by decide) (by decide)⟩
  show Q5 Z a1 p2 h0 n0 _ T2.heap _
  rw [e2]
  exact ⟨rfl, N2, K0'2⟩
def Q4 (Z : State) (p1 : Int32) (h0 : Heap) (n0 : Nat) (v : Option Value) (h : Heap) (L : List Loc) : Prop := Fr n0 L ∧ Keep h0 h [] ∧ ∃ r, v = some (.ref r) ∧ Exa Z h r "java/lang/Integer"
set_option maxRecDepth 65536 in
set_option maxHeartbeats 40000000 in
theorem rm4 (l : Launch) (Z : State) (a0 : Array Value) (hw : ∀ d ∈ tables_1, d.before a0 Z = true) (ws : List Jvm.Cond) (p1 : Int32) (h0 : Heap) (n0 : Nat) (Z0 : n0 ≤ h0.size) (hp : ¬ p1 < 0) (Ca : own_Cache Z h0) :
    MetFree l (⟨"java/lang/Integer", "valueOf", "(I)Ljava/lang/Integer;"⟩ : MethodName) (head1 (Jvm.Cond.code (⟨"java/lang/Integer", "valueOf", "(I)Ljava/lang/Integer;"⟩ : MethodName) jdk_33_method_22_code 1 (some (.object "java/lang/Integer")) :: ws) ({ frames := 3, cells := 1, slots := 1, locals := 38 } : Room)) (fun a U => a = #[(.int p1)] ∧ Z.Warmed39 U.vm ∧ U.heap = h0) (fun _ _ _ _ _ => True) (fun _ U o U' => ∃ v L, o = .returned v ∧ Q4 Z p1 h0 n0 v U'.heap L ∧ FrameEnd U o U' L ({ frames := 3, cells := 1, slots := 1, locals := 38 } : Room).cells ({ frames := 3, cells := 1, slots := 1, locals := 38 } : Room).slots) := by
  refine MetFree.of_bodySF (plainFor_of_name pn_java_lang_Integer) hisR ?_
  intro p e s m args below meth c s₁ Bd hml0 hP hK
  obtain ⟨rfl, hZ, hh⟩ := hP
  have hx := Bd.exec
  have hby := Bd.bytes
  have hml : c.maxLocals = 1 := hml0
  have hown : s.vm.findClass "java/lang/Integer" = some m.cls := findClass_of_methodNamed Bd.named
  have hnm := (name_of_methodNamed Bd.named Bd.method).1
  have X0 : Stand p l e ({ frames := 3, cells := 1, slots := 1, locals := 38 } : Room) s m #[(.int p1)] below meth c s₁ [] 0 0 := Stand.of_body Bd
  have e0 : s₁.heap = h0 := by rw [← hh, Bd.state]; rfl
  have N0 := Fr.nil n0
  change own_Fin p.tables e below (fun s₂ o => ∃ v L, o = .returned v ∧ Q4 Z p1 h0 n0 v s₂.heap L ∧ FrameEnd s o s₂ L ({ frames := 3, cells := 1, slots := 1, locals := 38 } : Room).cells ({ frames := 3, cells := 1, slots := 1, locals := 38 } : Room).slots) (s₁.setTop (entryFrame m #[(.int p1)] 1))
  refine own_st (fun t k => castTop (show entryFrame m #[(.int p1)] 1 = mkF m 0 #[.val (.int p1)] [] by first | (simp [entryFrame, mkF, argsToLocals, Value.category, maxLocals]; done) | rfl) k) ?_
  show own_Fin p.tables e below _ (s₁.setTop (mkF m 0 #[.val (.int p1)] []))
  obtain ⟨ac, cl, S_c, S_h, A_c, z_c, el_c⟩ := Ca
  have K0 : Keep h0 h0 [] := Keep.refl h0 []
  have lo : ¬ p1 < (-128 : Int32) := fun q => hp (by rw [Int32.lt_iff_toInt_lt] at q ⊢; have : (-128 : Int32).toInt = -128 := (by decide); have : (0 : Int32).toInt = 0 := (by decide); omega)
  refine own_st (fun t k => XS.iloadN X0.here hx rfl (hb hby d4_0) rfl k) ?_
  show own_Fin p.tables e below _ (s₁.setTop (mkF m 1 #[.val (.int p1)] [(.int p1)]))
  refine own_st (fun t k => XS.bipush X0.here hx rfl (hb hby d4_1) k) ?_
  show own_Fin p.tables e below _ (s₁.setTop (mkF m 3 #[.val (.int p1)] [(.int (-128 : Int32)), (.int p1)]))
  refine own_st (fun t k => XS.icmpNo X0.here hx rfl (hb hby d4_3) rfl (XT.ii_lt_f lo) k) ?_
  show own_Fin p.tables e below _ (s₁.setTop (mkF m 6 #[.val (.int p1)] []))
  refine own_st (fun t k => XS.iloadN X0.here hx rfl (hb hby d4_6) rfl k) ?_
  show own_Fin p.tables e below _ (s₁.setTop (mkF m 7 #[.val (.int p1)] [(.int p1)]))
  obtain ⟨T1, X1, e1, st1⟩ := getS (host := "") X0 hx hZ hown (hw _ (List.mem_of_getElem? (i := 26) rfl)) Via.refl e0 S_h (g := (mkF m 7 #[.val (.int p1)] [(.int p1)])) rfl (hb hby d4_7)
  refine own_st st1 ?_
  show own_Fin p.tables e below _ (T1.setTop (mkF m 10 #[.val (.int p1)] [(.int (127 : Int32)), (.int p1)]))
  rcases Decidable.em ((127 : Int32) < p1) with cb | cb
  · have _ := cb
    refine own_st (fun t k => XS.icmpYes X1.here hx rfl (pc0 := 10) (pc' := 23) rfl (hb hby d4_10) rfl (XT.ii_gt_t cb) (by decide) (by decide) k) ?_
    show own_Fin p.tables e below _ (T1.setTop (mkF m 23 #[.val (.int p1)] []))
    obtain ⟨T2, h2, X2, e2, E2, A2, D2, U2, st2⟩ := newO X1 hx hZ hown (hw _ (List.mem_of_getElem? (i := 32) rfl)) (hw _ (List.mem_of_getElem? (i := 33) rfl)) (hw _ (List.mem_of_getElem? (i := 24) rfl)) e1 (g := (mkF m 23 #[.val (.int p1)] [])) rfl (hb hby d4_23) (by decide) (by decide)
    obtain ⟨b2, g2⟩ : ∃ z, z = h0.size := ⟨_, rfl⟩
    have g_b2 : n0 ≤ b2 := Nat.le_trans Z0 (Nat.le_of_eq g2.symm)
    have sz_b2 : h0.size ≤ b2 := Nat.le_trans K0.1 (Nat.le_of_eq g2.symm)
    rw [← g2] at A2 D2 U2 st2
    refine own_st st2 ?_
    have S_c'2 := S_c.ext E2
    have S_h'2 := S_h.ext E2
    have K0'2 := K0.ext E2
    have Z2 : n0 ≤ h2.size := Nat.le_trans Z0 E2.1
    have F_value_b2 : Fld Z h2 b2 "java/lang/Integer" "value" "I" (.int (0 : Int32)) := D2 (Or.inr (hw _ (List.mem_of_getElem? (i := 46) rfl))) (ty := .int) (by decide)
    show own_Fin p.tables e below _ (T2.setTop (mkF m 26 #[.val (.int p1)] [(.ref b2)]))
    refine own_st (fun t k => XS.dup X2.here hx rfl (hb hby d4_26) rfl rfl k) ?_
    show own_Fin p.tables e below _ (T2.setTop (mkF m 27 #[.val (.int p1)] [(.ref b2), (.ref b2)]))
    refine own_st (fun t k => XS.iloadN X2.here hx rfl (hb hby d4_27) rfl k) ?_
    show own_Fin p.tables e below _ (T2.setTop (mkF m 28 #[.val (.int p1)] [(.int p1), (.ref b2), (.ref b2)]))
    obtain ⟨_, _, ⟨T3, L3, k3, n3⟩, -, X3, ⟨Lc3, hQ3, l3, y3, z3⟩, st3⟩ := X2.specialBack hx (y := (⟨"java/lang/Integer", "<init>", "(I)V"⟩ : MethodName)) rfl hown (mvT hZ (hw _ (List.mem_of_getElem? (i := 34) rfl))) (mvT hZ (hw _ (List.mem_of_getElem? (i := 35) rfl))) (mvT hZ (hw _ (List.mem_of_getElem? (i := 37) rfl))) (by decide) (backOf (W := 1) (rm5 l Z a0 hw [] b2 p1 h2 n0 Z2 F_value_b2 A2 g_b2) hZ (hw _ (List.mem_of_getElem? (i := 37) rfl)) (hw _ (List.mem_of_getElem? (i := 24) rfl)) (by decide) (by decide)) (g := (mkF m 28 #[.val (.int p1)] [(.int p1), (.ref b2), (.ref b2)])) rfl (by rw [hml]; rfl) (Steps.refl _) (a := b2) (argsL := [(.int p1)]) (rest := [(.ref b2)]) (lenOf pd__I_V rfl) rfl (by show 2 * 0 + _ ≤ _; exact Nat.le_of_eq rfl) (hb hby d4_28) (fun _ _ => ⟨rfl, e2, (by decide : 1 + 0 ≤ _), (by decide : 1 + 0 ≤ _)⟩)
    dsimp only [Pt.U, Pt.locs, Pt.cells, Pt.slots] at X3 l3 y3 z3 st3 hQ3
    subst l3 y3 z3
    obtain ⟨rfl, N3, K3⟩ := hQ3
    refine own_st (fun t k => st3.trans k) ?_
    have K0'3 := K0'2.trans K3 (allS (P := fun x => x ∈ ([] : List Addr) ∨ h0.size ≤ x) (Or.inr sz_b2) all0)
    have A2'3 := A2.keep K3
    have Z3 : n0 ≤ T3.heap.size := Nat.le_trans Z2 K3.1
    have N3a := Fr.app N0 N3
    show own_Fin p.tables e below _ (T3.setTop (mkF m 31 #[.val (.int p1)] [(.ref b2)]))
    obtain ⟨fs, hr, hrun, hended, hW, hsame⟩ := X3.leave (v := (some (.ref b2))) (fun h => by rw [Bd.returns] at h; cases h)
    refine ⟨_, _, retOut X3 hx (t := (.object "java/lang/Integer")) Bd.returns rfl (Or.inr (Or.inr (Or.inr (Or.inr ⟨rfl, rfl, rfl⟩)))) (hb hby d4_31) hr, hrun, hended, _, _, rfl, ?_, ⟨_, rfl⟩, hW, hsame.mono (by decide) (by decide)⟩
    show Q4 Z p1 h0 n0 _ T3.heap _
    exact ⟨N3a, K0'3, _, rfl, A2'3⟩
  · have _ := cb
    refine own_st (fun t k => XS.icmpNo X1.here hx rfl (hb hby d4_10) rfl (XT.ii_gt_f cb) k) ?_
    show own_Fin p.tables e below _ (T1.setTop (mkF m 13 #[.val (.int p1)] []))
    obtain ⟨T4, X4, e4, st4⟩ := getS (host := "") X1 hx hZ hown (hw _ (List.mem_of_getElem? (i := 28) rfl)) Via.refl e1 S_c (g := (mkF m 13 #[.val (.int p1)] [])) rfl (hb hby d4_13)
    refine own_st st4 ?_
    show own_Fin p.tables e below _ (T4.setTop (mkF m 16 #[.val (.int p1)] [(.ref ac)]))
    refine own_st (fun t k => XS.iloadN X4.here hx rfl (hb hby d4_16) rfl k) ?_
    show own_Fin p.tables e below _ (T4.setTop (mkF m 17 #[.val (.int p1)] [(.int p1), (.ref ac)]))
    refine own_st (fun t k => XS.sipush X4.here hx rfl (hb hby d4_17) k) ?_
    show own_Fin p.tables e below _ (T4.setTop (mkF m 20 #[.val (.int p1)] [(.int (128 : Int32)), (.int p1), (.ref ac)]))
    refine own_st (fun t k => XS.iadd X4.here hx rfl (hb hby d4_20) rfl k) ?_
    show own_Fin p.tables e below _ (T4.setTop (mkF m 21 #[.val (.int p1)] [(.int (p1 + (128 : Int32))), (.ref ac)]))
    have hin := own_in z_c hp cb
    obtain ⟨r, hat, E_r⟩ := el_c _ hin
    refine own_st (fun t k => X4.aaload hx (j := (p1 + (128 : Int32))) (v := .ref r) (by rw [e4]; exact A_c.1) (State.isArrayOf_alike hZ.alike A_c.2.1) rfl A_c.2.2 hin hat (g := (mkF m 21 #[.val (.int p1)] [(.int (p1 + (128 : Int32))), (.ref ac)])) rfl rfl (hb hby d4_21) t k) ?_
    show own_Fin p.tables e below _ (T4.setTop (mkF m 22 #[.val (.int p1)] [(.ref r)]))
    obtain ⟨fs, hr, hrun, hended, hW, hsame⟩ := X4.leave (v := (some (.ref r))) (fun h => by rw [Bd.returns] at h; cases h)
    refine ⟨_, _, retOut X4 hx (t := (.object "java/lang/Integer")) Bd.returns rfl (Or.inr (Or.inr (Or.inr (Or.inr ⟨rfl, rfl, rfl⟩)))) (hb hby d4_22) hr, hrun, hended, _, _, rfl, ?_, ⟨_, rfl⟩, hW, hsame.mono (by decide) (by decide)⟩
    show Q4 Z p1 h0 n0 _ T4.heap _
    rw [e4]
    exact ⟨N0, K0, _, rfl, E_r⟩
def Q1 (Z : State) (a1 : Addr) (p2 : Int32) (vv3 : Int64) (h0 : Heap) (n0 : Nat) (v : Option Value) (h : Heap) (L : List Loc) : Prop := v = none ∧ Fr n0 L ∧ Keep h0 h [a1] ∧ Fld Z h a1 "com/example/lugar/lugar/InhibitorArc" "place" "I" (.int p2) ∧ Fld Z h a1 "com/example/lugar/lugar/InhibitorArc" "threshold" "J" (.long vv3)
set_option maxRecDepth 65536 in
set_option maxHeartbeats 40000000 in
theorem rm1 (l : Launch) (Z : State) (a0 : Array Value) (hw : ∀ d ∈ tables_1, d.before a0 Z = true) (ws : List Jvm.Cond) (a1 : Addr) (p2 : Int32) (vv3 : Int64) (h0 : Heap) (n0 : Nat) (Z0 : n0 ≤ h0.size) (F_p : Fld Z h0 a1 "com/example/lugar/lugar/InhibitorArc" "place" "I" (.int (0 : Int32))) (F_t : Fld Z h0 a1 "com/example/lugar/lugar/InhibitorArc" "threshold" "J" (.long (0 : Int64))) (E_a : Exa Z h0 a1 "com/example/lugar/lugar/InhibitorArc") (g_a1 : n0 ≤ a1) (hp : ¬ p2 < 0) (hq : ¬ vv3 < 0) :
    MetFree l (⟨"com/example/lugar/lugar/InhibitorArc", "<init>", "(IJ)V"⟩ : MethodName) (head1 (Jvm.Cond.code (⟨"com/example/lugar/lugar/InhibitorArc", "<init>", "(IJ)V"⟩ : MethodName) prog_14_method_1_code 4 none :: ws) ({ frames := 1, cells := 0, slots := 0, locals := 12 } : Room)) (fun a U => a = #[(.ref a1), (.int p2), (.long vv3)] ∧ Z.Warmed39 U.vm ∧ U.heap = h0) (fun _ _ _ _ _ => True) (fun _ U o U' => ∃ v L, o = .returned v ∧ Q1 Z a1 p2 vv3 h0 n0 v U'.heap L ∧ FrameEnd U o U' L ({ frames := 1, cells := 0, slots := 0, locals := 12 } : Room).cells ({ frames := 1, cells := 0, slots := 0, locals := 12 } : Room).slots) := by
  refine MetFree.of_bodySF (plainFor_of_name pn_com_example_lugar_lugar_InhibitorArc) hisR ?_
  intro p e s m args below meth c s₁ Bd hml0 hP hK
  obtain ⟨rfl, hZ, hh⟩ := hP
  have hx := Bd.exec
  have hby := Bd.bytes
  have hml : c.maxLocals = 4 := hml0
  have hown : s.vm.findClass "com/example/lugar/lugar/InhibitorArc" = some m.cls := findClass_of_methodNamed Bd.named
  have hnm := (name_of_methodNamed Bd.named Bd.method).1
  have X0 : Stand p l e ({ frames := 1, cells := 0, slots := 0, locals := 12 } : Room) s m #[(.ref a1), (.int p2), (.long vv3)] below meth c s₁ [] 0 0 := Stand.of_body Bd
  have e0 : s₁.heap = h0 := by rw [← hh, Bd.state]; rfl
  have N0 := Fr.nil n0
  change own_Fin p.tables e below (fun s₂ o => ∃ v L, o = .returned v ∧ Q1 Z a1 p2 vv3 h0 n0 v s₂.heap L ∧ FrameEnd s o s₂ L ({ frames := 1, cells := 0, slots := 0, locals := 12 } : Room).cells ({ frames := 1, cells := 0, slots := 0, locals := 12 } : Room).slots) (s₁.setTop (entryFrame m #[(.ref a1), (.int p2), (.long vv3)] 4))
  refine own_st (fun t k => castTop (show entryFrame m #[(.ref a1), (.int p2), (.long vv3)] 4 = mkF m 0 #[.val (.ref a1), .val (.int p2), .val (.long vv3), .second] [] by first | (simp [entryFrame, mkF, argsToLocals, Value.category, maxLocals]; done) | rfl) k) ?_
  show own_Fin p.tables e below _ (s₁.setTop (mkF m 0 #[.val (.ref a1), .val (.int p2), .val (.long vv3), .second] []))
  have K0 : Keep h0 h0 [a1] := Keep.refl h0 [a1]
  refine own_st (fun t k => XS.aloadN X0.here hx rfl (hb hby d1_0) rfl rfl k) ?_
  show own_Fin p.tables e below _ (s₁.setTop (mkF m 1 #[.val (.ref a1), .val (.int p2), .val (.long vv3), .second] [(.ref a1)]))
  obtain ⟨T1, X1, e1, st1⟩ := initO X0 hx hZ hown (hw _ (List.mem_of_getElem? (i := 8) rfl)) (hw _ (List.mem_of_getElem? (i := 9) rfl)) (hw _ (List.mem_of_getElem? (i := 10) rfl)) e0 (g := (mkF m 1 #[.val (.ref a1), .val (.int p2), .val (.long vv3), .second] [(.ref a1)])) rfl (by rw [hml]; rfl) rfl (hb hby d1_1) (by decide) (W := 0) (by show 2 * 0 + _ ≤ _; exact Nat.le_of_eq rfl) (by decide)
  refine own_st st1 ?_
  show own_Fin p.tables e below _ (T1.setTop (mkF m 4 #[.val (.ref a1), .val (.int p2), .val (.long vv3), .second] []))
  refine own_st (fun t k => XS.iloadN X1.here hx rfl (hb hby d1_4) rfl k) ?_
  show own_Fin p.tables e below _ (T1.setTop (mkF m 5 #[.val (.ref a1), .val (.int p2), .val (.long vv3), .second] [(.int p2)]))
  refine own_st (fun t k => XS.ifYes X1.here hx rfl (pc0 := 5) (pc' := 22) rfl (hb hby d1_5) rfl (XT.i0_ge_t hp) (by decide) (by decide) k) ?_
  show own_Fin p.tables e below _ (T1.setTop (mkF m 22 #[.val (.ref a1), .val (.int p2), .val (.long vv3), .second] []))
  refine own_st (fun t k => XS.lloadN X1.here hx rfl (hb hby d1_22) rfl k) ?_
  show own_Fin p.tables e below _ (T1.setTop (mkF m 23 #[.val (.ref a1), .val (.int p2), .val (.long vv3), .second] [(.long vv3)]))
  refine own_st (fun t k => XS.lconst X1.here hx rfl (hb hby d1_23) k) ?_
  show own_Fin p.tables e below _ (T1.setTop (mkF m 24 #[.val (.ref a1), .val (.int p2), .val (.long vv3), .second] [(.long (0 : Int64)), (.long vv3)]))
  refine own_st (fun t k => XT.lcmp X1.here hx rfl (hb hby d1_24) rfl k) ?_
  show own_Fin p.tables e below _ (T1.setTop (mkF m 25 #[.val (.ref a1), .val (.int p2), .val (.long vv3), .second] [(.int (XT.cmpL vv3 (0 : Int64)))]))
  refine own_st (fun t k => XS.ifYes X1.here hx rfl (pc0 := 25) (pc' := 42) rfl (hb hby d1_25) rfl (XT.ll_ge_t hq) (by decide) (by decide) k) ?_
  show own_Fin p.tables e below _ (T1.setTop (mkF m 42 #[.val (.ref a1), .val (.int p2), .val (.long vv3), .second] []))
  refine own_st (fun t k => XS.aloadN X1.here hx rfl (hb hby d1_42) rfl rfl k) ?_
  show own_Fin p.tables e below _ (T1.setTop (mkF m 43 #[.val (.ref a1), .val (.int p2), .val (.long vv3), .second] [(.ref a1)]))
  refine own_st (fun t k => XS.iloadN X1.here hx rfl (hb hby d1_43) rfl k) ?_
  show own_Fin p.tables e below _ (T1.setTop (mkF m 44 #[.val (.ref a1), .val (.int p2), .val (.long vv3), .second] [(.int p2), (.ref a1)]))
  obtain ⟨T2, h2, X2, e2, W2, st2⟩ := putF X1 hx hZ hown (host := "") (Or.inl (hw _ (List.mem_of_getElem? (i := 11) rfl))) Via.refl e1 F_p E_a (Or.inr ⟨(hw _ (List.mem_of_getElem? (i := 12) rfl)), rfl, hnm⟩) (hw _ (List.mem_of_getElem? (i := 3) rfl)) (ty := .int) (by decide) rfl rfl (g := (mkF m 44 #[.val (.ref a1), .val (.int p2), .val (.long vv3), .second] [(.int p2), (.ref a1)])) rfl rfl (hb hby d1_44)
  refine own_st st2 ?_
  have F_p'2 := F_p.same W2
  have F_t'2 := F_t.other W2 (Or.inr (slot_ne (Or.inr (hw _ (List.mem_of_getElem? (i := 14) rfl))) (Or.inr (hw _ (List.mem_of_getElem? (i := 12) rfl))) (by decide) (t := .long) (t' := .int) (by decide) (by decide)))
  have E_a'2 := E_a.wr W2
  have K0'2 := K0.wr W2 (Or.inl (List.mem_of_getElem? (i := 0) rfl))
  have N2 := Fr.snoc X2 N0 g_a1
  have Z2 : n0 ≤ h2.size := by rw [W2.size]; exact Z0
  show own_Fin p.tables e below _ (T2.setTop (mkF m 47 #[.val (.ref a1), .val (.int p2), .val (.long vv3), .second] []))
  refine own_st (fun t k => XS.aloadN X2.here hx rfl (hb hby d1_47) rfl rfl k) ?_
  show own_Fin p.tables e below _ (T2.setTop (mkF m 48 #[.val (.ref a1), .val (.int p2), .val (.long vv3), .second] [(.ref a1)]))
  refine own_st (fun t k => XS.lloadN X2.here hx rfl (hb hby d1_48) rfl k) ?_
  show own_Fin p.tables e below _ (T2.setTop (mkF m 49 #[.val (.ref a1), .val (.int p2), .val (.long vv3), .second] [(.long vv3), (.ref a1)]))
  obtain ⟨T3, h3, X3, e3, W3, st3⟩ := putF X2 hx hZ hown (host := "") (Or.inl (hw _ (List.mem_of_getElem? (i := 13) rfl))) Via.refl e2 F_t'2 E_a'2 (Or.inr ⟨(hw _ (List.mem_of_getElem? (i := 14) rfl)), rfl, hnm⟩) (hw _ (List.mem_of_getElem? (i := 3) rfl)) (ty := .long) (by decide) rfl rfl (g := (mkF m 49 #[.val (.ref a1), .val (.int p2), .val (.long vv3), .second] [(.long vv3), (.ref a1)])) rfl rfl (hb hby d1_49)
  refine own_st st3 ?_
  have F_p'3 := F_p'2.other W3 (Or.inr (slot_ne (Or.inr (hw _ (List.mem_of_getElem? (i := 12) rfl))) (Or.inr (hw _ (List.mem_of_getElem? (i := 14) rfl))) (by decide) (t := .int) (t' := .long) (by decide) (by decide)))
  have F_t'3 := F_t'2.same W3
  have E_a'3 := E_a'2.wr W3
  have K0'3 := K0'2.wr W3 (Or.inl (List.mem_of_getElem? (i := 0) rfl))
  have N3 := Fr.snoc X3 N2 g_a1
  have Z3 : n0 ≤ h3.size := by rw [W3.size]; exact Z2
  show own_Fin p.tables e below _ (T3.setTop (mkF m 52 #[.val (.ref a1), .val (.int p2), .val (.long vv3), .second] []))
  obtain ⟨fs, hr, hrun, hended, hW, hsame⟩ := X3.leave (v := none) (fun _ => rfl)
  refine ⟨_, _, X3.returnOut hx Bd.returns (hb hby d1_52) hr, hrun, hended, _, _, rfl, ?_, ⟨_, rfl⟩, hW, hsame.mono (by decide) (by decide)⟩
  show Q1 Z a1 p2 vv3 h0 n0 _ T3.heap _
  rw [e3]
  exact ⟨rfl, N3, K0'3, F_p'3, F_t'3⟩
def QE1 (Z : State) (a1 : Addr) (pp : Int32) (tt : Int64) (a2 : Addr) (p2 : Int32) (t2 : Int64) (h0 : Heap) (n0 : Nat) (v : Option Value) (h : Heap) (L : List Loc) : Prop := v = some (.int (if p2 = pp ∧ t2 = tt then 1 else 0)) ∧ Fr n0 L ∧ h = h0
set_option maxRecDepth 65536 in
set_option maxHeartbeats 40000000 in
theorem rmE1 (l : Launch) (Z : State) (a0 : Array Value) (hw : ∀ d ∈ tables_1, d.before a0 Z = true) (ws : List Jvm.Cond) (a1 : Addr) (pp : Int32) (tt : Int64) (a2 : Addr) (p2 : Int32) (t2 : Int64) (h0 : Heap) (n0 : Nat) (Z0 : n0 ≤ h0.size) (F_p : Fld Z h0 a1 "com/example/lugar/lugar/InhibitorArc" "place" "I" (.int pp)) (F_t : Fld Z h0 a1 "com/example/lugar/lugar/InhibitorArc" "threshold" "J" (.long tt)) (F_p2 : Fld Z h0 a2 "com/example/lugar/lugar/InhibitorArc" "place" "I" (.int p2)) (F_t2 : Fld Z h0 a2 "com/example/lugar/lugar/InhibitorArc" "threshold" "J" (.long t2)) (E_2 : Exa Z h0 a2 "com/example/lugar/lugar/InhibitorArc") :
    MetFree l (⟨"com/example/lugar/lugar/InhibitorArc", "equals", "(Ljava/lang/Object;)Z"⟩ : MethodName) (head1 (Jvm.Cond.code (⟨"com/example/lugar/lugar/InhibitorArc", "equals", "(Ljava/lang/Object;)Z"⟩ : MethodName) prog_14_method_4_code 3 (some .boolean) :: ws) ({ frames := 1, cells := 0, slots := 0, locals := 12 } : Room)) (fun a U => a = #[(.ref a1), (.ref a2)] ∧ Z.Warmed39 U.vm ∧ U.heap = h0) (fun _ _ _ _ _ => True) (fun _ U o U' => ∃ v L, o = .returned v ∧ QE1 Z a1 pp tt a2 p2 t2 h0 n0 v U'.heap L ∧ FrameEnd U o U' L ({ frames := 1, cells := 0, slots := 0, locals := 12 } : Room).cells ({ frames := 1, cells := 0, slots := 0, locals := 12 } : Room).slots) := by
  refine MetFree.of_bodySF (plainFor_of_name pn_com_example_lugar_lugar_InhibitorArc) hisR ?_
  intro p e s m args below meth c s₁ Bd hml0 hP hK
  obtain ⟨rfl, hZ, hh⟩ := hP
  have hx := Bd.exec
  have hby := Bd.bytes
  have hml : c.maxLocals = 3 := hml0
  have hown : s.vm.findClass "com/example/lugar/lugar/InhibitorArc" = some m.cls := findClass_of_methodNamed Bd.named
  have hnm := (name_of_methodNamed Bd.named Bd.method).1
  have X0 : Stand p l e ({ frames := 1, cells := 0, slots := 0, locals := 12 } : Room) s m #[(.ref a1), (.ref a2)] below meth c s₁ [] 0 0 := Stand.of_body Bd
  have e0 : s₁.heap = h0 := by rw [← hh, Bd.state]; rfl
  have N0 := Fr.nil n0
  change own_Fin p.tables e below (fun s₂ o => ∃ v L, o = .returned v ∧ QE1 Z a1 pp tt a2 p2 t2 h0 n0 v s₂.heap L ∧ FrameEnd s o s₂ L ({ frames := 1, cells := 0, slots := 0, locals := 12 } : Room).cells ({ frames := 1, cells := 0, slots := 0, locals := 12 } : Room).slots) (s₁.setTop (entryFrame m #[(.ref a1), (.ref a2)] 3))
  refine own_st (fun t k => castTop (show entryFrame m #[(.ref a1), (.ref a2)] 3 = mkF m 0 #[.val (.ref a1), .val (.ref a2), .unset] [] by first | (simp [entryFrame, mkF, argsToLocals, Value.category, maxLocals]; done) | rfl) k) ?_
  show own_Fin p.tables e below _ (s₁.setTop (mkF m 0 #[.val (.ref a1), .val (.ref a2), .unset] []))
  refine own_st (fun t k => XS.aloadN X0.here hx rfl (hb hby d3_0) rfl rfl k) ?_
  show own_Fin p.tables e below _ (s₁.setTop (mkF m 1 #[.val (.ref a1), .val (.ref a2), .unset] [(.ref a2)]))
  obtain ⟨T1, X1, e1, st1⟩ := instY X0 hx hZ hown (hw _ (List.mem_of_getElem? (i := 20) rfl)) e0 (Ins.self E_2) (g := (mkF m 1 #[.val (.ref a1), .val (.ref a2), .unset] [(.ref a2)])) rfl rfl (hb hby d3_1)
  refine own_st st1 ?_
  show own_Fin p.tables e below _ (T1.setTop (mkF m 4 #[.val (.ref a1), .val (.ref a2), .unset] [(.int (1 : Int32))]))
  refine own_st (fun t k => XS.ifNo X1.here hx rfl (hb hby d3_4) rfl (XT.i0_eq_f (by decide)) k) ?_
  show own_Fin p.tables e below _ (T1.setTop (mkF m 7 #[.val (.ref a1), .val (.ref a2), .unset] []))
  refine own_st (fun t k => XS.aloadN X1.here hx rfl (hb hby d3_7) rfl rfl k) ?_
  show own_Fin p.tables e below _ (T1.setTop (mkF m 8 #[.val (.ref a1), .val (.ref a2), .unset] [(.ref a2)]))
  obtain ⟨T2, X2, e2, st2⟩ := castY X1 hx hZ hown (hw _ (List.mem_of_getElem? (i := 20) rfl)) e1 (Ins.self E_2) (g := (mkF m 8 #[.val (.ref a1), .val (.ref a2), .unset] [(.ref a2)])) rfl rfl (hb hby d3_8)
  refine own_st st2 ?_
  show own_Fin p.tables e below _ (T2.setTop (mkF m 11 #[.val (.ref a1), .val (.ref a2), .unset] [(.ref a2)]))
  refine own_st (fun t k => XS.astoreN X2.here hx rfl (hb hby d3_11) rfl rfl (l' := #[.val (.ref a1), .val (.ref a2), .val (.ref a2)]) rfl k) ?_
  show own_Fin p.tables e below _ (T2.setTop (mkF m 12 #[.val (.ref a1), .val (.ref a2), .val (.ref a2)] []))
  refine own_st (fun t k => XS.aloadN X2.here hx rfl (hb hby d3_12) rfl rfl k) ?_
  show own_Fin p.tables e below _ (T2.setTop (mkF m 13 #[.val (.ref a1), .val (.ref a2), .val (.ref a2)] [(.ref a2)]))
  obtain ⟨T3, X3, e3, st3⟩ := getF X2 hx hZ hown (host := "") (Or.inl (hw _ (List.mem_of_getElem? (i := 11) rfl))) Via.refl e2 F_p2 (g := (mkF m 13 #[.val (.ref a1), .val (.ref a2), .val (.ref a2)] [(.ref a2)])) rfl rfl (hb hby d3_13)
  refine own_st st3 ?_
  show own_Fin p.tables e below _ (T3.setTop (mkF m 16 #[.val (.ref a1), .val (.ref a2), .val (.ref a2)] [(.int p2)]))
  refine own_st (fun t k => XS.aloadN X3.here hx rfl (hb hby d3_16) rfl rfl k) ?_
  show own_Fin p.tables e below _ (T3.setTop (mkF m 17 #[.val (.ref a1), .val (.ref a2), .val (.ref a2)] [(.ref a1), (.int p2)]))
  obtain ⟨T4, X4, e4, st4⟩ := getF X3 hx hZ hown (host := "") (Or.inl (hw _ (List.mem_of_getElem? (i := 11) rfl))) Via.refl e3 F_p (g := (mkF m 17 #[.val (.ref a1), .val (.ref a2), .val (.ref a2)] [(.ref a1), (.int p2)])) rfl rfl (hb hby d3_17)
  refine own_st st4 ?_
  show own_Fin p.tables e below _ (T4.setTop (mkF m 20 #[.val (.ref a1), .val (.ref a2), .val (.ref a2)] [(.int pp), (.int p2)]))
  rcases Decidable.em (p2 = pp) with c1 | c1
  · have _ := c1
    refine own_st (fun t k => XS.icmpNo X4.here hx rfl (hb hby d3_20) rfl (XT.ii_ne_f c1) k) ?_
    show own_Fin p.tables e below _ (T4.setTop (mkF m 23 #[.val (.ref a1), .val (.ref a2), .val (.ref a2)] []))
    refine own_st (fun t k => XS.aloadN X4.here hx rfl (hb hby d3_23) rfl rfl k) ?_
    show own_Fin p.tables e below _ (T4.setTop (mkF m 24 #[.val (.ref a1), .val (.ref a2), .val (.ref a2)] [(.ref a2)]))
    obtain ⟨T5, X5, e5, st5⟩ := getF X4 hx hZ hown (host := "") (Or.inl (hw _ (List.mem_of_getElem? (i := 13) rfl))) Via.refl e4 F_t2 (g := (mkF m 24 #[.val (.ref a1), .val (.ref a2), .val (.ref a2)] [(.ref a2)])) rfl rfl (hb hby d3_24)
    refine own_st st5 ?_
    show own_Fin p.tables e below _ (T5.setTop (mkF m 27 #[.val (.ref a1), .val (.ref a2), .val (.ref a2)] [(.long t2)]))
    refine own_st (fun t k => XS.aloadN X5.here hx rfl (hb hby d3_27) rfl rfl k) ?_
    show own_Fin p.tables e below _ (T5.setTop (mkF m 28 #[.val (.ref a1), .val (.ref a2), .val (.ref a2)] [(.ref a1), (.long t2)]))
    obtain ⟨T6, X6, e6, st6⟩ := getF X5 hx hZ hown (host := "") (Or.inl (hw _ (List.mem_of_getElem? (i := 13) rfl))) Via.refl e5 F_t (g := (mkF m 28 #[.val (.ref a1), .val (.ref a2), .val (.ref a2)] [(.ref a1), (.long t2)])) rfl rfl (hb hby d3_28)
    refine own_st st6 ?_
    show own_Fin p.tables e below _ (T6.setTop (mkF m 31 #[.val (.ref a1), .val (.ref a2), .val (.ref a2)] [(.long tt), (.long t2)]))
    refine own_st (fun t k => XT.lcmp X6.here hx rfl (hb hby d3_31) rfl k) ?_
    show own_Fin p.tables e below _ (T6.setTop (mkF m 32 #[.val (.ref a1), .val (.ref a2), .val (.ref a2)] [(.int (XT.cmpL t2 tt))]))
    rcases Decidable.em (t2 = tt) with c2 | c2
    · have _ := c2
      refine own_st (fun t k => XS.ifNo X6.here hx rfl (hb hby d3_32) rfl (XT.ll_ne_f c2) k) ?_
      show own_Fin p.tables e below _ (T6.setTop (mkF m 35 #[.val (.ref a1), .val (.ref a2), .val (.ref a2)] []))
      refine own_st (fun t k => XS.iconst X6.here hx rfl (hb hby d3_35) k) ?_
      show own_Fin p.tables e below _ (T6.setTop (mkF m 36 #[.val (.ref a1), .val (.ref a2), .val (.ref a2)] [(.int (1 : Int32))]))
      refine own_st (fun t k => XS.goto X6.here hx rfl (pc0 := 36) (pc' := 40) rfl (hb hby d3_36) (by decide) (by decide) k) ?_
      show own_Fin p.tables e below _ (T6.setTop (mkF m 40 #[.val (.ref a1), .val (.ref a2), .val (.ref a2)] [(.int (1 : Int32))]))
      obtain ⟨fs, hr, hrun, hended, hW, hsame⟩ := X6.leave (v := (some (.int (1 : Int32)))) (fun h => by rw [Bd.returns] at h; cases h)
      refine ⟨_, _, retN X6 hx (t := .boolean) Bd.returns (by simp) (hb hby d3_40) hr, hrun, hended, _, _, rfl, ?_, ⟨_, rfl⟩, hW, hsame.mono (by decide) (by decide)⟩
      show QE1 Z a1 pp tt a2 p2 t2 h0 n0 _ T6.heap _
      rw [e6]
      exact ⟨by rw [if_pos ⟨c1, c2⟩], N0, rfl⟩
    · have _ := c2
      refine own_st (fun t k => XS.ifYes X6.here hx rfl (pc0 := 32) (pc' := 39) rfl (hb hby d3_32) rfl (XT.ll_ne_t c2) (by decide) (by decide) k) ?_
      show own_Fin p.tables e below _ (T6.setTop (mkF m 39 #[.val (.ref a1), .val (.ref a2), .val (.ref a2)] []))
      refine own_st (fun t k => XS.iconst X6.here hx rfl (hb hby d3_39) k) ?_
      show own_Fin p.tables e below _ (T6.setTop (mkF m 40 #[.val (.ref a1), .val (.ref a2), .val (.ref a2)] [(.int (0 : Int32))]))
      obtain ⟨fs, hr, hrun, hended, hW, hsame⟩ := X6.leave (v := (some (.int (0 : Int32)))) (fun h => by rw [Bd.returns] at h; cases h)
      refine ⟨_, _, retN X6 hx (t := .boolean) Bd.returns (by simp) (hb hby d3_40) hr, hrun, hended, _, _, rfl, ?_, ⟨_, rfl⟩, hW, hsame.mono (by decide) (by decide)⟩
      show QE1 Z a1 pp tt a2 p2 t2 h0 n0 _ T6.heap _
      rw [e6]
      exact ⟨by rw [if_neg (fun z => c2 z.2)], N0, rfl⟩
  · have _ := c1
    refine own_st (fun t k => XS.icmpYes X4.here hx rfl (pc0 := 20) (pc' := 39) rfl (hb hby d3_20) rfl (XT.ii_ne_t c1) (by decide) (by decide) k) ?_
    show own_Fin p.tables e below _ (T4.setTop (mkF m 39 #[.val (.ref a1), .val (.ref a2), .val (.ref a2)] []))
    refine own_st (fun t k => XS.iconst X4.here hx rfl (hb hby d3_39) k) ?_
    show own_Fin p.tables e below _ (T4.setTop (mkF m 40 #[.val (.ref a1), .val (.ref a2), .val (.ref a2)] [(.int (0 : Int32))]))
    obtain ⟨fs, hr, hrun, hended, hW, hsame⟩ := X4.leave (v := (some (.int (0 : Int32)))) (fun h => by rw [Bd.returns] at h; cases h)
    refine ⟨_, _, retN X4 hx (t := .boolean) Bd.returns (by simp) (hb hby d3_40) hr, hrun, hended, _, _, rfl, ?_, ⟨_, rfl⟩, hW, hsame.mono (by decide) (by decide)⟩
    show QE1 Z a1 pp tt a2 p2 t2 h0 n0 _ T4.heap _
    rw [e4]
    exact ⟨by rw [if_neg (fun z => c1 z.1)], N0, rfl⟩
def QE2 (Z : State) (a1 : Addr) (h0 : Heap) (n0 : Nat) (v : Option Value) (h : Heap) (L : List Loc) : Prop := v = some (.int 0) ∧ Fr n0 L ∧ h = h0
set_option maxRecDepth 65536 in
set_option maxHeartbeats 40000000 in
theorem rmE2 (l : Launch) (Z : State) (a0 : Array Value) (hw : ∀ d ∈ tables_1, d.before a0 Z = true) (ws : List Jvm.Cond) (a1 : Addr) (h0 : Heap) (n0 : Nat) (Z0 : n0 ≤ h0.size)  :
    MetFree l (⟨"com/example/lugar/lugar/InhibitorArc", "equals", "(Ljava/lang/Object;)Z"⟩ : MethodName) (head1 (Jvm.Cond.code (⟨"com/example/lugar/lugar/InhibitorArc", "equals", "(Ljava/lang/Object;)Z"⟩ : MethodName) prog_14_method_4_code 3 (some .boolean) :: ws) ({ frames := 1, cells := 0, slots := 0, locals := 12 } : Room)) (fun a U => a = #[(.ref a1), .null] ∧ Z.Warmed39 U.vm ∧ U.heap = h0) (fun _ _ _ _ _ => True) (fun _ U o U' => ∃ v L, o = .returned v ∧ QE2 Z a1 h0 n0 v U'.heap L ∧ FrameEnd U o U' L ({ frames := 1, cells := 0, slots := 0, locals := 12 } : Room).cells ({ frames := 1, cells := 0, slots := 0, locals := 12 } : Room).slots) := by
  refine MetFree.of_bodySF (plainFor_of_name pn_com_example_lugar_lugar_InhibitorArc) hisR ?_
  intro p e s m args below meth c s₁ Bd hml0 hP hK
  obtain ⟨rfl, hZ, hh⟩ := hP
  have hx := Bd.exec
  have hby := Bd.bytes
  have hml : c.maxLocals = 3 := hml0
  have hown : s.vm.findClass "com/example/lugar/lugar/InhibitorArc" = some m.cls := findClass_of_methodNamed Bd.named
  have hnm := (name_of_methodNamed Bd.named Bd.method).1
  have X0 : Stand p l e ({ frames := 1, cells := 0, slots := 0, locals := 12 } : Room) s m #[(.ref a1), .null] below meth c s₁ [] 0 0 := Stand.of_body Bd
  have e0 : s₁.heap = h0 := by rw [← hh, Bd.state]; rfl
  have N0 := Fr.nil n0
  change own_Fin p.tables e below (fun s₂ o => ∃ v L, o = .returned v ∧ QE2 Z a1 h0 n0 v s₂.heap L ∧ FrameEnd s o s₂ L ({ frames := 1, cells := 0, slots := 0, locals := 12 } : Room).cells ({ frames := 1, cells := 0, slots := 0, locals := 12 } : Room).slots) (s₁.setTop (entryFrame m #[(.ref a1), .null] 3))
  refine own_st (fun t k => castTop (show entryFrame m #[(.ref a1), .null] 3 = mkF m 0 #[.val (.ref a1), .val .null, .unset] [] by first | (simp [entryFrame, mkF, argsToLocals, Value.category, maxLocals]; done) | rfl) k) ?_
  show own_Fin p.tables e below _ (s₁.setTop (mkF m 0 #[.val (.ref a1), .val .null, .unset] []))
  refine own_st (fun t k => XS.aloadN X0.here hx rfl (hb hby d3_0) rfl rfl k) ?_
  show own_Fin p.tables e below _ (s₁.setTop (mkF m 1 #[.val (.ref a1), .val .null, .unset] [.null]))
  refine own_st (fun t k => X0.instanceofNull hx (g := (mkF m 1 #[.val (.ref a1), .val .null, .unset] [.null])) rfl rfl (hb hby d3_1) t k) ?_
  show own_Fin p.tables e below _ (s₁.setTop (mkF m 4 #[.val (.ref a1), .val .null, .unset] [(.int (0 : Int32))]))
  refine own_st (fun t k => XS.ifYes X0.here hx rfl (pc0 := 4) (pc' := 39) rfl (hb hby d3_4) rfl (XT.i0_eq_t (by decide)) (by decide) (by decide) k) ?_
  show own_Fin p.tables e below _ (s₁.setTop (mkF m 39 #[.val (.ref a1), .val .null, .unset] []))
  refine own_st (fun t k => XS.iconst X0.here hx rfl (hb hby d3_39) k) ?_
  show own_Fin p.tables e below _ (s₁.setTop (mkF m 40 #[.val (.ref a1), .val .null, .unset] [(.int (0 : Int32))]))
  obtain ⟨fs, hr, hrun, hended, hW, hsame⟩ := X0.leave (v := (some (.int (0 : Int32)))) (fun h => by rw [Bd.returns] at h; cases h)
  refine ⟨_, _, retN X0 hx (t := .boolean) Bd.returns (by simp) (hb hby d3_40) hr, hrun, hended, _, _, rfl, ?_, ⟨_, rfl⟩, hW, hsame.mono (by decide) (by decide)⟩
  show QE2 Z a1 h0 n0 _ s₁.heap _
  rw [e0]
  exact ⟨rfl, N0, rfl⟩
def QE3 (Z : State) (a1 : Addr) (a2 : Addr) (h0 : Heap) (n0 : Nat) (v : Option Value) (h : Heap) (L : List Loc) : Prop := v = some (.int 0) ∧ Fr n0 L ∧ h = h0
set_option maxRecDepth 65536 in
set_option maxHeartbeats 40000000 in
theorem rmE3 (l : Launch) (Z : State) (a0 : Array Value) (hw : ∀ d ∈ tables_1, d.before a0 Z = true) (ws : List Jvm.Cond) (a1 : Addr) (a2 : Addr) (h0 : Heap) (n0 : Nat) (Z0 : n0 ≤ h0.size) (E_2 : Exa Z h0 a2 "java/lang/Integer") :
    MetFree l (⟨"com/example/lugar/lugar/InhibitorArc", "equals", "(Ljava/lang/Object;)Z"⟩ : MethodName) (head1 (Jvm.Cond.code (⟨"com/example/lugar/lugar/InhibitorArc", "equals", "(Ljava/lang/Object;)Z"⟩ : MethodName) prog_14_method_4_code 3 (some .boolean) :: ws) ({ frames := 1, cells := 0, slots := 0, locals := 12 } : Room)) (fun a U => a = #[(.ref a1), (.ref a2)] ∧ Z.Warmed39 U.vm ∧ U.heap = h0) (fun _ _ _ _ _ => True) (fun _ U o U' => ∃ v L, o = .returned v ∧ QE3 Z a1 a2 h0 n0 v U'.heap L ∧ FrameEnd U o U' L ({ frames := 1, cells := 0, slots := 0, locals := 12 } : Room).cells ({ frames := 1, cells := 0, slots := 0, locals := 12 } : Room).slots) := by
  refine MetFree.of_bodySF (plainFor_of_name pn_com_example_lugar_lugar_InhibitorArc) hisR ?_
  intro p e s m args below meth c s₁ Bd hml0 hP hK
  obtain ⟨rfl, hZ, hh⟩ := hP
  have hx := Bd.exec
  have hby := Bd.bytes
  have hml : c.maxLocals = 3 := hml0
  have hown : s.vm.findClass "com/example/lugar/lugar/InhibitorArc" = some m.cls := findClass_of_methodNamed Bd.named
  have hnm := (name_of_methodNamed Bd.named Bd.method).1
  have X0 : Stand p l e ({ frames := 1, cells := 0, slots := 0, locals := 12 } : Room) s m #[(.ref a1), (.ref a2)] below meth c s₁ [] 0 0 := Stand.of_body Bd
  have e0 : s₁.heap = h0 := by rw [← hh, Bd.state]; rfl
  have N0 := Fr.nil n0
  change own_Fin p.tables e below (fun s₂ o => ∃ v L, o = .returned v ∧ QE3 Z a1 a2 h0 n0 v s₂.heap L ∧ FrameEnd s o s₂ L ({ frames := 1, cells := 0, slots := 0, locals := 12 } : Room).cells ({ frames := 1, cells := 0, slots := 0, locals := 12 } : Room).slots) (s₁.setTop (entryFrame m #[(.ref a1), (.ref a2)] 3))
  refine own_st (fun t k => castTop (show entryFrame m #[(.ref a1), (.ref a2)] 3 = mkF m 0 #[.val (.ref a1), .val (.ref a2), .unset] [] by first | (simp [entryFrame, mkF, argsToLocals, Value.category, maxLocals]; done) | rfl) k) ?_
  show own_Fin p.tables e below _ (s₁.setTop (mkF m 0 #[.val (.ref a1), .val (.ref a2), .unset] []))
  refine own_st (fun t k => XS.aloadN X0.here hx rfl (hb hby d3_0) rfl rfl k) ?_
  show own_Fin p.tables e below _ (s₁.setTop (mkF m 1 #[.val (.ref a1), .val (.ref a2), .unset] [(.ref a2)]))
  obtain ⟨T1, X1, e1, st1⟩ := instNo X0 hx hZ hown (hw _ (List.mem_of_getElem? (i := 20) rfl)) e0 E_2 (own_no (hw _ (List.mem_of_getElem? (i := 29) rfl)) (hw _ (List.mem_of_getElem? (i := 3) rfl)) (NS.step (hw _ (List.mem_of_getElem? (i := 29) rfl)) (NS.step (hw _ (List.mem_of_getElem? (i := 30) rfl)) (own_root (hw _ (List.mem_of_getElem? (i := 31) rfl)) (hw _ (List.mem_of_getElem? (i := 3) rfl)) (by decide)) (by decide)) (by decide)) (by decide)) (g := (mkF m 1 #[.val (.ref a1), .val (.ref a2), .unset] [(.ref a2)])) rfl rfl (hb hby d3_1)
  refine own_st st1 ?_
  show own_Fin p.tables e below _ (T1.setTop (mkF m 4 #[.val (.ref a1), .val (.ref a2), .unset] [(.int (0 : Int32))]))
  refine own_st (fun t k => XS.ifYes X1.here hx rfl (pc0 := 4) (pc' := 39) rfl (hb hby d3_4) rfl (XT.i0_eq_t (by decide)) (by decide) (by decide) k) ?_
  show own_Fin p.tables e below _ (T1.setTop (mkF m 39 #[.val (.ref a1), .val (.ref a2), .unset] []))
  refine own_st (fun t k => XS.iconst X1.here hx rfl (hb hby d3_39) k) ?_
  show own_Fin p.tables e below _ (T1.setTop (mkF m 40 #[.val (.ref a1), .val (.ref a2), .unset] [(.int (0 : Int32))]))
  obtain ⟨fs, hr, hrun, hended, hW, hsame⟩ := X1.leave (v := (some (.int (0 : Int32)))) (fun h => by rw [Bd.returns] at h; cases h)
  refine ⟨_, _, retN X1 hx (t := .boolean) Bd.returns (by simp) (hb hby d3_40) hr, hrun, hended, _, _, rfl, ?_, ⟨_, rfl⟩, hW, hsame.mono (by decide) (by decide)⟩
  show QE3 Z a1 a2 h0 n0 _ T1.heap _
  rw [e1]
  exact ⟨rfl, N0, rfl⟩
def Q0 (Z : State) (i0 : Int32) (i1 : Int64) (i2 : Int32) (i3 : Int64) (i4 : Int32) (h0 : Heap) (n0 : Nat) (v : Option Value) (h : Heap) (L : List Loc) : Prop := v = some (.int 1) ∧ Fr n0 L
set_option maxRecDepth 65536 in
set_option maxHeartbeats 40000000 in
theorem rm0 (l : Launch) (Z : State) (a0 : Array Value) (hw : ∀ d ∈ tables_1, d.before a0 Z = true) (ws : List Jvm.Cond) (i0 : Int32) (i1 : Int64) (i2 : Int32) (i3 : Int64) (i4 : Int32) (h0 : Heap) (n0 : Nat) (Z0 : n0 ≤ h0.size) (O0 : Old Z n0 h0) (Ca : own_Cache Z Z.heap) :
    MetFree l x (head1 (Jvm.Cond.code x code maxLocals ret :: ws) room_1) (fun a U => a = #[(.int i0), (.long i1), (.int i2), (.long i3), (.int i4)] ∧ Z.Warmed39 U.vm ∧ U.heap = h0) (fun _ _ _ _ _ => True) (fun _ U o U' => ∃ v L, o = .returned v ∧ Q0 Z i0 i1 i2 i3 i4 h0 n0 v U'.heap L ∧ FrameEnd U o U' L room_1.cells room_1.slots) := by
  refine MetFree.of_bodySF (plainFor_of_name pn_com_example_lugar_lugar_InhibitorArcEqualsPinLaw) hisR ?_
  intro p e s m args below meth c s₁ Bd hml0 hP hK
  obtain ⟨rfl, hZ, hh⟩ := hP
  have hx := Bd.exec
  have hby := Bd.bytes
  have hml : c.maxLocals = 17 := hml0
  have hown : s.vm.findClass "com/example/lugar/lugar/InhibitorArcEqualsPinLaw" = some m.cls := findClass_of_methodNamed Bd.named
  have hnm := (name_of_methodNamed Bd.named Bd.method).1
  have X0 : Stand p l e room_1 s m #[(.int i0), (.long i1), (.int i2), (.long i3), (.int i4)] below meth c s₁ [] 0 0 := Stand.of_body Bd
  have e0 : s₁.heap = h0 := by rw [← hh, Bd.state]; rfl
  have N0 := Fr.nil n0
  change own_Fin p.tables e below (fun s₂ o => ∃ v L, o = .returned v ∧ Q0 Z i0 i1 i2 i3 i4 h0 n0 v s₂.heap L ∧ FrameEnd s o s₂ L room_1.cells room_1.slots) (s₁.setTop (entryFrame m #[(.int i0), (.long i1), (.int i2), (.long i3), (.int i4)] maxLocals))
  refine own_st (fun t k => castTop (show entryFrame m #[(.int i0), (.long i1), (.int i2), (.long i3), (.int i4)] maxLocals = mkF m 0 #[.val (.int i0), .val (.long i1), .second, .val (.int i2), .val (.long i3), .second, .val (.int i4), .unset, .unset, .unset, .unset, .unset, .unset, .unset, .unset, .unset, .unset] [] by first | (simp [entryFrame, mkF, argsToLocals, Value.category, maxLocals]; done) | rfl) k) ?_
  show own_Fin p.tables e below _ (s₁.setTop (mkF m 0 #[.val (.int i0), .val (.long i1), .second, .val (.int i2), .val (.long i3), .second, .val (.int i4), .unset, .unset, .unset, .unset, .unset, .unset, .unset, .unset, .unset, .unset] []))
  have hp1 := own_m32 i0
  have ht1 := own_m64 i1
  refine own_st (fun t k => XS.iloadN X0.here hx rfl (hb hby at_0) rfl k) ?_
  show own_Fin p.tables e below _ (s₁.setTop (mkF m 1 #[.val (.int i0), .val (.long i1), .second, .val (.int i2), .val (.long i3), .second, .val (.int i4), .unset, .unset, .unset, .unset, .unset, .unset, .unset, .unset, .unset, .unset] [(.int i0)]))
  refine own_st (fun t k => X0.ldcI hx hown (mvT hZ (hw _ (List.mem_of_getElem? (i := 0) rfl))) rfl (hb hby at_1) k) ?_
  show own_Fin p.tables e below _ (s₁.setTop (mkF m 3 #[.val (.int i0), .val (.long i1), .second, .val (.int i2), .val (.long i3), .second, .val (.int i4), .unset, .unset, .unset, .unset, .unset, .unset, .unset, .unset, .unset, .unset] [(.int (2147483647 : Int32)), (.int i0)]))
  refine own_st (fun t k => XS.iand X0.here hx rfl (hb hby at_3) rfl k) ?_
  show own_Fin p.tables e below _ (s₁.setTop (mkF m 4 #[.val (.int i0), .val (.long i1), .second, .val (.int i2), .val (.long i3), .second, .val (.int i4), .unset, .unset, .unset, .unset, .unset, .unset, .unset, .unset, .unset, .unset] [(.int (i0 &&& (2147483647 : Int32)))]))
  refine own_st (fun t k => XS.istore X0.here hx rfl (hb hby at_4) rfl (l' := #[.val (.int i0), .val (.long i1), .second, .val (.int i2), .val (.long i3), .second, .val (.int i4), .val (.int (i0 &&& (2147483647 : Int32))), .unset, .unset, .unset, .unset, .unset, .unset, .unset, .unset, .unset]) rfl k) ?_
  show own_Fin p.tables e below _ (s₁.setTop (mkF m 6 #[.val (.int i0), .val (.long i1), .second, .val (.int i2), .val (.long i3), .second, .val (.int i4), .val (.int (i0 &&& (2147483647 : Int32))), .unset, .unset, .unset, .unset, .unset, .unset, .unset, .unset, .unset] []))
  refine own_st (fun t k => XS.lloadN X0.here hx rfl (hb hby at_6) rfl k) ?_
  show own_Fin p.tables e below _ (s₁.setTop (mkF m 7 #[.val (.int i0), .val (.long i1), .second, .val (.int i2), .val (.long i3), .second, .val (.int i4), .val (.int (i0 &&& (2147483647 : Int32))), .unset, .unset, .unset, .unset, .unset, .unset, .unset, .unset, .unset] [(.long i1)]))
  refine own_st (fun t k => X0.ldc2J hx hown (mvT hZ (hw _ (List.mem_of_getElem? (i := 1) rfl))) rfl (hb hby at_7) k) ?_
  show own_Fin p.tables e below _ (s₁.setTop (mkF m 10 #[.val (.int i0), .val (.long i1), .second, .val (.int i2), .val (.long i3), .second, .val (.int i4), .val (.int (i0 &&& (2147483647 : Int32))), .unset, .unset, .unset, .unset, .unset, .unset, .unset, .unset, .unset] [(.long (9223372036854775807 : Int64)), (.long i1)]))
  refine own_st (fun t k => XS.land X0.here hx rfl (hb hby at_10) rfl k) ?_
  show own_Fin p.tables e below _ (s₁.setTop (mkF m 11 #[.val (.int i0), .val (.long i1), .second, .val (.int i2), .val (.long i3), .second, .val (.int i4), .val (.int (i0 &&& (2147483647 : Int32))), .unset, .unset, .unset, .unset, .unset, .unset, .unset, .unset, .unset] [(.long (i1 &&& (9223372036854775807 : Int64)))]))
  refine own_st (fun t k => XS.lstore X0.here hx rfl (hb hby at_11) rfl (l' := #[.val (.int i0), .val (.long i1), .second, .val (.int i2), .val (.long i3), .second, .val (.int i4), .val (.int (i0 &&& (2147483647 : Int32))), .val (.long (i1 &&& (9223372036854775807 : Int64))), .second, .unset, .unset, .unset, .unset, .unset, .unset, .unset]) rfl k) ?_
  show own_Fin p.tables e below _ (s₁.setTop (mkF m 13 #[.val (.int i0), .val (.long i1), .second, .val (.int i2), .val (.long i3), .second, .val (.int i4), .val (.int (i0 &&& (2147483647 : Int32))), .val (.long (i1 &&& (9223372036854775807 : Int64))), .second, .unset, .unset, .unset, .unset, .unset, .unset, .unset] []))
  refine own_st (fun t k => XS.iload X0.here hx rfl (hb hby at_13) rfl k) ?_
  show own_Fin p.tables e below _ (s₁.setTop (mkF m 15 #[.val (.int i0), .val (.long i1), .second, .val (.int i2), .val (.long i3), .second, .val (.int i4), .val (.int (i0 &&& (2147483647 : Int32))), .val (.long (i1 &&& (9223372036854775807 : Int64))), .second, .unset, .unset, .unset, .unset, .unset, .unset, .unset] [(.int i4)]))
  refine own_st (fun t k => XS.iconst X0.here hx rfl (hb hby at_15) k) ?_
  show own_Fin p.tables e below _ (s₁.setTop (mkF m 16 #[.val (.int i0), .val (.long i1), .second, .val (.int i2), .val (.long i3), .second, .val (.int i4), .val (.int (i0 &&& (2147483647 : Int32))), .val (.long (i1 &&& (9223372036854775807 : Int64))), .second, .unset, .unset, .unset, .unset, .unset, .unset, .unset] [(.int (1 : Int32)), (.int i4)]))
  refine own_st (fun t k => XS.iand X0.here hx rfl (hb hby at_16) rfl k) ?_
  show own_Fin p.tables e below _ (s₁.setTop (mkF m 17 #[.val (.int i0), .val (.long i1), .second, .val (.int i2), .val (.long i3), .second, .val (.int i4), .val (.int (i0 &&& (2147483647 : Int32))), .val (.long (i1 &&& (9223372036854775807 : Int64))), .second, .unset, .unset, .unset, .unset, .unset, .unset, .unset] [(.int (i4 &&& (1 : Int32)))]))
  have tail : ∀ (PP2 : Int32) (TT2 : Int64) (hp2 : ¬ PP2 < 0) (ht2 : ¬ TT2 < 0), own_Fin p.tables e below (fun s₂ o => ∃ v L, o = .returned v ∧ Q0 Z i0 i1 i2 i3 i4 h0 n0 v s₂.heap L ∧ FrameEnd s o s₂ L room_1.cells room_1.slots) (s₁.setTop (mkF m 51 #[.val (.int i0), .val (.long i1), .second, .val (.int i2), .val (.long i3), .second, .val (.int i4), .val (.int (i0 &&& (2147483647 : Int32))), .val (.long (i1 &&& (9223372036854775807 : Int64))), .second, .val (.int PP2), .val (.long TT2), .second, .unset, .unset, .unset, .unset] [])) := by
    intro PP2 TT2 hp2 ht2
    show own_Fin p.tables e below _ (s₁.setTop (mkF m 51 #[.val (.int i0), .val (.long i1), .second, .val (.int i2), .val (.long i3), .second, .val (.int i4), .val (.int (i0 &&& (2147483647 : Int32))), .val (.long (i1 &&& (9223372036854775807 : Int64))), .second, .val (.int PP2), .val (.long TT2), .second, .unset, .unset, .unset, .unset] []))
    obtain ⟨T1, h1, X1, e1, E1, A1, D1, U1, st1⟩ := newO X0 hx hZ hown (hw _ (List.mem_of_getElem? (i := 2) rfl)) (hw _ (List.mem_of_getElem? (i := 3) rfl)) (hw _ (List.mem_of_getElem? (i := 4) rfl)) e0 (g := (mkF m 51 #[.val (.int i0), .val (.long i1), .second, .val (.int i2), .val (.long i3), .second, .val (.int i4), .val (.int (i0 &&& (2147483647 : Int32))), .val (.long (i1 &&& (9223372036854775807 : Int64))), .second, .val (.int PP2), .val (.long TT2), .second, .unset, .unset, .unset, .unset] [])) rfl (hb hby at_51) (by decide) (by decide)
    obtain ⟨b1, g1⟩ : ∃ z, z = h0.size := ⟨_, rfl⟩
    have g_b1 : n0 ≤ b1 := Nat.le_trans Z0 (Nat.le_of_eq g1.symm)
    rw [← g1] at A1 D1 U1 st1
    refine own_st st1 ?_
    have O0'1 := O0.ext E1
    have Z1 : n0 ≤ h1.size := Nat.le_trans Z0 E1.1
    have F_place_b1 : Fld Z h1 b1 "com/example/lugar/lugar/InhibitorArc" "place" "I" (.int (0 : Int32)) := D1 (Or.inr (hw _ (List.mem_of_getElem? (i := 12) rfl))) (ty := .int) (by decide)
    have F_threshold_b1 : Fld Z h1 b1 "com/example/lugar/lugar/InhibitorArc" "threshold" "J" (.long (0 : Int64)) := D1 (Or.inr (hw _ (List.mem_of_getElem? (i := 14) rfl))) (ty := .long) (by decide)
    show own_Fin p.tables e below _ (T1.setTop (mkF m 54 #[.val (.int i0), .val (.long i1), .second, .val (.int i2), .val (.long i3), .second, .val (.int i4), .val (.int (i0 &&& (2147483647 : Int32))), .val (.long (i1 &&& (9223372036854775807 : Int64))), .second, .val (.int PP2), .val (.long TT2), .second, .unset, .unset, .unset, .unset] [(.ref b1)]))
    refine own_st (fun t k => XS.dup X1.here hx rfl (hb hby at_54) rfl rfl k) ?_
    show own_Fin p.tables e below _ (T1.setTop (mkF m 55 #[.val (.int i0), .val (.long i1), .second, .val (.int i2), .val (.long i3), .second, .val (.int i4), .val (.int (i0 &&& (2147483647 : Int32))), .val (.long (i1 &&& (9223372036854775807 : Int64))), .second, .val (.int PP2), .val (.long TT2), .second, .unset, .unset, .unset, .unset] [(.ref b1), (.ref b1)]))
    refine own_st (fun t k => XS.iload X1.here hx rfl (hb hby at_55) rfl k) ?_
    show own_Fin p.tables e below _ (T1.setTop (mkF m 57 #[.val (.int i0), .val (.long i1), .second, .val (.int i2), .val (.long i3), .second, .val (.int i4), .val (.int (i0 &&& (2147483647 : Int32))), .val (.long (i1 &&& (9223372036854775807 : Int64))), .second, .val (.int PP2), .val (.long TT2), .second, .unset, .unset, .unset, .unset] [(.int (i0 &&& (2147483647 : Int32))), (.ref b1), (.ref b1)]))
    refine own_st (fun t k => XS.lload X1.here hx rfl (hb hby at_57) rfl k) ?_
    show own_Fin p.tables e below _ (T1.setTop (mkF m 59 #[.val (.int i0), .val (.long i1), .second, .val (.int i2), .val (.long i3), .second, .val (.int i4), .val (.int (i0 &&& (2147483647 : Int32))), .val (.long (i1 &&& (9223372036854775807 : Int64))), .second, .val (.int PP2), .val (.long TT2), .second, .unset, .unset, .unset, .unset] [(.long (i1 &&& (9223372036854775807 : Int64))), (.int (i0 &&& (2147483647 : Int32))), (.ref b1), (.ref b1)]))
    obtain ⟨_, _, ⟨T2, L2, k2, n2⟩, -, X2, ⟨Lc2, hQ2, l2, y2, z2⟩, st2⟩ := X1.specialBack hx (y := (⟨"com/example/lugar/lugar/InhibitorArc", "<init>", "(IJ)V"⟩ : MethodName)) rfl hown (mvT hZ (hw _ (List.mem_of_getElem? (i := 5) rfl))) (mvT hZ (hw _ (List.mem_of_getElem? (i := 6) rfl))) (mvT hZ (hw _ (List.mem_of_getElem? (i := 7) rfl))) (by decide) (backOf (W := 1) (rm1 l Z a0 hw [] b1 (i0 &&& (2147483647 : Int32)) (i1 &&& (9223372036854775807 : Int64)) h1 n0 Z1 F_place_b1 F_threshold_b1 A1 g_b1 hp1 ht1) hZ (hw _ (List.mem_of_getElem? (i := 7) rfl)) (hw _ (List.mem_of_getElem? (i := 4) rfl)) (by decide) (by decide)) (g := (mkF m 59 #[.val (.int i0), .val (.long i1), .second, .val (.int i2), .val (.long i3), .second, .val (.int i4), .val (.int (i0 &&& (2147483647 : Int32))), .val (.long (i1 &&& (9223372036854775807 : Int64))), .second, .val (.int PP2), .val (.long TT2), .second, .unset, .unset, .unset, .unset] [(.long (i1 &&& (9223372036854775807 : Int64))), (.int (i0 &&& (2147483647 : Int32))), (.ref b1), (.ref b1)])) rfl (by rw [hml]; rfl) (Steps.refl _) (a := b1) (argsL := [(.int (i0 &&& (2147483647 : Int32))), (.long (i1 &&& (9223372036854775807 : Int64)))]) (rest := [(.ref b1)]) (lenOf pd__IJ_V rfl) rfl (by show 2 * 0 + _ ≤ _; exact Nat.le_of_eq rfl) (hb hby at_59) (fun _ _ => ⟨rfl, e1, (by decide : 1 + 0 ≤ _), (by decide : 2 + 0 ≤ _)⟩)
    dsimp only [Pt.U, Pt.locs, Pt.cells, Pt.slots] at X2 l2 y2 z2 st2 hQ2
    subst l2 y2 z2
    obtain ⟨rfl, N2, K2, Fp2, Ft2⟩ := hQ2
    refine own_st (fun t k => st2.trans k) ?_
    have O0'2 := O0'1.keep K2 (allS g_b1 all0)
    have A1'2 := A1.keep K2
    have Z2 : n0 ≤ T2.heap.size := Nat.le_trans Z1 K2.1
    have N2a := Fr.app N0 N2
    show own_Fin p.tables e below _ (T2.setTop (mkF m 62 #[.val (.int i0), .val (.long i1), .second, .val (.int i2), .val (.long i3), .second, .val (.int i4), .val (.int (i0 &&& (2147483647 : Int32))), .val (.long (i1 &&& (9223372036854775807 : Int64))), .second, .val (.int PP2), .val (.long TT2), .second, .unset, .unset, .unset, .unset] [(.ref b1)]))
    refine own_st (fun t k => XS.astore X2.here hx rfl (hb hby at_62) rfl rfl (l' := #[.val (.int i0), .val (.long i1), .second, .val (.int i2), .val (.long i3), .second, .val (.int i4), .val (.int (i0 &&& (2147483647 : Int32))), .val (.long (i1 &&& (9223372036854775807 : Int64))), .second, .val (.int PP2), .val (.long TT2), .second, .val (.ref b1), .unset, .unset, .unset]) rfl k) ?_
    show own_Fin p.tables e below _ (T2.setTop (mkF m 64 #[.val (.int i0), .val (.long i1), .second, .val (.int i2), .val (.long i3), .second, .val (.int i4), .val (.int (i0 &&& (2147483647 : Int32))), .val (.long (i1 &&& (9223372036854775807 : Int64))), .second, .val (.int PP2), .val (.long TT2), .second, .val (.ref b1), .unset, .unset, .unset] []))
    obtain ⟨T3, h3, X3, e3, E3, A3, D3, U3, st3⟩ := newO X2 hx hZ hown (hw _ (List.mem_of_getElem? (i := 2) rfl)) (hw _ (List.mem_of_getElem? (i := 3) rfl)) (hw _ (List.mem_of_getElem? (i := 4) rfl)) rfl (g := (mkF m 64 #[.val (.int i0), .val (.long i1), .second, .val (.int i2), .val (.long i3), .second, .val (.int i4), .val (.int (i0 &&& (2147483647 : Int32))), .val (.long (i1 &&& (9223372036854775807 : Int64))), .second, .val (.int PP2), .val (.long TT2), .second, .val (.ref b1), .unset, .unset, .unset] [])) rfl (hb hby at_64) (by decide) (by decide)
    obtain ⟨b3, g3⟩ : ∃ z, z = T2.heap.size := ⟨_, rfl⟩
    have ne_b1_b3 : b1 ≠ b3 := Nat.ne_of_lt (Nat.lt_of_lt_of_le A1'2.lt (Nat.le_of_eq g3.symm))
    have g_b3 : n0 ≤ b3 := Nat.le_trans Z2 (Nat.le_of_eq g3.symm)
    rw [← g3] at A3 D3 U3 st3
    refine own_st st3 ?_
    have O0'3 := O0'2.ext E3
    have A1'3 := A1'2.ext E3
    have Fp2'3 := Fp2.ext E3
    have Ft2'3 := Ft2.ext E3
    have Z3 : n0 ≤ h3.size := Nat.le_trans Z2 E3.1
    have F_place_b3 : Fld Z h3 b3 "com/example/lugar/lugar/InhibitorArc" "place" "I" (.int (0 : Int32)) := D3 (Or.inr (hw _ (List.mem_of_getElem? (i := 12) rfl))) (ty := .int) (by decide)
    have F_threshold_b3 : Fld Z h3 b3 "com/example/lugar/lugar/InhibitorArc" "threshold" "J" (.long (0 : Int64)) := D3 (Or.inr (hw _ (List.mem_of_getElem? (i := 14) rfl))) (ty := .long) (by decide)
    show own_Fin p.tables e below _ (T3.setTop (mkF m 67 #[.val (.int i0), .val (.long i1), .second, .val (.int i2), .val (.long i3), .second, .val (.int i4), .val (.int (i0 &&& (2147483647 : Int32))), .val (.long (i1 &&& (9223372036854775807 : Int64))), .second, .val (.int PP2), .val (.long TT2), .second, .val (.ref b1), .unset, .unset, .unset] [(.ref b3)]))
    refine own_st (fun t k => XS.dup X3.here hx rfl (hb hby at_67) rfl rfl k) ?_
    show own_Fin p.tables e below _ (T3.setTop (mkF m 68 #[.val (.int i0), .val (.long i1), .second, .val (.int i2), .val (.long i3), .second, .val (.int i4), .val (.int (i0 &&& (2147483647 : Int32))), .val (.long (i1 &&& (9223372036854775807 : Int64))), .second, .val (.int PP2), .val (.long TT2), .second, .val (.ref b1), .unset, .unset, .unset] [(.ref b3), (.ref b3)]))
    refine own_st (fun t k => XS.iload X3.here hx rfl (hb hby at_68) rfl k) ?_
    show own_Fin p.tables e below _ (T3.setTop (mkF m 70 #[.val (.int i0), .val (.long i1), .second, .val (.int i2), .val (.long i3), .second, .val (.int i4), .val (.int (i0 &&& (2147483647 : Int32))), .val (.long (i1 &&& (9223372036854775807 : Int64))), .second, .val (.int PP2), .val (.long TT2), .second, .val (.ref b1), .unset, .unset, .unset] [(.int PP2), (.ref b3), (.ref b3)]))
    refine own_st (fun t k => XS.lload X3.here hx rfl (hb hby at_70) rfl k) ?_
    show own_Fin p.tables e below _ (T3.setTop (mkF m 72 #[.val (.int i0), .val (.long i1), .second, .val (.int i2), .val (.long i3), .second, .val (.int i4), .val (.int (i0 &&& (2147483647 : Int32))), .val (.long (i1 &&& (9223372036854775807 : Int64))), .second, .val (.int PP2), .val (.long TT2), .second, .val (.ref b1), .unset, .unset, .unset] [(.long TT2), (.int PP2), (.ref b3), (.ref b3)]))
    obtain ⟨_, _, ⟨T4, L4, k4, n4⟩, -, X4, ⟨Lc4, hQ4, l4, y4, z4⟩, st4⟩ := X3.specialBack hx (y := (⟨"com/example/lugar/lugar/InhibitorArc", "<init>", "(IJ)V"⟩ : MethodName)) rfl hown (mvT hZ (hw _ (List.mem_of_getElem? (i := 5) rfl))) (mvT hZ (hw _ (List.mem_of_getElem? (i := 6) rfl))) (mvT hZ (hw _ (List.mem_of_getElem? (i := 7) rfl))) (by decide) (backOf (W := 1) (rm1 l Z a0 hw [] b3 PP2 TT2 h3 n0 Z3 F_place_b3 F_threshold_b3 A3 g_b3 hp2 ht2) hZ (hw _ (List.mem_of_getElem? (i := 7) rfl)) (hw _ (List.mem_of_getElem? (i := 4) rfl)) (by decide) (by decide)) (g := (mkF m 72 #[.val (.int i0), .val (.long i1), .second, .val (.int i2), .val (.long i3), .second, .val (.int i4), .val (.int (i0 &&& (2147483647 : Int32))), .val (.long (i1 &&& (9223372036854775807 : Int64))), .second, .val (.int PP2), .val (.long TT2), .second, .val (.ref b1), .unset, .unset, .unset] [(.long TT2), (.int PP2), (.ref b3), (.ref b3)])) rfl (by rw [hml]; rfl) (Steps.refl _) (a := b3) (argsL := [(.int PP2), (.long TT2)]) (rest := [(.ref b3)]) (lenOf pd__IJ_V rfl) rfl (by show 2 * 0 + _ ≤ _; exact Nat.le_of_eq rfl) (hb hby at_72) (fun _ _ => ⟨rfl, e3, (by decide : 2 + 0 ≤ _), (by decide : 4 + 0 ≤ _)⟩)
    dsimp only [Pt.U, Pt.locs, Pt.cells, Pt.slots] at X4 l4 y4 z4 st4 hQ4
    subst l4 y4 z4
    obtain ⟨rfl, N4, K4, Fp4, Ft4⟩ := hQ4
    refine own_st (fun t k => st4.trans k) ?_
    have O0'4 := O0'3.keep K4 (allS g_b3 all0)
    have A1'4 := A1'3.keep K4
    have Fp2'4 := Fp2'3.keep K4 (ninS ne_b1_b3 nin0)
    have Ft2'4 := Ft2'3.keep K4 (ninS ne_b1_b3 nin0)
    have A3'4 := A3.keep K4
    have Z4 : n0 ≤ T4.heap.size := Nat.le_trans Z3 K4.1
    have N4a := Fr.app N2a N4
    show own_Fin p.tables e below _ (T4.setTop (mkF m 75 #[.val (.int i0), .val (.long i1), .second, .val (.int i2), .val (.long i3), .second, .val (.int i4), .val (.int (i0 &&& (2147483647 : Int32))), .val (.long (i1 &&& (9223372036854775807 : Int64))), .second, .val (.int PP2), .val (.long TT2), .second, .val (.ref b1), .unset, .unset, .unset] [(.ref b3)]))
    refine own_st (fun t k => XS.astore X4.here hx rfl (hb hby at_75) rfl rfl (l' := #[.val (.int i0), .val (.long i1), .second, .val (.int i2), .val (.long i3), .second, .val (.int i4), .val (.int (i0 &&& (2147483647 : Int32))), .val (.long (i1 &&& (9223372036854775807 : Int64))), .second, .val (.int PP2), .val (.long TT2), .second, .val (.ref b1), .val (.ref b3), .unset, .unset]) rfl k) ?_
    show own_Fin p.tables e below _ (T4.setTop (mkF m 77 #[.val (.int i0), .val (.long i1), .second, .val (.int i2), .val (.long i3), .second, .val (.int i4), .val (.int (i0 &&& (2147483647 : Int32))), .val (.long (i1 &&& (9223372036854775807 : Int64))), .second, .val (.int PP2), .val (.long TT2), .second, .val (.ref b1), .val (.ref b3), .unset, .unset] []))
    refine own_st (fun t k => XS.iload X4.here hx rfl (hb hby at_77) rfl k) ?_
    show own_Fin p.tables e below _ (T4.setTop (mkF m 79 #[.val (.int i0), .val (.long i1), .second, .val (.int i2), .val (.long i3), .second, .val (.int i4), .val (.int (i0 &&& (2147483647 : Int32))), .val (.long (i1 &&& (9223372036854775807 : Int64))), .second, .val (.int PP2), .val (.long TT2), .second, .val (.ref b1), .val (.ref b3), .unset, .unset] [(.int i4)]))
    refine own_st (fun t k => XS.iconst X4.here hx rfl (hb hby at_79) k) ?_
    show own_Fin p.tables e below _ (T4.setTop (mkF m 80 #[.val (.int i0), .val (.long i1), .second, .val (.int i2), .val (.long i3), .second, .val (.int i4), .val (.int (i0 &&& (2147483647 : Int32))), .val (.long (i1 &&& (9223372036854775807 : Int64))), .second, .val (.int PP2), .val (.long TT2), .second, .val (.ref b1), .val (.ref b3), .unset, .unset] [(.int (2 : Int32)), (.int i4)]))
    refine own_st (fun t k => XS.iushr X4.here hx rfl (hb hby at_80) rfl k) ?_
    show own_Fin p.tables e below _ (T4.setTop (mkF m 81 #[.val (.int i0), .val (.long i1), .second, .val (.int i2), .val (.long i3), .second, .val (.int i4), .val (.int (i0 &&& (2147483647 : Int32))), .val (.long (i1 &&& (9223372036854775807 : Int64))), .second, .val (.int PP2), .val (.long TT2), .second, .val (.ref b1), .val (.ref b3), .unset, .unset] [(.int ((i4.toUInt32 >>> ((2 : Int32) &&& 31).toUInt32).toInt32))]))
    refine own_st (fun t k => XS.iconst X4.here hx rfl (hb hby at_81) k) ?_
    show own_Fin p.tables e below _ (T4.setTop (mkF m 82 #[.val (.int i0), .val (.long i1), .second, .val (.int i2), .val (.long i3), .second, .val (.int i4), .val (.int (i0 &&& (2147483647 : Int32))), .val (.long (i1 &&& (9223372036854775807 : Int64))), .second, .val (.int PP2), .val (.long TT2), .second, .val (.ref b1), .val (.ref b3), .unset, .unset] [(.int (3 : Int32)), (.int ((i4.toUInt32 >>> ((2 : Int32) &&& 31).toUInt32).toInt32))]))
    refine own_st (fun t k => XS.iand X4.here hx rfl (hb hby at_82) rfl k) ?_
    show own_Fin p.tables e below _ (T4.setTop (mkF m 83 #[.val (.int i0), .val (.long i1), .second, .val (.int i2), .val (.long i3), .second, .val (.int i4), .val (.int (i0 &&& (2147483647 : Int32))), .val (.long (i1 &&& (9223372036854775807 : Int64))), .second, .val (.int PP2), .val (.long TT2), .second, .val (.ref b1), .val (.ref b3), .unset, .unset] [(.int (((i4.toUInt32 >>> ((2 : Int32) &&& 31).toUInt32).toInt32) &&& (3 : Int32)))]))
    refine own_st (fun t k => XS.istore X4.here hx rfl (hb hby at_83) rfl (l' := #[.val (.int i0), .val (.long i1), .second, .val (.int i2), .val (.long i3), .second, .val (.int i4), .val (.int (i0 &&& (2147483647 : Int32))), .val (.long (i1 &&& (9223372036854775807 : Int64))), .second, .val (.int PP2), .val (.long TT2), .second, .val (.ref b1), .val (.ref b3), .val (.int (((i4.toUInt32 >>> ((2 : Int32) &&& 31).toUInt32).toInt32) &&& (3 : Int32))), .unset]) rfl k) ?_
    show own_Fin p.tables e below _ (T4.setTop (mkF m 85 #[.val (.int i0), .val (.long i1), .second, .val (.int i2), .val (.long i3), .second, .val (.int i4), .val (.int (i0 &&& (2147483647 : Int32))), .val (.long (i1 &&& (9223372036854775807 : Int64))), .second, .val (.int PP2), .val (.long TT2), .second, .val (.ref b1), .val (.ref b3), .val (.int (((i4.toUInt32 >>> ((2 : Int32) &&& 31).toUInt32).toInt32) &&& (3 : Int32))), .unset] []))
    refine own_st (fun t k => XS.iload X4.here hx rfl (hb hby at_85) rfl k) ?_
    show own_Fin p.tables e below _ (T4.setTop (mkF m 87 #[.val (.int i0), .val (.long i1), .second, .val (.int i2), .val (.long i3), .second, .val (.int i4), .val (.int (i0 &&& (2147483647 : Int32))), .val (.long (i1 &&& (9223372036854775807 : Int64))), .second, .val (.int PP2), .val (.long TT2), .second, .val (.ref b1), .val (.ref b3), .val (.int (((i4.toUInt32 >>> ((2 : Int32) &&& 31).toUInt32).toInt32) &&& (3 : Int32))), .unset] [(.int (((i4.toUInt32 >>> ((2 : Int32) &&& 31).toUInt32).toInt32) &&& (3 : Int32)))]))
    rcases Decidable.em ((((i4.toUInt32 >>> ((2 : Int32) &&& 31).toUInt32).toInt32) &&& (3 : Int32)) = 0) with d0 | d0
    · have _ := d0
      refine own_st (fun t k => XS.ifNo X4.here hx rfl (hb hby at_87) rfl (XT.i0_ne_f d0) k) ?_
      show own_Fin p.tables e below _ (T4.setTop (mkF m 90 #[.val (.int i0), .val (.long i1), .second, .val (.int i2), .val (.long i3), .second, .val (.int i4), .val (.int (i0 &&& (2147483647 : Int32))), .val (.long (i1 &&& (9223372036854775807 : Int64))), .second, .val (.int PP2), .val (.long TT2), .second, .val (.ref b1), .val (.ref b3), .val (.int (((i4.toUInt32 >>> ((2 : Int32) &&& 31).toUInt32).toInt32) &&& (3 : Int32))), .unset] []))
      refine own_st (fun t k => XS.iload X4.here hx rfl (hb hby at_90) rfl k) ?_
      show own_Fin p.tables e below _ (T4.setTop (mkF m 92 #[.val (.int i0), .val (.long i1), .second, .val (.int i2), .val (.long i3), .second, .val (.int i4), .val (.int (i0 &&& (2147483647 : Int32))), .val (.long (i1 &&& (9223372036854775807 : Int64))), .second, .val (.int PP2), .val (.long TT2), .second, .val (.ref b1), .val (.ref b3), .val (.int (((i4.toUInt32 >>> ((2 : Int32) &&& 31).toUInt32).toInt32) &&& (3 : Int32))), .unset] [(.int (i0 &&& (2147483647 : Int32)))]))
      refine own_st (fun t k => XS.iload X4.here hx rfl (hb hby at_92) rfl k) ?_
      show own_Fin p.tables e below _ (T4.setTop (mkF m 94 #[.val (.int i0), .val (.long i1), .second, .val (.int i2), .val (.long i3), .second, .val (.int i4), .val (.int (i0 &&& (2147483647 : Int32))), .val (.long (i1 &&& (9223372036854775807 : Int64))), .second, .val (.int PP2), .val (.long TT2), .second, .val (.ref b1), .val (.ref b3), .val (.int (((i4.toUInt32 >>> ((2 : Int32) &&& 31).toUInt32).toInt32) &&& (3 : Int32))), .unset] [(.int PP2), (.int (i0 &&& (2147483647 : Int32)))]))
      rcases Decidable.em ((i0 &&& (2147483647 : Int32)) = PP2) with cp | cp
      · have _ := cp
        refine own_st (fun t k => XS.icmpNo X4.here hx rfl (hb hby at_94) rfl (XT.ii_ne_f cp) k) ?_
        show own_Fin p.tables e below _ (T4.setTop (mkF m 97 #[.val (.int i0), .val (.long i1), .second, .val (.int i2), .val (.long i3), .second, .val (.int i4), .val (.int (i0 &&& (2147483647 : Int32))), .val (.long (i1 &&& (9223372036854775807 : Int64))), .second, .val (.int PP2), .val (.long TT2), .second, .val (.ref b1), .val (.ref b3), .val (.int (((i4.toUInt32 >>> ((2 : Int32) &&& 31).toUInt32).toInt32) &&& (3 : Int32))), .unset] []))
        refine own_st (fun t k => XS.lload X4.here hx rfl (hb hby at_97) rfl k) ?_
        show own_Fin p.tables e below _ (T4.setTop (mkF m 99 #[.val (.int i0), .val (.long i1), .second, .val (.int i2), .val (.long i3), .second, .val (.int i4), .val (.int (i0 &&& (2147483647 : Int32))), .val (.long (i1 &&& (9223372036854775807 : Int64))), .second, .val (.int PP2), .val (.long TT2), .second, .val (.ref b1), .val (.ref b3), .val (.int (((i4.toUInt32 >>> ((2 : Int32) &&& 31).toUInt32).toInt32) &&& (3 : Int32))), .unset] [(.long (i1 &&& (9223372036854775807 : Int64)))]))
        refine own_st (fun t k => XS.lload X4.here hx rfl (hb hby at_99) rfl k) ?_
        show own_Fin p.tables e below _ (T4.setTop (mkF m 101 #[.val (.int i0), .val (.long i1), .second, .val (.int i2), .val (.long i3), .second, .val (.int i4), .val (.int (i0 &&& (2147483647 : Int32))), .val (.long (i1 &&& (9223372036854775807 : Int64))), .second, .val (.int PP2), .val (.long TT2), .second, .val (.ref b1), .val (.ref b3), .val (.int (((i4.toUInt32 >>> ((2 : Int32) &&& 31).toUInt32).toInt32) &&& (3 : Int32))), .unset] [(.long TT2), (.long (i1 &&& (9223372036854775807 : Int64)))]))
        refine own_st (fun t k => XT.lcmp X4.here hx rfl (hb hby at_101) rfl k) ?_
        show own_Fin p.tables e below _ (T4.setTop (mkF m 102 #[.val (.int i0), .val (.long i1), .second, .val (.int i2), .val (.long i3), .second, .val (.int i4), .val (.int (i0 &&& (2147483647 : Int32))), .val (.long (i1 &&& (9223372036854775807 : Int64))), .second, .val (.int PP2), .val (.long TT2), .second, .val (.ref b1), .val (.ref b3), .val (.int (((i4.toUInt32 >>> ((2 : Int32) &&& 31).toUInt32).toInt32) &&& (3 : Int32))), .unset] [(.int (XT.cmpL (i1 &&& (9223372036854775807 : Int64)) TT2))]))
        rcases Decidable.em ((i1 &&& (9223372036854775807 : Int64)) = TT2) with ct | ct
        · have _ := ct
          refine own_st (fun t k => XS.ifNo X4.here hx rfl (hb hby at_102) rfl (XT.ll_ne_f ct) k) ?_
          show own_Fin p.tables e below _ (T4.setTop (mkF m 105 #[.val (.int i0), .val (.long i1), .second, .val (.int i2), .val (.long i3), .second, .val (.int i4), .val (.int (i0 &&& (2147483647 : Int32))), .val (.long (i1 &&& (9223372036854775807 : Int64))), .second, .val (.int PP2), .val (.long TT2), .second, .val (.ref b1), .val (.ref b3), .val (.int (((i4.toUInt32 >>> ((2 : Int32) &&& 31).toUInt32).toInt32) &&& (3 : Int32))), .unset] []))
          refine own_st (fun t k => XS.iconst X4.here hx rfl (hb hby at_105) k) ?_
          show own_Fin p.tables e below _ (T4.setTop (mkF m 106 #[.val (.int i0), .val (.long i1), .second, .val (.int i2), .val (.long i3), .second, .val (.int i4), .val (.int (i0 &&& (2147483647 : Int32))), .val (.long (i1 &&& (9223372036854775807 : Int64))), .second, .val (.int PP2), .val (.long TT2), .second, .val (.ref b1), .val (.ref b3), .val (.int (((i4.toUInt32 >>> ((2 : Int32) &&& 31).toUInt32).toInt32) &&& (3 : Int32))), .unset] [(.int (1 : Int32))]))
          refine own_st (fun t k => XS.goto X4.here hx rfl (pc0 := 106) (pc' := 110) rfl (hb hby at_106) (by decide) (by decide) k) ?_
          show own_Fin p.tables e below _ (T4.setTop (mkF m 110 #[.val (.int i0), .val (.long i1), .second, .val (.int i2), .val (.long i3), .second, .val (.int i4), .val (.int (i0 &&& (2147483647 : Int32))), .val (.long (i1 &&& (9223372036854775807 : Int64))), .second, .val (.int PP2), .val (.long TT2), .second, .val (.ref b1), .val (.ref b3), .val (.int (((i4.toUInt32 >>> ((2 : Int32) &&& 31).toUInt32).toInt32) &&& (3 : Int32))), .unset] [(.int (1 : Int32))]))
          refine own_st (fun t k => XS.istore X4.here hx rfl (hb hby at_110) rfl (l' := #[.val (.int i0), .val (.long i1), .second, .val (.int i2), .val (.long i3), .second, .val (.int i4), .val (.int (i0 &&& (2147483647 : Int32))), .val (.long (i1 &&& (9223372036854775807 : Int64))), .second, .val (.int PP2), .val (.long TT2), .second, .val (.ref b1), .val (.ref b3), .val (.int (((i4.toUInt32 >>> ((2 : Int32) &&& 31).toUInt32).toInt32) &&& (3 : Int32))), .val (.int (1 : Int32))]) rfl k) ?_
          show own_Fin p.tables e below _ (T4.setTop (mkF m 112 #[.val (.int i0), .val (.long i1), .second, .val (.int i2), .val (.long i3), .second, .val (.int i4), .val (.int (i0 &&& (2147483647 : Int32))), .val (.long (i1 &&& (9223372036854775807 : Int64))), .second, .val (.int PP2), .val (.long TT2), .second, .val (.ref b1), .val (.ref b3), .val (.int (((i4.toUInt32 >>> ((2 : Int32) &&& 31).toUInt32).toInt32) &&& (3 : Int32))), .val (.int (1 : Int32))] []))
          refine own_st (fun t k => XS.aload X4.here hx rfl (hb hby at_112) rfl rfl k) ?_
          show own_Fin p.tables e below _ (T4.setTop (mkF m 114 #[.val (.int i0), .val (.long i1), .second, .val (.int i2), .val (.long i3), .second, .val (.int i4), .val (.int (i0 &&& (2147483647 : Int32))), .val (.long (i1 &&& (9223372036854775807 : Int64))), .second, .val (.int PP2), .val (.long TT2), .second, .val (.ref b1), .val (.ref b3), .val (.int (((i4.toUInt32 >>> ((2 : Int32) &&& 31).toUInt32).toInt32) &&& (3 : Int32))), .val (.int (1 : Int32))] [(.ref b1)]))
          refine own_st (fun t k => XS.aload X4.here hx rfl (hb hby at_114) rfl rfl k) ?_
          show own_Fin p.tables e below _ (T4.setTop (mkF m 116 #[.val (.int i0), .val (.long i1), .second, .val (.int i2), .val (.long i3), .second, .val (.int i4), .val (.int (i0 &&& (2147483647 : Int32))), .val (.long (i1 &&& (9223372036854775807 : Int64))), .second, .val (.int PP2), .val (.long TT2), .second, .val (.ref b1), .val (.ref b3), .val (.int (((i4.toUInt32 >>> ((2 : Int32) &&& 31).toUInt32).toInt32) &&& (3 : Int32))), .val (.int (1 : Int32))] [(.ref b3), (.ref b1)]))
          obtain ⟨cq5, kq5, qa5, qb5, qc5⟩ := isOf hZ rfl A1'4
          obtain ⟨_, _, ⟨T5, L5, k5, n5⟩, -, X5, ⟨Lc5, hQ5, l5, y5, z5⟩, st5⟩ := X4.virtualBack hx (y := (⟨"com/example/lugar/lugar/InhibitorArc", "equals", "(Ljava/lang/Object;)Z"⟩ : MethodName)) (z := (⟨"com/example/lugar/lugar/InhibitorArc", "equals", "(Ljava/lang/Object;)Z"⟩ : MethodName)) hown (mvT hZ (hw _ (List.mem_of_getElem? (i := 15) rfl))) (mvT hZ (hw _ (List.mem_of_getElem? (i := 16) rfl))) (notFace_of_selects (args := #[]) (mvT hZ (hw _ (List.mem_of_getElem? (i := 18) rfl)))) (mvT hZ (hw _ (List.mem_of_getElem? (i := 18) rfl))) (mvT hZ (hw _ (List.mem_of_getElem? (i := 17) rfl))) (by decide) (backOf (W := 0) (rmE1 l Z a0 hw [] b1 (i0 &&& (2147483647 : Int32)) (i1 &&& (9223372036854775807 : Int64)) b3 PP2 TT2 T4.heap n0 Z4 Fp2'4 Ft2'4 Fp4 Ft4 A3'4) hZ (hw _ (List.mem_of_getElem? (i := 19) rfl)) (hw _ (List.mem_of_getElem? (i := 4) rfl)) (by decide) (by decide)) qa5 qc5 (g := (mkF m 116 #[.val (.int i0), .val (.long i1), .second, .val (.int i2), .val (.long i3), .second, .val (.int i4), .val (.int (i0 &&& (2147483647 : Int32))), .val (.long (i1 &&& (9223372036854775807 : Int64))), .second, .val (.int PP2), .val (.long TT2), .second, .val (.ref b1), .val (.ref b3), .val (.int (((i4.toUInt32 >>> ((2 : Int32) &&& 31).toUInt32).toInt32) &&& (3 : Int32))), .val (.int (1 : Int32))] [(.ref b3), (.ref b1)])) rfl (by rw [hml]; rfl) (Steps.refl _) (argsL := [(.ref b3)]) (rest := []) (lenOf pd__Ljava_lang_Object__Z rfl) rfl (by show 2 * 0 + _ ≤ _; exact Nat.le_of_eq rfl) (hb hby at_116) (fun _ _ => ⟨rfl, rfl, (by decide : 2 + 0 ≤ _), (by decide : 4 + 0 ≤ _)⟩)
          dsimp only [Pt.U, Pt.locs, Pt.cells, Pt.slots] at X5 l5 y5 z5 st5 hQ5
          subst l5 y5 z5
          obtain ⟨rfl, N5, q5⟩ := hQ5
          refine own_st (fun t k => st5.trans k) ?_
          have N5a := Fr.app N4a N5
          show own_Fin p.tables e below _ (T5.setTop (mkF m 119 #[.val (.int i0), .val (.long i1), .second, .val (.int i2), .val (.long i3), .second, .val (.int i4), .val (.int (i0 &&& (2147483647 : Int32))), .val (.long (i1 &&& (9223372036854775807 : Int64))), .second, .val (.int PP2), .val (.long TT2), .second, .val (.ref b1), .val (.ref b3), .val (.int (((i4.toUInt32 >>> ((2 : Int32) &&& 31).toUInt32).toInt32) &&& (3 : Int32))), .val (.int (1 : Int32))] [(.int (if PP2 = (i0 &&& (2147483647 : Int32)) ∧ TT2 = (i1 &&& (9223372036854775807 : Int64)) then 1 else 0))]))
          refine own_st (fun t k => XS.iload X5.here hx rfl (hb hby at_119) rfl k) ?_
          show own_Fin p.tables e below _ (T5.setTop (mkF m 121 #[.val (.int i0), .val (.long i1), .second, .val (.int i2), .val (.long i3), .second, .val (.int i4), .val (.int (i0 &&& (2147483647 : Int32))), .val (.long (i1 &&& (9223372036854775807 : Int64))), .second, .val (.int PP2), .val (.long TT2), .second, .val (.ref b1), .val (.ref b3), .val (.int (((i4.toUInt32 >>> ((2 : Int32) &&& 31).toUInt32).toInt32) &&& (3 : Int32))), .val (.int (1 : Int32))] [(.int (1 : Int32)), (.int (if PP2 = (i0 &&& (2147483647 : Int32)) ∧ TT2 = (i1 &&& (9223372036854775807 : Int64)) then 1 else 0))]))
          refine own_st (fun t k => XS.icmpNo X5.here hx rfl (hb hby at_121) rfl (XT.ii_ne_f (if_pos ⟨cp.symm, ct.symm⟩)) k) ?_
          show own_Fin p.tables e below _ (T5.setTop (mkF m 124 #[.val (.int i0), .val (.long i1), .second, .val (.int i2), .val (.long i3), .second, .val (.int i4), .val (.int (i0 &&& (2147483647 : Int32))), .val (.long (i1 &&& (9223372036854775807 : Int64))), .second, .val (.int PP2), .val (.long TT2), .second, .val (.ref b1), .val (.ref b3), .val (.int (((i4.toUInt32 >>> ((2 : Int32) &&& 31).toUInt32).toInt32) &&& (3 : Int32))), .val (.int (1 : Int32))] []))
          refine own_st (fun t k => XS.aload X5.here hx rfl (hb hby at_124) rfl rfl k) ?_
          show own_Fin p.tables e below _ (T5.setTop (mkF m 126 #[.val (.int i0), .val (.long i1), .second, .val (.int i2), .val (.long i3), .second, .val (.int i4), .val (.int (i0 &&& (2147483647 : Int32))), .val (.long (i1 &&& (9223372036854775807 : Int64))), .second, .val (.int PP2), .val (.long TT2), .second, .val (.ref b1), .val (.ref b3), .val (.int (((i4.toUInt32 >>> ((2 : Int32) &&& 31).toUInt32).toInt32) &&& (3 : Int32))), .val (.int (1 : Int32))] [(.ref b3)]))
          refine own_st (fun t k => XS.aload X5.here hx rfl (hb hby at_126) rfl rfl k) ?_
          show own_Fin p.tables e below _ (T5.setTop (mkF m 128 #[.val (.int i0), .val (.long i1), .second, .val (.int i2), .val (.long i3), .second, .val (.int i4), .val (.int (i0 &&& (2147483647 : Int32))), .val (.long (i1 &&& (9223372036854775807 : Int64))), .second, .val (.int PP2), .val (.long TT2), .second, .val (.ref b1), .val (.ref b3), .val (.int (((i4.toUInt32 >>> ((2 : Int32) &&& 31).toUInt32).toInt32) &&& (3 : Int32))), .val (.int (1 : Int32))] [(.ref b1), (.ref b3)]))
          obtain ⟨cq6, kq6, qa6, qb6, qc6⟩ := isOf hZ q5 A3'4
          obtain ⟨_, _, ⟨T6, L6, k6, n6⟩, -, X6, ⟨Lc6, hQ6, l6, y6, z6⟩, st6⟩ := X5.virtualBack hx (y := (⟨"com/example/lugar/lugar/InhibitorArc", "equals", "(Ljava/lang/Object;)Z"⟩ : MethodName)) (z := (⟨"com/example/lugar/lugar/InhibitorArc", "equals", "(Ljava/lang/Object;)Z"⟩ : MethodName)) hown (mvT hZ (hw _ (List.mem_of_getElem? (i := 15) rfl))) (mvT hZ (hw _ (List.mem_of_getElem? (i := 16) rfl))) (notFace_of_selects (args := #[]) (mvT hZ (hw _ (List.mem_of_getElem? (i := 18) rfl)))) (mvT hZ (hw _ (List.mem_of_getElem? (i := 18) rfl))) (mvT hZ (hw _ (List.mem_of_getElem? (i := 17) rfl))) (by decide) (backOf (W := 0) (rmE1 l Z a0 hw [] b3 PP2 TT2 b1 (i0 &&& (2147483647 : Int32)) (i1 &&& (9223372036854775807 : Int64)) T4.heap n0 Z4 Fp4 Ft4 Fp2'4 Ft2'4 A1'4) hZ (hw _ (List.mem_of_getElem? (i := 19) rfl)) (hw _ (List.mem_of_getElem? (i := 4) rfl)) (by decide) (by decide)) qa6 qc6 (g := (mkF m 128 #[.val (.int i0), .val (.long i1), .second, .val (.int i2), .val (.long i3), .second, .val (.int i4), .val (.int (i0 &&& (2147483647 : Int32))), .val (.long (i1 &&& (9223372036854775807 : Int64))), .second, .val (.int PP2), .val (.long TT2), .second, .val (.ref b1), .val (.ref b3), .val (.int (((i4.toUInt32 >>> ((2 : Int32) &&& 31).toUInt32).toInt32) &&& (3 : Int32))), .val (.int (1 : Int32))] [(.ref b1), (.ref b3)])) rfl (by rw [hml]; rfl) (Steps.refl _) (argsL := [(.ref b1)]) (rest := []) (lenOf pd__Ljava_lang_Object__Z rfl) rfl (by show 2 * 0 + _ ≤ _; exact Nat.le_of_eq rfl) (hb hby at_128) (fun _ _ => ⟨rfl, q5, (by decide : 2 + 0 ≤ _), (by decide : 4 + 0 ≤ _)⟩)
          dsimp only [Pt.U, Pt.locs, Pt.cells, Pt.slots] at X6 l6 y6 z6 st6 hQ6
          subst l6 y6 z6
          obtain ⟨rfl, N6, q6⟩ := hQ6
          refine own_st (fun t k => st6.trans k) ?_
          have N6a := Fr.app N5a N6
          show own_Fin p.tables e below _ (T6.setTop (mkF m 131 #[.val (.int i0), .val (.long i1), .second, .val (.int i2), .val (.long i3), .second, .val (.int i4), .val (.int (i0 &&& (2147483647 : Int32))), .val (.long (i1 &&& (9223372036854775807 : Int64))), .second, .val (.int PP2), .val (.long TT2), .second, .val (.ref b1), .val (.ref b3), .val (.int (((i4.toUInt32 >>> ((2 : Int32) &&& 31).toUInt32).toInt32) &&& (3 : Int32))), .val (.int (1 : Int32))] [(.int (if (i0 &&& (2147483647 : Int32)) = PP2 ∧ (i1 &&& (9223372036854775807 : Int64)) = TT2 then 1 else 0))]))
          refine own_st (fun t k => XS.iload X6.here hx rfl (hb hby at_131) rfl k) ?_
          show own_Fin p.tables e below _ (T6.setTop (mkF m 133 #[.val (.int i0), .val (.long i1), .second, .val (.int i2), .val (.long i3), .second, .val (.int i4), .val (.int (i0 &&& (2147483647 : Int32))), .val (.long (i1 &&& (9223372036854775807 : Int64))), .second, .val (.int PP2), .val (.long TT2), .second, .val (.ref b1), .val (.ref b3), .val (.int (((i4.toUInt32 >>> ((2 : Int32) &&& 31).toUInt32).toInt32) &&& (3 : Int32))), .val (.int (1 : Int32))] [(.int (1 : Int32)), (.int (if (i0 &&& (2147483647 : Int32)) = PP2 ∧ (i1 &&& (9223372036854775807 : Int64)) = TT2 then 1 else 0))]))
          refine own_st (fun t k => XS.icmpNo X6.here hx rfl (hb hby at_133) rfl (XT.ii_ne_f (if_pos ⟨cp, ct⟩)) k) ?_
          show own_Fin p.tables e below _ (T6.setTop (mkF m 136 #[.val (.int i0), .val (.long i1), .second, .val (.int i2), .val (.long i3), .second, .val (.int i4), .val (.int (i0 &&& (2147483647 : Int32))), .val (.long (i1 &&& (9223372036854775807 : Int64))), .second, .val (.int PP2), .val (.long TT2), .second, .val (.ref b1), .val (.ref b3), .val (.int (((i4.toUInt32 >>> ((2 : Int32) &&& 31).toUInt32).toInt32) &&& (3 : Int32))), .val (.int (1 : Int32))] []))
          refine own_st (fun t k => XS.iconst X6.here hx rfl (hb hby at_136) k) ?_
          show own_Fin p.tables e below _ (T6.setTop (mkF m 137 #[.val (.int i0), .val (.long i1), .second, .val (.int i2), .val (.long i3), .second, .val (.int i4), .val (.int (i0 &&& (2147483647 : Int32))), .val (.long (i1 &&& (9223372036854775807 : Int64))), .second, .val (.int PP2), .val (.long TT2), .second, .val (.ref b1), .val (.ref b3), .val (.int (((i4.toUInt32 >>> ((2 : Int32) &&& 31).toUInt32).toInt32) &&& (3 : Int32))), .val (.int (1 : Int32))] [(.int (1 : Int32))]))
          refine own_st (fun t k => XS.goto X6.here hx rfl (pc0 := 137) (pc' := 141) rfl (hb hby at_137) (by decide) (by decide) k) ?_
          show own_Fin p.tables e below _ (T6.setTop (mkF m 141 #[.val (.int i0), .val (.long i1), .second, .val (.int i2), .val (.long i3), .second, .val (.int i4), .val (.int (i0 &&& (2147483647 : Int32))), .val (.long (i1 &&& (9223372036854775807 : Int64))), .second, .val (.int PP2), .val (.long TT2), .second, .val (.ref b1), .val (.ref b3), .val (.int (((i4.toUInt32 >>> ((2 : Int32) &&& 31).toUInt32).toInt32) &&& (3 : Int32))), .val (.int (1 : Int32))] [(.int (1 : Int32))]))
          obtain ⟨fs, hr, hrun, hended, hW, hsame⟩ := X6.leave (v := (some (.int (1 : Int32)))) (fun h => by rw [Bd.returns] at h; cases h)
          refine ⟨_, _, retN X6 hx (t := .boolean) Bd.returns (by simp) (hb hby at_141) hr, hrun, hended, _, _, rfl, ?_, ⟨_, rfl⟩, hW, hsame.mono (by decide) (by decide)⟩
          show Q0 Z i0 i1 i2 i3 i4 h0 n0 _ T6.heap _
          rw [q6]
          exact ⟨rfl, N6a⟩
        · have _ := ct
          refine own_st (fun t k => XS.ifYes X4.here hx rfl (pc0 := 102) (pc' := 109) rfl (hb hby at_102) rfl (XT.ll_ne_t ct) (by decide) (by decide) k) ?_
          show own_Fin p.tables e below _ (T4.setTop (mkF m 109 #[.val (.int i0), .val (.long i1), .second, .val (.int i2), .val (.long i3), .second, .val (.int i4), .val (.int (i0 &&& (2147483647 : Int32))), .val (.long (i1 &&& (9223372036854775807 : Int64))), .second, .val (.int PP2), .val (.long TT2), .second, .val (.ref b1), .val (.ref b3), .val (.int (((i4.toUInt32 >>> ((2 : Int32) &&& 31).toUInt32).toInt32) &&& (3 : Int32))), .unset] []))
          refine own_st (fun t k => XS.iconst X4.here hx rfl (hb hby at_109) k) ?_
          show own_Fin p.tables e below _ (T4.setTop (mkF m 110 #[.val (.int i0), .val (.long i1), .second, .val (.int i2), .val (.long i3), .second, .val (.int i4), .val (.int (i0 &&& (2147483647 : Int32))), .val (.long (i1 &&& (9223372036854775807 : Int64))), .second, .val (.int PP2), .val (.long TT2), .second, .val (.ref b1), .val (.ref b3), .val (.int (((i4.toUInt32 >>> ((2 : Int32) &&& 31).toUInt32).toInt32) &&& (3 : Int32))), .unset] [(.int (0 : Int32))]))
          refine own_st (fun t k => XS.istore X4.here hx rfl (hb hby at_110) rfl (l' := #[.val (.int i0), .val (.long i1), .second, .val (.int i2), .val (.long i3), .second, .val (.int i4), .val (.int (i0 &&& (2147483647 : Int32))), .val (.long (i1 &&& (9223372036854775807 : Int64))), .second, .val (.int PP2), .val (.long TT2), .second, .val (.ref b1), .val (.ref b3), .val (.int (((i4.toUInt32 >>> ((2 : Int32) &&& 31).toUInt32).toInt32) &&& (3 : Int32))), .val (.int (0 : Int32))]) rfl k) ?_
          show own_Fin p.tables e below _ (T4.setTop (mkF m 112 #[.val (.int i0), .val (.long i1), .second, .val (.int i2), .val (.long i3), .second, .val (.int i4), .val (.int (i0 &&& (2147483647 : Int32))), .val (.long (i1 &&& (9223372036854775807 : Int64))), .second, .val (.int PP2), .val (.long TT2), .second, .val (.ref b1), .val (.ref b3), .val (.int (((i4.toUInt32 >>> ((2 : Int32) &&& 31).toUInt32).toInt32) &&& (3 : Int32))), .val (.int (0 : Int32))] []))
          refine own_st (fun t k => XS.aload X4.here hx rfl (hb hby at_112) rfl rfl k) ?_
          show own_Fin p.tables e below _ (T4.setTop (mkF m 114 #[.val (.int i0), .val (.long i1), .second, .val (.int i2), .val (.long i3), .second, .val (.int i4), .val (.int (i0 &&& (2147483647 : Int32))), .val (.long (i1 &&& (9223372036854775807 : Int64))), .second, .val (.int PP2), .val (.long TT2), .second, .val (.ref b1), .val (.ref b3), .val (.int (((i4.toUInt32 >>> ((2 : Int32) &&& 31).toUInt32).toInt32) &&& (3 : Int32))), .val (.int (0 : Int32))] [(.ref b1)]))
          refine own_st (fun t k => XS.aload X4.here hx rfl (hb hby at_114) rfl rfl k) ?_
          show own_Fin p.tables e below _ (T4.setTop (mkF m 116 #[.val (.int i0), .val (.long i1), .second, .val (.int i2), .val (.long i3), .second, .val (.int i4), .val (.int (i0 &&& (2147483647 : Int32))), .val (.long (i1 &&& (9223372036854775807 : Int64))), .second, .val (.int PP2), .val (.long TT2), .second, .val (.ref b1), .val (.ref b3), .val (.int (((i4.toUInt32 >>> ((2 : Int32) &&& 31).toUInt32).toInt32) &&& (3 : Int32))), .val (.int (0 : Int32))] [(.ref b3), (.ref b1)]))
          obtain ⟨cq7, kq7, qa7, qb7, qc7⟩ := isOf hZ rfl A1'4
          obtain ⟨_, _, ⟨T7, L7, k7, n7⟩, -, X7, ⟨Lc7, hQ7, l7, y7, z7⟩, st7⟩ := X4.virtualBack hx (y := (⟨"com/example/lugar/lugar/InhibitorArc", "equals", "(Ljava/lang/Object;)Z"⟩ : MethodName)) (z := (⟨"com/example/lugar/lugar/InhibitorArc", "equals", "(Ljava/lang/Object;)Z"⟩ : MethodName)) hown (mvT hZ (hw _ (List.mem_of_getElem? (i := 15) rfl))) (mvT hZ (hw _ (List.mem_of_getElem? (i := 16) rfl))) (notFace_of_selects (args := #[]) (mvT hZ (hw _ (List.mem_of_getElem? (i := 18) rfl)))) (mvT hZ (hw _ (List.mem_of_getElem? (i := 18) rfl))) (mvT hZ (hw _ (List.mem_of_getElem? (i := 17) rfl))) (by decide) (backOf (W := 0) (rmE1 l Z a0 hw [] b1 (i0 &&& (2147483647 : Int32)) (i1 &&& (9223372036854775807 : Int64)) b3 PP2 TT2 T4.heap n0 Z4 Fp2'4 Ft2'4 Fp4 Ft4 A3'4) hZ (hw _ (List.mem_of_getElem? (i := 19) rfl)) (hw _ (List.mem_of_getElem? (i := 4) rfl)) (by decide) (by decide)) qa7 qc7 (g := (mkF m 116 #[.val (.int i0), .val (.long i1), .second, .val (.int i2), .val (.long i3), .second, .val (.int i4), .val (.int (i0 &&& (2147483647 : Int32))), .val (.long (i1 &&& (9223372036854775807 : Int64))), .second, .val (.int PP2), .val (.long TT2), .second, .val (.ref b1), .val (.ref b3), .val (.int (((i4.toUInt32 >>> ((2 : Int32) &&& 31).toUInt32).toInt32) &&& (3 : Int32))), .val (.int (0 : Int32))] [(.ref b3), (.ref b1)])) rfl (by rw [hml]; rfl) (Steps.refl _) (argsL := [(.ref b3)]) (rest := []) (lenOf pd__Ljava_lang_Object__Z rfl) rfl (by show 2 * 0 + _ ≤ _; exact Nat.le_of_eq rfl) (hb hby at_116) (fun _ _ => ⟨rfl, rfl, (by decide : 2 + 0 ≤ _), (by decide : 4 + 0 ≤ _)⟩)
          dsimp only [Pt.U, Pt.locs, Pt.cells, Pt.slots] at X7 l7 y7 z7 st7 hQ7
          subst l7 y7 z7
          obtain ⟨rfl, N7, q7⟩ := hQ7
          refine own_st (fun t k => st7.trans k) ?_
          have N7a := Fr.app N4a N7
          show own_Fin p.tables e below _ (T7.setTop (mkF m 119 #[.val (.int i0), .val (.long i1), .second, .val (.int i2), .val (.long i3), .second, .val (.int i4), .val (.int (i0 &&& (2147483647 : Int32))), .val (.long (i1 &&& (9223372036854775807 : Int64))), .second, .val (.int PP2), .val (.long TT2), .second, .val (.ref b1), .val (.ref b3), .val (.int (((i4.toUInt32 >>> ((2 : Int32) &&& 31).toUInt32).toInt32) &&& (3 : Int32))), .val (.int (0 : Int32))] [(.int (if PP2 = (i0 &&& (2147483647 : Int32)) ∧ TT2 = (i1 &&& (9223372036854775807 : Int64)) then 1 else 0))]))
          refine own_st (fun t k => XS.iload X7.here hx rfl (hb hby at_119) rfl k) ?_
          show own_Fin p.tables e below _ (T7.setTop (mkF m 121 #[.val (.int i0), .val (.long i1), .second, .val (.int i2), .val (.long i3), .second, .val (.int i4), .val (.int (i0 &&& (2147483647 : Int32))), .val (.long (i1 &&& (9223372036854775807 : Int64))), .second, .val (.int PP2), .val (.long TT2), .second, .val (.ref b1), .val (.ref b3), .val (.int (((i4.toUInt32 >>> ((2 : Int32) &&& 31).toUInt32).toInt32) &&& (3 : Int32))), .val (.int (0 : Int32))] [(.int (0 : Int32)), (.int (if PP2 = (i0 &&& (2147483647 : Int32)) ∧ TT2 = (i1 &&& (9223372036854775807 : Int64)) then 1 else 0))]))
          refine own_st (fun t k => XS.icmpNo X7.here hx rfl (hb hby at_121) rfl (XT.ii_ne_f (if_neg (fun z => ct z.2.symm))) k) ?_
          show own_Fin p.tables e below _ (T7.setTop (mkF m 124 #[.val (.int i0), .val (.long i1), .second, .val (.int i2), .val (.long i3), .second, .val (.int i4), .val (.int (i0 &&& (2147483647 : Int32))), .val (.long (i1 &&& (9223372036854775807 : Int64))), .second, .val (.int PP2), .val (.long TT2), .second, .val (.ref b1), .val (.ref b3), .val (.int (((i4.toUInt32 >>> ((2 : Int32) &&& 31).toUInt32).toInt32) &&& (3 : Int32))), .val (.int (0 : Int32))] []))
          refine own_st (fun t k => XS.aload X7.here hx rfl (hb hby at_124) rfl rfl k) ?_
          show own_Fin p.tables e below _ (T7.setTop (mkF m 126 #[.val (.int i0), .val (.long i1), .second, .val (.int i2), .val (.long i3), .second, .val (.int i4), .val (.int (i0 &&& (2147483647 : Int32))), .val (.long (i1 &&& (9223372036854775807 : Int64))), .second, .val (.int PP2), .val (.long TT2), .second, .val (.ref b1), .val (.ref b3), .val (.int (((i4.toUInt32 >>> ((2 : Int32) &&& 31).toUInt32).toInt32) &&& (3 : Int32))), .val (.int (0 : Int32))] [(.ref b3)]))
          refine own_st (fun t k => XS.aload X7.here hx rfl (hb hby at_126) rfl rfl k) ?_
          show own_Fin p.tables e below _ (T7.setTop (mkF m 128 #[.val (.int i0), .val (.long i1), .second, .val (.int i2), .val (.long i3), .second, .val (.int i4), .val (.int (i0 &&& (2147483647 : Int32))), .val (.long (i1 &&& (9223372036854775807 : Int64))), .second, .val (.int PP2), .val (.long TT2), .second, .val (.ref b1), .val (.ref b3), .val (.int (((i4.toUInt32 >>> ((2 : Int32) &&& 31).toUInt32).toInt32) &&& (3 : Int32))), .val (.int (0 : Int32))] [(.ref b1), (.ref b3)]))
          obtain ⟨cq8, kq8, qa8, qb8, qc8⟩ := isOf hZ q7 A3'4
          obtain ⟨_, _, ⟨T8, L8, k8, n8⟩, -, X8, ⟨Lc8, hQ8, l8, y8, z8⟩, st8⟩ := X7.virtualBack hx (y := (⟨"com/example/lugar/lugar/InhibitorArc", "equals", "(Ljava/lang/Object;)Z"⟩ : MethodName)) (z := (⟨"com/example/lugar/lugar/InhibitorArc", "equals", "(Ljava/lang/Object;)Z"⟩ : MethodName)) hown (mvT hZ (hw _ (List.mem_of_getElem? (i := 15) rfl))) (mvT hZ (hw _ (List.mem_of_getElem? (i := 16) rfl))) (notFace_of_selects (args := #[]) (mvT hZ (hw _ (List.mem_of_getElem? (i := 18) rfl)))) (mvT hZ (hw _ (List.mem_of_getElem? (i := 18) rfl))) (mvT hZ (hw _ (List.mem_of_getElem? (i := 17) rfl))) (by decide) (backOf (W := 0) (rmE1 l Z a0 hw [] b3 PP2 TT2 b1 (i0 &&& (2147483647 : Int32)) (i1 &&& (9223372036854775807 : Int64)) T4.heap n0 Z4 Fp4 Ft4 Fp2'4 Ft2'4 A1'4) hZ (hw _ (List.mem_of_getElem? (i := 19) rfl)) (hw _ (List.mem_of_getElem? (i := 4) rfl)) (by decide) (by decide)) qa8 qc8 (g := (mkF m 128 #[.val (.int i0), .val (.long i1), .second, .val (.int i2), .val (.long i3), .second, .val (.int i4), .val (.int (i0 &&& (2147483647 : Int32))), .val (.long (i1 &&& (9223372036854775807 : Int64))), .second, .val (.int PP2), .val (.long TT2), .second, .val (.ref b1), .val (.ref b3), .val (.int (((i4.toUInt32 >>> ((2 : Int32) &&& 31).toUInt32).toInt32) &&& (3 : Int32))), .val (.int (0 : Int32))] [(.ref b1), (.ref b3)])) rfl (by rw [hml]; rfl) (Steps.refl _) (argsL := [(.ref b1)]) (rest := []) (lenOf pd__Ljava_lang_Object__Z rfl) rfl (by show 2 * 0 + _ ≤ _; exact Nat.le_of_eq rfl) (hb hby at_128) (fun _ _ => ⟨rfl, q7, (by decide : 2 + 0 ≤ _), (by decide : 4 + 0 ≤ _)⟩)
          dsimp only [Pt.U, Pt.locs, Pt.cells, Pt.slots] at X8 l8 y8 z8 st8 hQ8
          subst l8 y8 z8
          obtain ⟨rfl, N8, q8⟩ := hQ8
          refine own_st (fun t k => st8.trans k) ?_
          have N8a := Fr.app N7a N8
          show own_Fin p.tables e below _ (T8.setTop (mkF m 131 #[.val (.int i0), .val (.long i1), .second, .val (.int i2), .val (.long i3), .second, .val (.int i4), .val (.int (i0 &&& (2147483647 : Int32))), .val (.long (i1 &&& (9223372036854775807 : Int64))), .second, .val (.int PP2), .val (.long TT2), .second, .val (.ref b1), .val (.ref b3), .val (.int (((i4.toUInt32 >>> ((2 : Int32) &&& 31).toUInt32).toInt32) &&& (3 : Int32))), .val (.int (0 : Int32))] [(.int (if (i0 &&& (2147483647 : Int32)) = PP2 ∧ (i1 &&& (9223372036854775807 : Int64)) = TT2 then 1 else 0))]))
          refine own_st (fun t k => XS.iload X8.here hx rfl (hb hby at_131) rfl k) ?_
          show own_Fin p.tables e below _ (T8.setTop (mkF m 133 #[.val (.int i0), .val (.long i1), .second, .val (.int i2), .val (.long i3), .second, .val (.int i4), .val (.int (i0 &&& (2147483647 : Int32))), .val (.long (i1 &&& (9223372036854775807 : Int64))), .second, .val (.int PP2), .val (.long TT2), .second, .val (.ref b1), .val (.ref b3), .val (.int (((i4.toUInt32 >>> ((2 : Int32) &&& 31).toUInt32).toInt32) &&& (3 : Int32))), .val (.int (0 : Int32))] [(.int (0 : Int32)), (.int (if (i0 &&& (2147483647 : Int32)) = PP2 ∧ (i1 &&& (9223372036854775807 : Int64)) = TT2 then 1 else 0))]))
          refine own_st (fun t k => XS.icmpNo X8.here hx rfl (hb hby at_133) rfl (XT.ii_ne_f (if_neg (fun z => ct z.2))) k) ?_
          show own_Fin p.tables e below _ (T8.setTop (mkF m 136 #[.val (.int i0), .val (.long i1), .second, .val (.int i2), .val (.long i3), .second, .val (.int i4), .val (.int (i0 &&& (2147483647 : Int32))), .val (.long (i1 &&& (9223372036854775807 : Int64))), .second, .val (.int PP2), .val (.long TT2), .second, .val (.ref b1), .val (.ref b3), .val (.int (((i4.toUInt32 >>> ((2 : Int32) &&& 31).toUInt32).toInt32) &&& (3 : Int32))), .val (.int (0 : Int32))] []))
          refine own_st (fun t k => XS.iconst X8.here hx rfl (hb hby at_136) k) ?_
          show own_Fin p.tables e below _ (T8.setTop (mkF m 137 #[.val (.int i0), .val (.long i1), .second, .val (.int i2), .val (.long i3), .second, .val (.int i4), .val (.int (i0 &&& (2147483647 : Int32))), .val (.long (i1 &&& (9223372036854775807 : Int64))), .second, .val (.int PP2), .val (.long TT2), .second, .val (.ref b1), .val (.ref b3), .val (.int (((i4.toUInt32 >>> ((2 : Int32) &&& 31).toUInt32).toInt32) &&& (3 : Int32))), .val (.int (0 : Int32))] [(.int (1 : Int32))]))
          refine own_st (fun t k => XS.goto X8.here hx rfl (pc0 := 137) (pc' := 141) rfl (hb hby at_137) (by decide) (by decide) k) ?_
          show own_Fin p.tables e below _ (T8.setTop (mkF m 141 #[.val (.int i0), .val (.long i1), .second, .val (.int i2), .val (.long i3), .second, .val (.int i4), .val (.int (i0 &&& (2147483647 : Int32))), .val (.long (i1 &&& (9223372036854775807 : Int64))), .second, .val (.int PP2), .val (.long TT2), .second, .val (.ref b1), .val (.ref b3), .val (.int (((i4.toUInt32 >>> ((2 : Int32) &&& 31).toUInt32).toInt32) &&& (3 : Int32))), .val (.int (0 : Int32))] [(.int (1 : Int32))]))
          obtain ⟨fs, hr, hrun, hended, hW, hsame⟩ := X8.leave (v := (some (.int (1 : Int32)))) (fun h => by rw [Bd.returns] at h; cases h)
          refine ⟨_, _, retN X8 hx (t := .boolean) Bd.returns (by simp) (hb hby at_141) hr, hrun, hended, _, _, rfl, ?_, ⟨_, rfl⟩, hW, hsame.mono (by decide) (by decide)⟩
          show Q0 Z i0 i1 i2 i3 i4 h0 n0 _ T8.heap _
          rw [q8]
          exact ⟨rfl, N8a⟩
      · have _ := cp
        refine own_st (fun t k => XS.icmpYes X4.here hx rfl (pc0 := 94) (pc' := 109) rfl (hb hby at_94) rfl (XT.ii_ne_t cp) (by decide) (by decide) k) ?_
        show own_Fin p.tables e below _ (T4.setTop (mkF m 109 #[.val (.int i0), .val (.long i1), .second, .val (.int i2), .val (.long i3), .second, .val (.int i4), .val (.int (i0 &&& (2147483647 : Int32))), .val (.long (i1 &&& (9223372036854775807 : Int64))), .second, .val (.int PP2), .val (.long TT2), .second, .val (.ref b1), .val (.ref b3), .val (.int (((i4.toUInt32 >>> ((2 : Int32) &&& 31).toUInt32).toInt32) &&& (3 : Int32))), .unset] []))
        refine own_st (fun t k => XS.iconst X4.here hx rfl (hb hby at_109) k) ?_
        show own_Fin p.tables e below _ (T4.setTop (mkF m 110 #[.val (.int i0), .val (.long i1), .second, .val (.int i2), .val (.long i3), .second, .val (.int i4), .val (.int (i0 &&& (2147483647 : Int32))), .val (.long (i1 &&& (9223372036854775807 : Int64))), .second, .val (.int PP2), .val (.long TT2), .second, .val (.ref b1), .val (.ref b3), .val (.int (((i4.toUInt32 >>> ((2 : Int32) &&& 31).toUInt32).toInt32) &&& (3 : Int32))), .unset] [(.int (0 : Int32))]))
        refine own_st (fun t k => XS.istore X4.here hx rfl (hb hby at_110) rfl (l' := #[.val (.int i0), .val (.long i1), .second, .val (.int i2), .val (.long i3), .second, .val (.int i4), .val (.int (i0 &&& (2147483647 : Int32))), .val (.long (i1 &&& (9223372036854775807 : Int64))), .second, .val (.int PP2), .val (.long TT2), .second, .val (.ref b1), .val (.ref b3), .val (.int (((i4.toUInt32 >>> ((2 : Int32) &&& 31).toUInt32).toInt32) &&& (3 : Int32))), .val (.int (0 : Int32))]) rfl k) ?_
        show own_Fin p.tables e below _ (T4.setTop (mkF m 112 #[.val (.int i0), .val (.long i1), .second, .val (.int i2), .val (.long i3), .second, .val (.int i4), .val (.int (i0 &&& (2147483647 : Int32))), .val (.long (i1 &&& (9223372036854775807 : Int64))), .second, .val (.int PP2), .val (.long TT2), .second, .val (.ref b1), .val (.ref b3), .val (.int (((i4.toUInt32 >>> ((2 : Int32) &&& 31).toUInt32).toInt32) &&& (3 : Int32))), .val (.int (0 : Int32))] []))
        refine own_st (fun t k => XS.aload X4.here hx rfl (hb hby at_112) rfl rfl k) ?_
        show own_Fin p.tables e below _ (T4.setTop (mkF m 114 #[.val (.int i0), .val (.long i1), .second, .val (.int i2), .val (.long i3), .second, .val (.int i4), .val (.int (i0 &&& (2147483647 : Int32))), .val (.long (i1 &&& (9223372036854775807 : Int64))), .second, .val (.int PP2), .val (.long TT2), .second, .val (.ref b1), .val (.ref b3), .val (.int (((i4.toUInt32 >>> ((2 : Int32) &&& 31).toUInt32).toInt32) &&& (3 : Int32))), .val (.int (0 : Int32))] [(.ref b1)]))
        refine own_st (fun t k => XS.aload X4.here hx rfl (hb hby at_114) rfl rfl k) ?_
        show own_Fin p.tables e below _ (T4.setTop (mkF m 116 #[.val (.int i0), .val (.long i1), .second, .val (.int i2), .val (.long i3), .second, .val (.int i4), .val (.int (i0 &&& (2147483647 : Int32))), .val (.long (i1 &&& (9223372036854775807 : Int64))), .second, .val (.int PP2), .val (.long TT2), .second, .val (.ref b1), .val (.ref b3), .val (.int (((i4.toUInt32 >>> ((2 : Int32) &&& 31).toUInt32).toInt32) &&& (3 : Int32))), .val (.int (0 : Int32))] [(.ref b3), (.ref b1)]))
        obtain ⟨cq9, kq9, qa9, qb9, qc9⟩ := isOf hZ rfl A1'4
        obtain ⟨_, _, ⟨T9, L9, k9, n9⟩, -, X9, ⟨Lc9, hQ9, l9, y9, z9⟩, st9⟩ := X4.virtualBack hx (y := (⟨"com/example/lugar/lugar/InhibitorArc", "equals", "(Ljava/lang/Object;)Z"⟩ : MethodName)) (z := (⟨"com/example/lugar/lugar/InhibitorArc", "equals", "(Ljava/lang/Object;)Z"⟩ : MethodName)) hown (mvT hZ (hw _ (List.mem_of_getElem? (i := 15) rfl))) (mvT hZ (hw _ (List.mem_of_getElem? (i := 16) rfl))) (notFace_of_selects (args := #[]) (mvT hZ (hw _ (List.mem_of_getElem? (i := 18) rfl)))) (mvT hZ (hw _ (List.mem_of_getElem? (i := 18) rfl))) (mvT hZ (hw _ (List.mem_of_getElem? (i := 17) rfl))) (by decide) (backOf (W := 0) (rmE1 l Z a0 hw [] b1 (i0 &&& (2147483647 : Int32)) (i1 &&& (9223372036854775807 : Int64)) b3 PP2 TT2 T4.heap n0 Z4 Fp2'4 Ft2'4 Fp4 Ft4 A3'4) hZ (hw _ (List.mem_of_getElem? (i := 19) rfl)) (hw _ (List.mem_of_getElem? (i := 4) rfl)) (by decide) (by decide)) qa9 qc9 (g := (mkF m 116 #[.val (.int i0), .val (.long i1), .second, .val (.int i2), .val (.long i3), .second, .val (.int i4), .val (.int (i0 &&& (2147483647 : Int32))), .val (.long (i1 &&& (9223372036854775807 : Int64))), .second, .val (.int PP2), .val (.long TT2), .second, .val (.ref b1), .val (.ref b3), .val (.int (((i4.toUInt32 >>> ((2 : Int32) &&& 31).toUInt32).toInt32) &&& (3 : Int32))), .val (.int (0 : Int32))] [(.ref b3), (.ref b1)])) rfl (by rw [hml]; rfl) (Steps.refl _) (argsL := [(.ref b3)]) (rest := []) (lenOf pd__Ljava_lang_Object__Z rfl) rfl (by show 2 * 0 + _ ≤ _; exact Nat.le_of_eq rfl) (hb hby at_116) (fun _ _ => ⟨rfl, rfl, (by decide : 2 + 0 ≤ _), (by decide : 4 + 0 ≤ _)⟩)
        dsimp only [Pt.U, Pt.locs, Pt.cells, Pt.slots] at X9 l9 y9 z9 st9 hQ9
        subst l9 y9 z9
        obtain ⟨rfl, N9, q9⟩ := hQ9
        refine own_st (fun t k => st9.trans k) ?_
        have N9a := Fr.app N4a N9
        show own_Fin p.tables e below _ (T9.setTop (mkF m 119 #[.val (.int i0), .val (.long i1), .second, .val (.int i2), .val (.long i3), .second, .val (.int i4), .val (.int (i0 &&& (2147483647 : Int32))), .val (.long (i1 &&& (9223372036854775807 : Int64))), .second, .val (.int PP2), .val (.long TT2), .second, .val (.ref b1), .val (.ref b3), .val (.int (((i4.toUInt32 >>> ((2 : Int32) &&& 31).toUInt32).toInt32) &&& (3 : Int32))), .val (.int (0 : Int32))] [(.int (if PP2 = (i0 &&& (2147483647 : Int32)) ∧ TT2 = (i1 &&& (9223372036854775807 : Int64)) then 1 else 0))]))
        refine own_st (fun t k => XS.iload X9.here hx rfl (hb hby at_119) rfl k) ?_
        show own_Fin p.tables e below _ (T9.setTop (mkF m 121 #[.val (.int i0), .val (.long i1), .second, .val (.int i2), .val (.long i3), .second, .val (.int i4), .val (.int (i0 &&& (2147483647 : Int32))), .val (.long (i1 &&& (9223372036854775807 : Int64))), .second, .val (.int PP2), .val (.long TT2), .second, .val (.ref b1), .val (.ref b3), .val (.int (((i4.toUInt32 >>> ((2 : Int32) &&& 31).toUInt32).toInt32) &&& (3 : Int32))), .val (.int (0 : Int32))] [(.int (0 : Int32)), (.int (if PP2 = (i0 &&& (2147483647 : Int32)) ∧ TT2 = (i1 &&& (9223372036854775807 : Int64)) then 1 else 0))]))
        refine own_st (fun t k => XS.icmpNo X9.here hx rfl (hb hby at_121) rfl (XT.ii_ne_f (if_neg (fun z => cp z.1.symm))) k) ?_
        show own_Fin p.tables e below _ (T9.setTop (mkF m 124 #[.val (.int i0), .val (.long i1), .second, .val (.int i2), .val (.long i3), .second, .val (.int i4), .val (.int (i0 &&& (2147483647 : Int32))), .val (.long (i1 &&& (9223372036854775807 : Int64))), .second, .val (.int PP2), .val (.long TT2), .second, .val (.ref b1), .val (.ref b3), .val (.int (((i4.toUInt32 >>> ((2 : Int32) &&& 31).toUInt32).toInt32) &&& (3 : Int32))), .val (.int (0 : Int32))] []))
        refine own_st (fun t k => XS.aload X9.here hx rfl (hb hby at_124) rfl rfl k) ?_
        show own_Fin p.tables e below _ (T9.setTop (mkF m 126 #[.val (.int i0), .val (.long i1), .second, .val (.int i2), .val (.long i3), .second, .val (.int i4), .val (.int (i0 &&& (2147483647 : Int32))), .val (.long (i1 &&& (9223372036854775807 : Int64))), .second, .val (.int PP2), .val (.long TT2), .second, .val (.ref b1), .val (.ref b3), .val (.int (((i4.toUInt32 >>> ((2 : Int32) &&& 31).toUInt32).toInt32) &&& (3 : Int32))), .val (.int (0 : Int32))] [(.ref b3)]))
        refine own_st (fun t k => XS.aload X9.here hx rfl (hb hby at_126) rfl rfl k) ?_
        show own_Fin p.tables e below _ (T9.setTop (mkF m 128 #[.val (.int i0), .val (.long i1), .second, .val (.int i2), .val (.long i3), .second, .val (.int i4), .val (.int (i0 &&& (2147483647 : Int32))), .val (.long (i1 &&& (9223372036854775807 : Int64))), .second, .val (.int PP2), .val (.long TT2), .second, .val (.ref b1), .val (.ref b3), .val (.int (((i4.toUInt32 >>> ((2 : Int32) &&& 31).toUInt32).toInt32) &&& (3 : Int32))), .val (.int (0 : Int32))] [(.ref b1), (.ref b3)]))
        obtain ⟨cq10, kq10, qa10, qb10, qc10⟩ := isOf hZ q9 A3'4
        obtain ⟨_, _, ⟨T10, L10, k10, n10⟩, -, X10, ⟨Lc10, hQ10, l10, y10, z10⟩, st10⟩ := X9.virtualBack hx (y := (⟨"com/example/lugar/lugar/InhibitorArc", "equals", "(Ljava/lang/Object;)Z"⟩ : MethodName)) (z := (⟨"com/example/lugar/lugar/InhibitorArc", "equals", "(Ljava/lang/Object;)Z"⟩ : MethodName)) hown (mvT hZ (hw _ (List.mem_of_getElem? (i := 15) rfl))) (mvT hZ (hw _ (List.mem_of_getElem? (i := 16) rfl))) (notFace_of_selects (args := #[]) (mvT hZ (hw _ (List.mem_of_getElem? (i := 18) rfl)))) (mvT hZ (hw _ (List.mem_of_getElem? (i := 18) rfl))) (mvT hZ (hw _ (List.mem_of_getElem? (i := 17) rfl))) (by decide) (backOf (W := 0) (rmE1 l Z a0 hw [] b3 PP2 TT2 b1 (i0 &&& (2147483647 : Int32)) (i1 &&& (9223372036854775807 : Int64)) T4.heap n0 Z4 Fp4 Ft4 Fp2'4 Ft2'4 A1'4) hZ (hw _ (List.mem_of_getElem? (i := 19) rfl)) (hw _ (List.mem_of_getElem? (i := 4) rfl)) (by decide) (by decide)) qa10 qc10 (g := (mkF m 128 #[.val (.int i0), .val (.long i1), .second, .val (.int i2), .val (.long i3), .second, .val (.int i4), .val (.int (i0 &&& (2147483647 : Int32))), .val (.long (i1 &&& (9223372036854775807 : Int64))), .second, .val (.int PP2), .val (.long TT2), .second, .val (.ref b1), .val (.ref b3), .val (.int (((i4.toUInt32 >>> ((2 : Int32) &&& 31).toUInt32).toInt32) &&& (3 : Int32))), .val (.int (0 : Int32))] [(.ref b1), (.ref b3)])) rfl (by rw [hml]; rfl) (Steps.refl _) (argsL := [(.ref b1)]) (rest := []) (lenOf pd__Ljava_lang_Object__Z rfl) rfl (by show 2 * 0 + _ ≤ _; exact Nat.le_of_eq rfl) (hb hby at_128) (fun _ _ => ⟨rfl, q9, (by decide : 2 + 0 ≤ _), (by decide : 4 + 0 ≤ _)⟩)
        dsimp only [Pt.U, Pt.locs, Pt.cells, Pt.slots] at X10 l10 y10 z10 st10 hQ10
        subst l10 y10 z10
        obtain ⟨rfl, N10, q10⟩ := hQ10
        refine own_st (fun t k => st10.trans k) ?_
        have N10a := Fr.app N9a N10
        show own_Fin p.tables e below _ (T10.setTop (mkF m 131 #[.val (.int i0), .val (.long i1), .second, .val (.int i2), .val (.long i3), .second, .val (.int i4), .val (.int (i0 &&& (2147483647 : Int32))), .val (.long (i1 &&& (9223372036854775807 : Int64))), .second, .val (.int PP2), .val (.long TT2), .second, .val (.ref b1), .val (.ref b3), .val (.int (((i4.toUInt32 >>> ((2 : Int32) &&& 31).toUInt32).toInt32) &&& (3 : Int32))), .val (.int (0 : Int32))] [(.int (if (i0 &&& (2147483647 : Int32)) = PP2 ∧ (i1 &&& (9223372036854775807 : Int64)) = TT2 then 1 else 0))]))
        refine own_st (fun t k => XS.iload X10.here hx rfl (hb hby at_131) rfl k) ?_
        show own_Fin p.tables e below _ (T10.setTop (mkF m 133 #[.val (.int i0), .val (.long i1), .second, .val (.int i2), .val (.long i3), .second, .val (.int i4), .val (.int (i0 &&& (2147483647 : Int32))), .val (.long (i1 &&& (9223372036854775807 : Int64))), .second, .val (.int PP2), .val (.long TT2), .second, .val (.ref b1), .val (.ref b3), .val (.int (((i4.toUInt32 >>> ((2 : Int32) &&& 31).toUInt32).toInt32) &&& (3 : Int32))), .val (.int (0 : Int32))] [(.int (0 : Int32)), (.int (if (i0 &&& (2147483647 : Int32)) = PP2 ∧ (i1 &&& (9223372036854775807 : Int64)) = TT2 then 1 else 0))]))
        refine own_st (fun t k => XS.icmpNo X10.here hx rfl (hb hby at_133) rfl (XT.ii_ne_f (if_neg (fun z => cp z.1))) k) ?_
        show own_Fin p.tables e below _ (T10.setTop (mkF m 136 #[.val (.int i0), .val (.long i1), .second, .val (.int i2), .val (.long i3), .second, .val (.int i4), .val (.int (i0 &&& (2147483647 : Int32))), .val (.long (i1 &&& (9223372036854775807 : Int64))), .second, .val (.int PP2), .val (.long TT2), .second, .val (.ref b1), .val (.ref b3), .val (.int (((i4.toUInt32 >>> ((2 : Int32) &&& 31).toUInt32).toInt32) &&& (3 : Int32))), .val (.int (0 : Int32))] []))
        refine own_st (fun t k => XS.iconst X10.here hx rfl (hb hby at_136) k) ?_
        show own_Fin p.tables e below _ (T10.setTop (mkF m 137 #[.val (.int i0), .val (.long i1), .second, .val (.int i2), .val (.long i3), .second, .val (.int i4), .val (.int (i0 &&& (2147483647 : Int32))), .val (.long (i1 &&& (9223372036854775807 : Int64))), .second, .val (.int PP2), .val (.long TT2), .second, .val (.ref b1), .val (.ref b3), .val (.int (((i4.toUInt32 >>> ((2 : Int32) &&& 31).toUInt32).toInt32) &&& (3 : Int32))), .val (.int (0 : Int32))] [(.int (1 : Int32))]))
        refine own_st (fun t k => XS.goto X10.here hx rfl (pc0 := 137) (pc' := 141) rfl (hb hby at_137) (by decide) (by decide) k) ?_
        show own_Fin p.tables e below _ (T10.setTop (mkF m 141 #[.val (.int i0), .val (.long i1), .second, .val (.int i2), .val (.long i3), .second, .val (.int i4), .val (.int (i0 &&& (2147483647 : Int32))), .val (.long (i1 &&& (9223372036854775807 : Int64))), .second, .val (.int PP2), .val (.long TT2), .second, .val (.ref b1), .val (.ref b3), .val (.int (((i4.toUInt32 >>> ((2 : Int32) &&& 31).toUInt32).toInt32) &&& (3 : Int32))), .val (.int (0 : Int32))] [(.int (1 : Int32))]))
        obtain ⟨fs, hr, hrun, hended, hW, hsame⟩ := X10.leave (v := (some (.int (1 : Int32)))) (fun h => by rw [Bd.returns] at h; cases h)
        refine ⟨_, _, retN X10 hx (t := .boolean) Bd.returns (by simp) (hb hby at_141) hr, hrun, hended, _, _, rfl, ?_, ⟨_, rfl⟩, hW, hsame.mono (by decide) (by decide)⟩
        show Q0 Z i0 i1 i2 i3 i4 h0 n0 _ T10.heap _
        rw [q10]
        exact ⟨rfl, N10a⟩
    · have _ := d0
      refine own_st (fun t k => XS.ifYes X4.here hx rfl (pc0 := 87) (pc' := 142) rfl (hb hby at_87) rfl (XT.i0_ne_t d0) (by decide) (by decide) k) ?_
      show own_Fin p.tables e below _ (T4.setTop (mkF m 142 #[.val (.int i0), .val (.long i1), .second, .val (.int i2), .val (.long i3), .second, .val (.int i4), .val (.int (i0 &&& (2147483647 : Int32))), .val (.long (i1 &&& (9223372036854775807 : Int64))), .second, .val (.int PP2), .val (.long TT2), .second, .val (.ref b1), .val (.ref b3), .val (.int (((i4.toUInt32 >>> ((2 : Int32) &&& 31).toUInt32).toInt32) &&& (3 : Int32))), .unset] []))
      refine own_st (fun t k => XS.iload X4.here hx rfl (hb hby at_142) rfl k) ?_
      show own_Fin p.tables e below _ (T4.setTop (mkF m 144 #[.val (.int i0), .val (.long i1), .second, .val (.int i2), .val (.long i3), .second, .val (.int i4), .val (.int (i0 &&& (2147483647 : Int32))), .val (.long (i1 &&& (9223372036854775807 : Int64))), .second, .val (.int PP2), .val (.long TT2), .second, .val (.ref b1), .val (.ref b3), .val (.int (((i4.toUInt32 >>> ((2 : Int32) &&& 31).toUInt32).toInt32) &&& (3 : Int32))), .unset] [(.int (((i4.toUInt32 >>> ((2 : Int32) &&& 31).toUInt32).toInt32) &&& (3 : Int32)))]))
      refine own_st (fun t k => XS.iconst X4.here hx rfl (hb hby at_144) k) ?_
      show own_Fin p.tables e below _ (T4.setTop (mkF m 145 #[.val (.int i0), .val (.long i1), .second, .val (.int i2), .val (.long i3), .second, .val (.int i4), .val (.int (i0 &&& (2147483647 : Int32))), .val (.long (i1 &&& (9223372036854775807 : Int64))), .second, .val (.int PP2), .val (.long TT2), .second, .val (.ref b1), .val (.ref b3), .val (.int (((i4.toUInt32 >>> ((2 : Int32) &&& 31).toUInt32).toInt32) &&& (3 : Int32))), .unset] [(.int (1 : Int32)), (.int (((i4.toUInt32 >>> ((2 : Int32) &&& 31).toUInt32).toInt32) &&& (3 : Int32)))]))
      rcases Decidable.em ((((i4.toUInt32 >>> ((2 : Int32) &&& 31).toUInt32).toInt32) &&& (3 : Int32)) = (1 : Int32)) with d1 | d1
      · have _ := d1
        refine own_st (fun t k => XS.icmpNo X4.here hx rfl (hb hby at_145) rfl (XT.ii_ne_f d1) k) ?_
        show own_Fin p.tables e below _ (T4.setTop (mkF m 148 #[.val (.int i0), .val (.long i1), .second, .val (.int i2), .val (.long i3), .second, .val (.int i4), .val (.int (i0 &&& (2147483647 : Int32))), .val (.long (i1 &&& (9223372036854775807 : Int64))), .second, .val (.int PP2), .val (.long TT2), .second, .val (.ref b1), .val (.ref b3), .val (.int (((i4.toUInt32 >>> ((2 : Int32) &&& 31).toUInt32).toInt32) &&& (3 : Int32))), .unset] []))
        refine own_st (fun t k => XS.aload X4.here hx rfl (hb hby at_148) rfl rfl k) ?_
        show own_Fin p.tables e below _ (T4.setTop (mkF m 150 #[.val (.int i0), .val (.long i1), .second, .val (.int i2), .val (.long i3), .second, .val (.int i4), .val (.int (i0 &&& (2147483647 : Int32))), .val (.long (i1 &&& (9223372036854775807 : Int64))), .second, .val (.int PP2), .val (.long TT2), .second, .val (.ref b1), .val (.ref b3), .val (.int (((i4.toUInt32 >>> ((2 : Int32) &&& 31).toUInt32).toInt32) &&& (3 : Int32))), .unset] [(.ref b1)]))
        refine own_st (fun t k => XS.aconstNull X4.here hx rfl (hb hby at_150) k) ?_
        show own_Fin p.tables e below _ (T4.setTop (mkF m 151 #[.val (.int i0), .val (.long i1), .second, .val (.int i2), .val (.long i3), .second, .val (.int i4), .val (.int (i0 &&& (2147483647 : Int32))), .val (.long (i1 &&& (9223372036854775807 : Int64))), .second, .val (.int PP2), .val (.long TT2), .second, .val (.ref b1), .val (.ref b3), .val (.int (((i4.toUInt32 >>> ((2 : Int32) &&& 31).toUInt32).toInt32) &&& (3 : Int32))), .unset] [.null, (.ref b1)]))
        obtain ⟨cq11, kq11, qa11, qb11, qc11⟩ := isOf hZ rfl A1'4
        obtain ⟨_, _, ⟨T11, L11, k11, n11⟩, -, X11, ⟨Lc11, hQ11, l11, y11, z11⟩, st11⟩ := X4.virtualBack hx (y := (⟨"com/example/lugar/lugar/InhibitorArc", "equals", "(Ljava/lang/Object;)Z"⟩ : MethodName)) (z := (⟨"com/example/lugar/lugar/InhibitorArc", "equals", "(Ljava/lang/Object;)Z"⟩ : MethodName)) hown (mvT hZ (hw _ (List.mem_of_getElem? (i := 15) rfl))) (mvT hZ (hw _ (List.mem_of_getElem? (i := 16) rfl))) (notFace_of_selects (args := #[]) (mvT hZ (hw _ (List.mem_of_getElem? (i := 18) rfl)))) (mvT hZ (hw _ (List.mem_of_getElem? (i := 18) rfl))) (mvT hZ (hw _ (List.mem_of_getElem? (i := 17) rfl))) (by decide) (backOf (W := 0) (rmE2 l Z a0 hw [] b1 T4.heap n0 Z4) hZ (hw _ (List.mem_of_getElem? (i := 19) rfl)) (hw _ (List.mem_of_getElem? (i := 4) rfl)) (by decide) (by decide)) qa11 qc11 (g := (mkF m 151 #[.val (.int i0), .val (.long i1), .second, .val (.int i2), .val (.long i3), .second, .val (.int i4), .val (.int (i0 &&& (2147483647 : Int32))), .val (.long (i1 &&& (9223372036854775807 : Int64))), .second, .val (.int PP2), .val (.long TT2), .second, .val (.ref b1), .val (.ref b3), .val (.int (((i4.toUInt32 >>> ((2 : Int32) &&& 31).toUInt32).toInt32) &&& (3 : Int32))), .unset] [.null, (.ref b1)])) rfl (by rw [hml]; rfl) (Steps.refl _) (argsL := [.null]) (rest := []) (lenOf pd__Ljava_lang_Object__Z rfl) rfl (by show 2 * 0 + _ ≤ _; exact Nat.le_of_eq rfl) (hb hby at_151) (fun _ _ => ⟨rfl, rfl, (by decide : 2 + 0 ≤ _), (by decide : 4 + 0 ≤ _)⟩)
        dsimp only [Pt.U, Pt.locs, Pt.cells, Pt.slots] at X11 l11 y11 z11 st11 hQ11
        subst l11 y11 z11
        obtain ⟨rfl, N11, q11⟩ := hQ11
        refine own_st (fun t k => st11.trans k) ?_
        have N11a := Fr.app N4a N11
        show own_Fin p.tables e below _ (T11.setTop (mkF m 154 #[.val (.int i0), .val (.long i1), .second, .val (.int i2), .val (.long i3), .second, .val (.int i4), .val (.int (i0 &&& (2147483647 : Int32))), .val (.long (i1 &&& (9223372036854775807 : Int64))), .second, .val (.int PP2), .val (.long TT2), .second, .val (.ref b1), .val (.ref b3), .val (.int (((i4.toUInt32 >>> ((2 : Int32) &&& 31).toUInt32).toInt32) &&& (3 : Int32))), .unset] [(.int (0 : Int32))]))
        refine own_st (fun t k => XS.ifNo X11.here hx rfl (hb hby at_154) rfl (XT.i0_ne_f (by decide)) k) ?_
        show own_Fin p.tables e below _ (T11.setTop (mkF m 157 #[.val (.int i0), .val (.long i1), .second, .val (.int i2), .val (.long i3), .second, .val (.int i4), .val (.int (i0 &&& (2147483647 : Int32))), .val (.long (i1 &&& (9223372036854775807 : Int64))), .second, .val (.int PP2), .val (.long TT2), .second, .val (.ref b1), .val (.ref b3), .val (.int (((i4.toUInt32 >>> ((2 : Int32) &&& 31).toUInt32).toInt32) &&& (3 : Int32))), .unset] []))
        refine own_st (fun t k => XS.iconst X11.here hx rfl (hb hby at_157) k) ?_
        show own_Fin p.tables e below _ (T11.setTop (mkF m 158 #[.val (.int i0), .val (.long i1), .second, .val (.int i2), .val (.long i3), .second, .val (.int i4), .val (.int (i0 &&& (2147483647 : Int32))), .val (.long (i1 &&& (9223372036854775807 : Int64))), .second, .val (.int PP2), .val (.long TT2), .second, .val (.ref b1), .val (.ref b3), .val (.int (((i4.toUInt32 >>> ((2 : Int32) &&& 31).toUInt32).toInt32) &&& (3 : Int32))), .unset] [(.int (1 : Int32))]))
        refine own_st (fun t k => XS.goto X11.here hx rfl (pc0 := 158) (pc' := 162) rfl (hb hby at_158) (by decide) (by decide) k) ?_
        show own_Fin p.tables e below _ (T11.setTop (mkF m 162 #[.val (.int i0), .val (.long i1), .second, .val (.int i2), .val (.long i3), .second, .val (.int i4), .val (.int (i0 &&& (2147483647 : Int32))), .val (.long (i1 &&& (9223372036854775807 : Int64))), .second, .val (.int PP2), .val (.long TT2), .second, .val (.ref b1), .val (.ref b3), .val (.int (((i4.toUInt32 >>> ((2 : Int32) &&& 31).toUInt32).toInt32) &&& (3 : Int32))), .unset] [(.int (1 : Int32))]))
        obtain ⟨fs, hr, hrun, hended, hW, hsame⟩ := X11.leave (v := (some (.int (1 : Int32)))) (fun h => by rw [Bd.returns] at h; cases h)
        refine ⟨_, _, retN X11 hx (t := .boolean) Bd.returns (by simp) (hb hby at_162) hr, hrun, hended, _, _, rfl, ?_, ⟨_, rfl⟩, hW, hsame.mono (by decide) (by decide)⟩
        show Q0 Z i0 i1 i2 i3 i4 h0 n0 _ T11.heap _
        rw [q11]
        exact ⟨rfl, N11a⟩
      · have _ := d1
        refine own_st (fun t k => XS.icmpYes X4.here hx rfl (pc0 := 145) (pc' := 163) rfl (hb hby at_145) rfl (XT.ii_ne_t d1) (by decide) (by decide) k) ?_
        show own_Fin p.tables e below _ (T4.setTop (mkF m 163 #[.val (.int i0), .val (.long i1), .second, .val (.int i2), .val (.long i3), .second, .val (.int i4), .val (.int (i0 &&& (2147483647 : Int32))), .val (.long (i1 &&& (9223372036854775807 : Int64))), .second, .val (.int PP2), .val (.long TT2), .second, .val (.ref b1), .val (.ref b3), .val (.int (((i4.toUInt32 >>> ((2 : Int32) &&& 31).toUInt32).toInt32) &&& (3 : Int32))), .unset] []))
        refine own_st (fun t k => XS.iload X4.here hx rfl (hb hby at_163) rfl k) ?_
        show own_Fin p.tables e below _ (T4.setTop (mkF m 165 #[.val (.int i0), .val (.long i1), .second, .val (.int i2), .val (.long i3), .second, .val (.int i4), .val (.int (i0 &&& (2147483647 : Int32))), .val (.long (i1 &&& (9223372036854775807 : Int64))), .second, .val (.int PP2), .val (.long TT2), .second, .val (.ref b1), .val (.ref b3), .val (.int (((i4.toUInt32 >>> ((2 : Int32) &&& 31).toUInt32).toInt32) &&& (3 : Int32))), .unset] [(.int (((i4.toUInt32 >>> ((2 : Int32) &&& 31).toUInt32).toInt32) &&& (3 : Int32)))]))
        refine own_st (fun t k => XS.iconst X4.here hx rfl (hb hby at_165) k) ?_
        show own_Fin p.tables e below _ (T4.setTop (mkF m 166 #[.val (.int i0), .val (.long i1), .second, .val (.int i2), .val (.long i3), .second, .val (.int i4), .val (.int (i0 &&& (2147483647 : Int32))), .val (.long (i1 &&& (9223372036854775807 : Int64))), .second, .val (.int PP2), .val (.long TT2), .second, .val (.ref b1), .val (.ref b3), .val (.int (((i4.toUInt32 >>> ((2 : Int32) &&& 31).toUInt32).toInt32) &&& (3 : Int32))), .unset] [(.int (2 : Int32)), (.int (((i4.toUInt32 >>> ((2 : Int32) &&& 31).toUInt32).toInt32) &&& (3 : Int32)))]))
        rcases Decidable.em ((((i4.toUInt32 >>> ((2 : Int32) &&& 31).toUInt32).toInt32) &&& (3 : Int32)) = (2 : Int32)) with d2 | d2
        · have _ := d2
          refine own_st (fun t k => XS.icmpNo X4.here hx rfl (hb hby at_166) rfl (XT.ii_ne_f d2) k) ?_
          show own_Fin p.tables e below _ (T4.setTop (mkF m 169 #[.val (.int i0), .val (.long i1), .second, .val (.int i2), .val (.long i3), .second, .val (.int i4), .val (.int (i0 &&& (2147483647 : Int32))), .val (.long (i1 &&& (9223372036854775807 : Int64))), .second, .val (.int PP2), .val (.long TT2), .second, .val (.ref b1), .val (.ref b3), .val (.int (((i4.toUInt32 >>> ((2 : Int32) &&& 31).toUInt32).toInt32) &&& (3 : Int32))), .unset] []))
          refine own_st (fun t k => XS.iload X4.here hx rfl (hb hby at_169) rfl k) ?_
          show own_Fin p.tables e below _ (T4.setTop (mkF m 171 #[.val (.int i0), .val (.long i1), .second, .val (.int i2), .val (.long i3), .second, .val (.int i4), .val (.int (i0 &&& (2147483647 : Int32))), .val (.long (i1 &&& (9223372036854775807 : Int64))), .second, .val (.int PP2), .val (.long TT2), .second, .val (.ref b1), .val (.ref b3), .val (.int (((i4.toUInt32 >>> ((2 : Int32) &&& 31).toUInt32).toInt32) &&& (3 : Int32))), .unset] [(.int (i0 &&& (2147483647 : Int32)))]))
          obtain ⟨_, _, ⟨T12, L12, k12, n12⟩, -, X12, ⟨Lc12, hQ12, l12, y12, z12⟩, st12⟩ := Jvm.LawKit.callS X4 hx (y := (⟨"java/lang/Integer", "valueOf", "(I)Ljava/lang/Integer;"⟩ : MethodName)) hown (mvT hZ (hw _ (List.mem_of_getElem? (i := 22) rfl))) (mvT hZ (hw _ (List.mem_of_getElem? (i := 23) rfl))) (mvT hZ (hw _ (List.mem_of_getElem? (i := 24) rfl))) (mvT hZ (hw _ (List.mem_of_getElem? (i := 25) rfl))) (by decide) (backOf (W := 0) (rm4 l Z a0 hw [] (i0 &&& (2147483647 : Int32)) T4.heap n0 Z4 hp1 (own_Cache.ext O0'4.2 Ca)) hZ (hw _ (List.mem_of_getElem? (i := 25) rfl)) (hw _ (List.mem_of_getElem? (i := 24) rfl)) (by decide) (by decide)) (g := (mkF m 171 #[.val (.int i0), .val (.long i1), .second, .val (.int i2), .val (.long i3), .second, .val (.int i4), .val (.int (i0 &&& (2147483647 : Int32))), .val (.long (i1 &&& (9223372036854775807 : Int64))), .second, .val (.int PP2), .val (.long TT2), .second, .val (.ref b1), .val (.ref b3), .val (.int (((i4.toUInt32 >>> ((2 : Int32) &&& 31).toUInt32).toInt32) &&& (3 : Int32))), .unset] [(.int (i0 &&& (2147483647 : Int32)))])) rfl (by rw [hml]; rfl) (argsL := [(.int (i0 &&& (2147483647 : Int32)))]) (rest := []) (lenOf pd__I_Ljava_lang_Integer_ rfl) rfl (by show 2 * 0 + _ ≤ _; exact Nat.le_of_eq rfl) (hb hby at_171) (fun _ _ => ⟨rfl, rfl, (by decide : 2 + 1 ≤ _), (by decide : 4 + 1 ≤ _)⟩)
          dsimp only [Pt.U, Pt.locs, Pt.cells, Pt.slots] at X12 l12 y12 z12 st12 hQ12
          subst l12 y12 z12
          obtain ⟨N12, K12, r12, rfl, E_r12⟩ := hQ12
          refine own_st (st12) ?_
          have O0'12 := O0'4.keep K12 all0
          have A1'12 := A1'4.keep K12
          have Fp2'12 := Fp2'4.keep K12 nin0
          have Ft2'12 := Ft2'4.keep K12 nin0
          have A3'12 := A3'4.keep K12
          have Fp4'12 := Fp4.keep K12 nin0
          have Ft4'12 := Ft4.keep K12 nin0
          have Z12 : n0 ≤ T12.heap.size := Nat.le_trans Z4 K12.1
          have N12a := Fr.app N4a N12
          show own_Fin p.tables e below _ (T12.setTop (mkF m 174 #[.val (.int i0), .val (.long i1), .second, .val (.int i2), .val (.long i3), .second, .val (.int i4), .val (.int (i0 &&& (2147483647 : Int32))), .val (.long (i1 &&& (9223372036854775807 : Int64))), .second, .val (.int PP2), .val (.long TT2), .second, .val (.ref b1), .val (.ref b3), .val (.int (((i4.toUInt32 >>> ((2 : Int32) &&& 31).toUInt32).toInt32) &&& (3 : Int32))), .unset] [(.ref r12)]))
          refine own_st (fun t k => XS.astore X12.here hx rfl (hb hby at_174) rfl rfl (l' := #[.val (.int i0), .val (.long i1), .second, .val (.int i2), .val (.long i3), .second, .val (.int i4), .val (.int (i0 &&& (2147483647 : Int32))), .val (.long (i1 &&& (9223372036854775807 : Int64))), .second, .val (.int PP2), .val (.long TT2), .second, .val (.ref b1), .val (.ref b3), .val (.int (((i4.toUInt32 >>> ((2 : Int32) &&& 31).toUInt32).toInt32) &&& (3 : Int32))), .val (.ref r12)]) rfl k) ?_
          show own_Fin p.tables e below _ (T12.setTop (mkF m 176 #[.val (.int i0), .val (.long i1), .second, .val (.int i2), .val (.long i3), .second, .val (.int i4), .val (.int (i0 &&& (2147483647 : Int32))), .val (.long (i1 &&& (9223372036854775807 : Int64))), .second, .val (.int PP2), .val (.long TT2), .second, .val (.ref b1), .val (.ref b3), .val (.int (((i4.toUInt32 >>> ((2 : Int32) &&& 31).toUInt32).toInt32) &&& (3 : Int32))), .val (.ref r12)] []))
          refine own_st (fun t k => XS.aload X12.here hx rfl (hb hby at_176) rfl rfl k) ?_
          show own_Fin p.tables e below _ (T12.setTop (mkF m 178 #[.val (.int i0), .val (.long i1), .second, .val (.int i2), .val (.long i3), .second, .val (.int i4), .val (.int (i0 &&& (2147483647 : Int32))), .val (.long (i1 &&& (9223372036854775807 : Int64))), .second, .val (.int PP2), .val (.long TT2), .second, .val (.ref b1), .val (.ref b3), .val (.int (((i4.toUInt32 >>> ((2 : Int32) &&& 31).toUInt32).toInt32) &&& (3 : Int32))), .val (.ref r12)] [(.ref b1)]))
          refine own_st (fun t k => XS.aload X12.here hx rfl (hb hby at_178) rfl rfl k) ?_
          show own_Fin p.tables e below _ (T12.setTop (mkF m 180 #[.val (.int i0), .val (.long i1), .second, .val (.int i2), .val (.long i3), .second, .val (.int i4), .val (.int (i0 &&& (2147483647 : Int32))), .val (.long (i1 &&& (9223372036854775807 : Int64))), .second, .val (.int PP2), .val (.long TT2), .second, .val (.ref b1), .val (.ref b3), .val (.int (((i4.toUInt32 >>> ((2 : Int32) &&& 31).toUInt32).toInt32) &&& (3 : Int32))), .val (.ref r12)] [(.ref r12), (.ref b1)]))
          obtain ⟨cq13, kq13, qa13, qb13, qc13⟩ := isOf hZ rfl A1'12
          obtain ⟨_, _, ⟨T13, L13, k13, n13⟩, -, X13, ⟨Lc13, hQ13, l13, y13, z13⟩, st13⟩ := X12.virtualBack hx (y := (⟨"com/example/lugar/lugar/InhibitorArc", "equals", "(Ljava/lang/Object;)Z"⟩ : MethodName)) (z := (⟨"com/example/lugar/lugar/InhibitorArc", "equals", "(Ljava/lang/Object;)Z"⟩ : MethodName)) hown (mvT hZ (hw _ (List.mem_of_getElem? (i := 15) rfl))) (mvT hZ (hw _ (List.mem_of_getElem? (i := 16) rfl))) (notFace_of_selects (args := #[]) (mvT hZ (hw _ (List.mem_of_getElem? (i := 18) rfl)))) (mvT hZ (hw _ (List.mem_of_getElem? (i := 18) rfl))) (mvT hZ (hw _ (List.mem_of_getElem? (i := 17) rfl))) (by decide) (backOf (W := 0) (rmE3 l Z a0 hw [] b1 r12 T12.heap n0 Z12 E_r12) hZ (hw _ (List.mem_of_getElem? (i := 19) rfl)) (hw _ (List.mem_of_getElem? (i := 4) rfl)) (by decide) (by decide)) qa13 qc13 (g := (mkF m 180 #[.val (.int i0), .val (.long i1), .second, .val (.int i2), .val (.long i3), .second, .val (.int i4), .val (.int (i0 &&& (2147483647 : Int32))), .val (.long (i1 &&& (9223372036854775807 : Int64))), .second, .val (.int PP2), .val (.long TT2), .second, .val (.ref b1), .val (.ref b3), .val (.int (((i4.toUInt32 >>> ((2 : Int32) &&& 31).toUInt32).toInt32) &&& (3 : Int32))), .val (.ref r12)] [(.ref r12), (.ref b1)])) rfl (by rw [hml]; rfl) (Steps.refl _) (argsL := [(.ref r12)]) (rest := []) (lenOf pd__Ljava_lang_Object__Z rfl) rfl (by show 2 * 0 + _ ≤ _; exact Nat.le_of_eq rfl) (hb hby at_180) (fun _ _ => ⟨rfl, rfl, (by decide : 3 + 0 ≤ _), (by decide : 5 + 0 ≤ _)⟩)
          dsimp only [Pt.U, Pt.locs, Pt.cells, Pt.slots] at X13 l13 y13 z13 st13 hQ13
          subst l13 y13 z13
          obtain ⟨rfl, N13, q13⟩ := hQ13
          refine own_st (fun t k => st13.trans k) ?_
          have N13a := Fr.app N12a N13
          show own_Fin p.tables e below _ (T13.setTop (mkF m 183 #[.val (.int i0), .val (.long i1), .second, .val (.int i2), .val (.long i3), .second, .val (.int i4), .val (.int (i0 &&& (2147483647 : Int32))), .val (.long (i1 &&& (9223372036854775807 : Int64))), .second, .val (.int PP2), .val (.long TT2), .second, .val (.ref b1), .val (.ref b3), .val (.int (((i4.toUInt32 >>> ((2 : Int32) &&& 31).toUInt32).toInt32) &&& (3 : Int32))), .val (.ref r12)] [(.int (0 : Int32))]))
          refine own_st (fun t k => XS.ifNo X13.here hx rfl (hb hby at_183) rfl (XT.i0_ne_f (by decide)) k) ?_
          show own_Fin p.tables e below _ (T13.setTop (mkF m 186 #[.val (.int i0), .val (.long i1), .second, .val (.int i2), .val (.long i3), .second, .val (.int i4), .val (.int (i0 &&& (2147483647 : Int32))), .val (.long (i1 &&& (9223372036854775807 : Int64))), .second, .val (.int PP2), .val (.long TT2), .second, .val (.ref b1), .val (.ref b3), .val (.int (((i4.toUInt32 >>> ((2 : Int32) &&& 31).toUInt32).toInt32) &&& (3 : Int32))), .val (.ref r12)] []))
          refine own_st (fun t k => XS.iconst X13.here hx rfl (hb hby at_186) k) ?_
          show own_Fin p.tables e below _ (T13.setTop (mkF m 187 #[.val (.int i0), .val (.long i1), .second, .val (.int i2), .val (.long i3), .second, .val (.int i4), .val (.int (i0 &&& (2147483647 : Int32))), .val (.long (i1 &&& (9223372036854775807 : Int64))), .second, .val (.int PP2), .val (.long TT2), .second, .val (.ref b1), .val (.ref b3), .val (.int (((i4.toUInt32 >>> ((2 : Int32) &&& 31).toUInt32).toInt32) &&& (3 : Int32))), .val (.ref r12)] [(.int (1 : Int32))]))
          refine own_st (fun t k => XS.goto X13.here hx rfl (pc0 := 187) (pc' := 191) rfl (hb hby at_187) (by decide) (by decide) k) ?_
          show own_Fin p.tables e below _ (T13.setTop (mkF m 191 #[.val (.int i0), .val (.long i1), .second, .val (.int i2), .val (.long i3), .second, .val (.int i4), .val (.int (i0 &&& (2147483647 : Int32))), .val (.long (i1 &&& (9223372036854775807 : Int64))), .second, .val (.int PP2), .val (.long TT2), .second, .val (.ref b1), .val (.ref b3), .val (.int (((i4.toUInt32 >>> ((2 : Int32) &&& 31).toUInt32).toInt32) &&& (3 : Int32))), .val (.ref r12)] [(.int (1 : Int32))]))
          obtain ⟨fs, hr, hrun, hended, hW, hsame⟩ := X13.leave (v := (some (.int (1 : Int32)))) (fun h => by rw [Bd.returns] at h; cases h)
          refine ⟨_, _, retN X13 hx (t := .boolean) Bd.returns (by simp) (hb hby at_191) hr, hrun, hended, _, _, rfl, ?_, ⟨_, rfl⟩, hW, hsame.mono (by decide) (by decide)⟩
          show Q0 Z i0 i1 i2 i3 i4 h0 n0 _ T13.heap _
          rw [q13]
          exact ⟨rfl, N13a⟩
        · have _ := d2
          refine own_st (fun t k => XS.icmpYes X4.here hx rfl (pc0 := 166) (pc' := 192) rfl (hb hby at_166) rfl (XT.ii_ne_t d2) (by decide) (by decide) k) ?_
          show own_Fin p.tables e below _ (T4.setTop (mkF m 192 #[.val (.int i0), .val (.long i1), .second, .val (.int i2), .val (.long i3), .second, .val (.int i4), .val (.int (i0 &&& (2147483647 : Int32))), .val (.long (i1 &&& (9223372036854775807 : Int64))), .second, .val (.int PP2), .val (.long TT2), .second, .val (.ref b1), .val (.ref b3), .val (.int (((i4.toUInt32 >>> ((2 : Int32) &&& 31).toUInt32).toInt32) &&& (3 : Int32))), .unset] []))
          refine own_st (fun t k => XS.aload X4.here hx rfl (hb hby at_192) rfl rfl k) ?_
          show own_Fin p.tables e below _ (T4.setTop (mkF m 194 #[.val (.int i0), .val (.long i1), .second, .val (.int i2), .val (.long i3), .second, .val (.int i4), .val (.int (i0 &&& (2147483647 : Int32))), .val (.long (i1 &&& (9223372036854775807 : Int64))), .second, .val (.int PP2), .val (.long TT2), .second, .val (.ref b1), .val (.ref b3), .val (.int (((i4.toUInt32 >>> ((2 : Int32) &&& 31).toUInt32).toInt32) &&& (3 : Int32))), .unset] [(.ref b1)]))
          refine own_st (fun t k => XS.aload X4.here hx rfl (hb hby at_194) rfl rfl k) ?_
          show own_Fin p.tables e below _ (T4.setTop (mkF m 196 #[.val (.int i0), .val (.long i1), .second, .val (.int i2), .val (.long i3), .second, .val (.int i4), .val (.int (i0 &&& (2147483647 : Int32))), .val (.long (i1 &&& (9223372036854775807 : Int64))), .second, .val (.int PP2), .val (.long TT2), .second, .val (.ref b1), .val (.ref b3), .val (.int (((i4.toUInt32 >>> ((2 : Int32) &&& 31).toUInt32).toInt32) &&& (3 : Int32))), .unset] [(.ref b1), (.ref b1)]))
          obtain ⟨cq14, kq14, qa14, qb14, qc14⟩ := isOf hZ rfl A1'4
          obtain ⟨_, _, ⟨T14, L14, k14, n14⟩, -, X14, ⟨Lc14, hQ14, l14, y14, z14⟩, st14⟩ := X4.virtualBack hx (y := (⟨"com/example/lugar/lugar/InhibitorArc", "equals", "(Ljava/lang/Object;)Z"⟩ : MethodName)) (z := (⟨"com/example/lugar/lugar/InhibitorArc", "equals", "(Ljava/lang/Object;)Z"⟩ : MethodName)) hown (mvT hZ (hw _ (List.mem_of_getElem? (i := 15) rfl))) (mvT hZ (hw _ (List.mem_of_getElem? (i := 16) rfl))) (notFace_of_selects (args := #[]) (mvT hZ (hw _ (List.mem_of_getElem? (i := 18) rfl)))) (mvT hZ (hw _ (List.mem_of_getElem? (i := 18) rfl))) (mvT hZ (hw _ (List.mem_of_getElem? (i := 17) rfl))) (by decide) (backOf (W := 0) (rmE1 l Z a0 hw [] b1 (i0 &&& (2147483647 : Int32)) (i1 &&& (9223372036854775807 : Int64)) b1 (i0 &&& (2147483647 : Int32)) (i1 &&& (9223372036854775807 : Int64)) T4.heap n0 Z4 Fp2'4 Ft2'4 Fp2'4 Ft2'4 A1'4) hZ (hw _ (List.mem_of_getElem? (i := 19) rfl)) (hw _ (List.mem_of_getElem? (i := 4) rfl)) (by decide) (by decide)) qa14 qc14 (g := (mkF m 196 #[.val (.int i0), .val (.long i1), .second, .val (.int i2), .val (.long i3), .second, .val (.int i4), .val (.int (i0 &&& (2147483647 : Int32))), .val (.long (i1 &&& (9223372036854775807 : Int64))), .second, .val (.int PP2), .val (.long TT2), .second, .val (.ref b1), .val (.ref b3), .val (.int (((i4.toUInt32 >>> ((2 : Int32) &&& 31).toUInt32).toInt32) &&& (3 : Int32))), .unset] [(.ref b1), (.ref b1)])) rfl (by rw [hml]; rfl) (Steps.refl _) (argsL := [(.ref b1)]) (rest := []) (lenOf pd__Ljava_lang_Object__Z rfl) rfl (by show 2 * 0 + _ ≤ _; exact Nat.le_of_eq rfl) (hb hby at_196) (fun _ _ => ⟨rfl, rfl, (by decide : 2 + 0 ≤ _), (by decide : 4 + 0 ≤ _)⟩)
          dsimp only [Pt.U, Pt.locs, Pt.cells, Pt.slots] at X14 l14 y14 z14 st14 hQ14
          subst l14 y14 z14
          obtain ⟨rfl, N14, q14⟩ := hQ14
          refine own_st (fun t k => st14.trans k) ?_
          have N14a := Fr.app N4a N14
          show own_Fin p.tables e below _ (T14.setTop (mkF m 199 #[.val (.int i0), .val (.long i1), .second, .val (.int i2), .val (.long i3), .second, .val (.int i4), .val (.int (i0 &&& (2147483647 : Int32))), .val (.long (i1 &&& (9223372036854775807 : Int64))), .second, .val (.int PP2), .val (.long TT2), .second, .val (.ref b1), .val (.ref b3), .val (.int (((i4.toUInt32 >>> ((2 : Int32) &&& 31).toUInt32).toInt32) &&& (3 : Int32))), .unset] [(.int (if (i0 &&& (2147483647 : Int32)) = (i0 &&& (2147483647 : Int32)) ∧ (i1 &&& (9223372036854775807 : Int64)) = (i1 &&& (9223372036854775807 : Int64)) then 1 else 0))]))
          rw [if_pos (⟨rfl, rfl⟩ : (i0 &&& (2147483647 : Int32)) = (i0 &&& (2147483647 : Int32)) ∧ (i1 &&& (9223372036854775807 : Int64)) = (i1 &&& (9223372036854775807 : Int64)))]
          show own_Fin p.tables e below _ (T14.setTop (mkF m 199 #[.val (.int i0), .val (.long i1), .second, .val (.int i2), .val (.long i3), .second, .val (.int i4), .val (.int (i0 &&& (2147483647 : Int32))), .val (.long (i1 &&& (9223372036854775807 : Int64))), .second, .val (.int PP2), .val (.long TT2), .second, .val (.ref b1), .val (.ref b3), .val (.int (((i4.toUInt32 >>> ((2 : Int32) &&& 31).toUInt32).toInt32) &&& (3 : Int32))), .unset] [(.int (1 : Int32))]))
          obtain ⟨fs, hr, hrun, hended, hW, hsame⟩ := X14.leave (v := (some (.int (1 : Int32)))) (fun h => by rw [Bd.returns] at h; cases h)
          refine ⟨_, _, retN X14 hx (t := .boolean) Bd.returns (by simp) (hb hby at_199) hr, hrun, hended, _, _, rfl, ?_, ⟨_, rfl⟩, hW, hsame.mono (by decide) (by decide)⟩
          show Q0 Z i0 i1 i2 i3 i4 h0 n0 _ T14.heap _
          rw [q14]
          exact ⟨rfl, N14a⟩
  rcases Decidable.em ((i4 &&& (1 : Int32)) = 0) with s1 | s1
  · have _ := s1
    refine own_st (fun t k => XS.ifYes X0.here hx rfl (pc0 := 17) (pc' := 25) rfl (hb hby at_17) rfl (XT.i0_eq_t s1) (by decide) (by decide) k) ?_
    show own_Fin p.tables e below _ (s₁.setTop (mkF m 25 #[.val (.int i0), .val (.long i1), .second, .val (.int i2), .val (.long i3), .second, .val (.int i4), .val (.int (i0 &&& (2147483647 : Int32))), .val (.long (i1 &&& (9223372036854775807 : Int64))), .second, .unset, .unset, .unset, .unset, .unset, .unset, .unset] []))
    refine own_st (fun t k => XS.iloadN X0.here hx rfl (hb hby at_25) rfl k) ?_
    show own_Fin p.tables e below _ (s₁.setTop (mkF m 26 #[.val (.int i0), .val (.long i1), .second, .val (.int i2), .val (.long i3), .second, .val (.int i4), .val (.int (i0 &&& (2147483647 : Int32))), .val (.long (i1 &&& (9223372036854775807 : Int64))), .second, .unset, .unset, .unset, .unset, .unset, .unset, .unset] [(.int i2)]))
    refine own_st (fun t k => X0.ldcI hx hown (mvT hZ (hw _ (List.mem_of_getElem? (i := 0) rfl))) rfl (hb hby at_26) k) ?_
    show own_Fin p.tables e below _ (s₁.setTop (mkF m 28 #[.val (.int i0), .val (.long i1), .second, .val (.int i2), .val (.long i3), .second, .val (.int i4), .val (.int (i0 &&& (2147483647 : Int32))), .val (.long (i1 &&& (9223372036854775807 : Int64))), .second, .unset, .unset, .unset, .unset, .unset, .unset, .unset] [(.int (2147483647 : Int32)), (.int i2)]))
    refine own_st (fun t k => XS.iand X0.here hx rfl (hb hby at_28) rfl k) ?_
    show own_Fin p.tables e below _ (s₁.setTop (mkF m 29 #[.val (.int i0), .val (.long i1), .second, .val (.int i2), .val (.long i3), .second, .val (.int i4), .val (.int (i0 &&& (2147483647 : Int32))), .val (.long (i1 &&& (9223372036854775807 : Int64))), .second, .unset, .unset, .unset, .unset, .unset, .unset, .unset] [(.int (i2 &&& (2147483647 : Int32)))]))
    refine own_st (fun t k => XS.istore X0.here hx rfl (hb hby at_29) rfl (l' := #[.val (.int i0), .val (.long i1), .second, .val (.int i2), .val (.long i3), .second, .val (.int i4), .val (.int (i0 &&& (2147483647 : Int32))), .val (.long (i1 &&& (9223372036854775807 : Int64))), .second, .val (.int (i2 &&& (2147483647 : Int32))), .unset, .unset, .unset, .unset, .unset, .unset]) rfl k) ?_
    show own_Fin p.tables e below _ (s₁.setTop (mkF m 31 #[.val (.int i0), .val (.long i1), .second, .val (.int i2), .val (.long i3), .second, .val (.int i4), .val (.int (i0 &&& (2147483647 : Int32))), .val (.long (i1 &&& (9223372036854775807 : Int64))), .second, .val (.int (i2 &&& (2147483647 : Int32))), .unset, .unset, .unset, .unset, .unset, .unset] []))
    refine own_st (fun t k => XS.iload X0.here hx rfl (hb hby at_31) rfl k) ?_
    show own_Fin p.tables e below _ (s₁.setTop (mkF m 33 #[.val (.int i0), .val (.long i1), .second, .val (.int i2), .val (.long i3), .second, .val (.int i4), .val (.int (i0 &&& (2147483647 : Int32))), .val (.long (i1 &&& (9223372036854775807 : Int64))), .second, .val (.int (i2 &&& (2147483647 : Int32))), .unset, .unset, .unset, .unset, .unset, .unset] [(.int i4)]))
    refine own_st (fun t k => XS.iconst X0.here hx rfl (hb hby at_33) k) ?_
    show own_Fin p.tables e below _ (s₁.setTop (mkF m 34 #[.val (.int i0), .val (.long i1), .second, .val (.int i2), .val (.long i3), .second, .val (.int i4), .val (.int (i0 &&& (2147483647 : Int32))), .val (.long (i1 &&& (9223372036854775807 : Int64))), .second, .val (.int (i2 &&& (2147483647 : Int32))), .unset, .unset, .unset, .unset, .unset, .unset] [(.int (2 : Int32)), (.int i4)]))
    refine own_st (fun t k => XS.iand X0.here hx rfl (hb hby at_34) rfl k) ?_
    show own_Fin p.tables e below _ (s₁.setTop (mkF m 35 #[.val (.int i0), .val (.long i1), .second, .val (.int i2), .val (.long i3), .second, .val (.int i4), .val (.int (i0 &&& (2147483647 : Int32))), .val (.long (i1 &&& (9223372036854775807 : Int64))), .second, .val (.int (i2 &&& (2147483647 : Int32))), .unset, .unset, .unset, .unset, .unset, .unset] [(.int (i4 &&& (2 : Int32)))]))
    rcases Decidable.em ((i4 &&& (2 : Int32)) = 0) with s2 | s2
    · have _ := s2
      refine own_st (fun t k => XS.ifYes X0.here hx rfl (pc0 := 35) (pc' := 43) rfl (hb hby at_35) rfl (XT.i0_eq_t s2) (by decide) (by decide) k) ?_
      show own_Fin p.tables e below _ (s₁.setTop (mkF m 43 #[.val (.int i0), .val (.long i1), .second, .val (.int i2), .val (.long i3), .second, .val (.int i4), .val (.int (i0 &&& (2147483647 : Int32))), .val (.long (i1 &&& (9223372036854775807 : Int64))), .second, .val (.int (i2 &&& (2147483647 : Int32))), .unset, .unset, .unset, .unset, .unset, .unset] []))
      refine own_st (fun t k => XS.lload X0.here hx rfl (hb hby at_43) rfl k) ?_
      show own_Fin p.tables e below _ (s₁.setTop (mkF m 45 #[.val (.int i0), .val (.long i1), .second, .val (.int i2), .val (.long i3), .second, .val (.int i4), .val (.int (i0 &&& (2147483647 : Int32))), .val (.long (i1 &&& (9223372036854775807 : Int64))), .second, .val (.int (i2 &&& (2147483647 : Int32))), .unset, .unset, .unset, .unset, .unset, .unset] [(.long i3)]))
      refine own_st (fun t k => X0.ldc2J hx hown (mvT hZ (hw _ (List.mem_of_getElem? (i := 1) rfl))) rfl (hb hby at_45) k) ?_
      show own_Fin p.tables e below _ (s₁.setTop (mkF m 48 #[.val (.int i0), .val (.long i1), .second, .val (.int i2), .val (.long i3), .second, .val (.int i4), .val (.int (i0 &&& (2147483647 : Int32))), .val (.long (i1 &&& (9223372036854775807 : Int64))), .second, .val (.int (i2 &&& (2147483647 : Int32))), .unset, .unset, .unset, .unset, .unset, .unset] [(.long (9223372036854775807 : Int64)), (.long i3)]))
      refine own_st (fun t k => XS.land X0.here hx rfl (hb hby at_48) rfl k) ?_
      show own_Fin p.tables e below _ (s₁.setTop (mkF m 49 #[.val (.int i0), .val (.long i1), .second, .val (.int i2), .val (.long i3), .second, .val (.int i4), .val (.int (i0 &&& (2147483647 : Int32))), .val (.long (i1 &&& (9223372036854775807 : Int64))), .second, .val (.int (i2 &&& (2147483647 : Int32))), .unset, .unset, .unset, .unset, .unset, .unset] [(.long (i3 &&& (9223372036854775807 : Int64)))]))
      refine own_st (fun t k => XS.lstore X0.here hx rfl (hb hby at_49) rfl (l' := #[.val (.int i0), .val (.long i1), .second, .val (.int i2), .val (.long i3), .second, .val (.int i4), .val (.int (i0 &&& (2147483647 : Int32))), .val (.long (i1 &&& (9223372036854775807 : Int64))), .second, .val (.int (i2 &&& (2147483647 : Int32))), .val (.long (i3 &&& (9223372036854775807 : Int64))), .second, .unset, .unset, .unset, .unset]) rfl k) ?_
      show own_Fin p.tables e below _ (s₁.setTop (mkF m 51 #[.val (.int i0), .val (.long i1), .second, .val (.int i2), .val (.long i3), .second, .val (.int i4), .val (.int (i0 &&& (2147483647 : Int32))), .val (.long (i1 &&& (9223372036854775807 : Int64))), .second, .val (.int (i2 &&& (2147483647 : Int32))), .val (.long (i3 &&& (9223372036854775807 : Int64))), .second, .unset, .unset, .unset, .unset] []))
      exact tail _ _ (own_m32 i2) (own_m64 i3)
    · have _ := s2
      refine own_st (fun t k => XS.ifNo X0.here hx rfl (hb hby at_35) rfl (XT.i0_eq_f s2) k) ?_
      show own_Fin p.tables e below _ (s₁.setTop (mkF m 38 #[.val (.int i0), .val (.long i1), .second, .val (.int i2), .val (.long i3), .second, .val (.int i4), .val (.int (i0 &&& (2147483647 : Int32))), .val (.long (i1 &&& (9223372036854775807 : Int64))), .second, .val (.int (i2 &&& (2147483647 : Int32))), .unset, .unset, .unset, .unset, .unset, .unset] []))
      refine own_st (fun t k => XS.lload X0.here hx rfl (hb hby at_38) rfl k) ?_
      show own_Fin p.tables e below _ (s₁.setTop (mkF m 40 #[.val (.int i0), .val (.long i1), .second, .val (.int i2), .val (.long i3), .second, .val (.int i4), .val (.int (i0 &&& (2147483647 : Int32))), .val (.long (i1 &&& (9223372036854775807 : Int64))), .second, .val (.int (i2 &&& (2147483647 : Int32))), .unset, .unset, .unset, .unset, .unset, .unset] [(.long (i1 &&& (9223372036854775807 : Int64)))]))
      refine own_st (fun t k => XS.goto X0.here hx rfl (pc0 := 40) (pc' := 49) rfl (hb hby at_40) (by decide) (by decide) k) ?_
      show own_Fin p.tables e below _ (s₁.setTop (mkF m 49 #[.val (.int i0), .val (.long i1), .second, .val (.int i2), .val (.long i3), .second, .val (.int i4), .val (.int (i0 &&& (2147483647 : Int32))), .val (.long (i1 &&& (9223372036854775807 : Int64))), .second, .val (.int (i2 &&& (2147483647 : Int32))), .unset, .unset, .unset, .unset, .unset, .unset] [(.long (i1 &&& (9223372036854775807 : Int64)))]))
      refine own_st (fun t k => XS.lstore X0.here hx rfl (hb hby at_49) rfl (l' := #[.val (.int i0), .val (.long i1), .second, .val (.int i2), .val (.long i3), .second, .val (.int i4), .val (.int (i0 &&& (2147483647 : Int32))), .val (.long (i1 &&& (9223372036854775807 : Int64))), .second, .val (.int (i2 &&& (2147483647 : Int32))), .val (.long (i1 &&& (9223372036854775807 : Int64))), .second, .unset, .unset, .unset, .unset]) rfl k) ?_
      show own_Fin p.tables e below _ (s₁.setTop (mkF m 51 #[.val (.int i0), .val (.long i1), .second, .val (.int i2), .val (.long i3), .second, .val (.int i4), .val (.int (i0 &&& (2147483647 : Int32))), .val (.long (i1 &&& (9223372036854775807 : Int64))), .second, .val (.int (i2 &&& (2147483647 : Int32))), .val (.long (i1 &&& (9223372036854775807 : Int64))), .second, .unset, .unset, .unset, .unset] []))
      exact tail _ _ (own_m32 i2) (own_m64 i1)
  · have _ := s1
    refine own_st (fun t k => XS.ifNo X0.here hx rfl (hb hby at_17) rfl (XT.i0_eq_f s1) k) ?_
    show own_Fin p.tables e below _ (s₁.setTop (mkF m 20 #[.val (.int i0), .val (.long i1), .second, .val (.int i2), .val (.long i3), .second, .val (.int i4), .val (.int (i0 &&& (2147483647 : Int32))), .val (.long (i1 &&& (9223372036854775807 : Int64))), .second, .unset, .unset, .unset, .unset, .unset, .unset, .unset] []))
    refine own_st (fun t k => XS.iload X0.here hx rfl (hb hby at_20) rfl k) ?_
    show own_Fin p.tables e below _ (s₁.setTop (mkF m 22 #[.val (.int i0), .val (.long i1), .second, .val (.int i2), .val (.long i3), .second, .val (.int i4), .val (.int (i0 &&& (2147483647 : Int32))), .val (.long (i1 &&& (9223372036854775807 : Int64))), .second, .unset, .unset, .unset, .unset, .unset, .unset, .unset] [(.int (i0 &&& (2147483647 : Int32)))]))
    refine own_st (fun t k => XS.goto X0.here hx rfl (pc0 := 22) (pc' := 29) rfl (hb hby at_22) (by decide) (by decide) k) ?_
    show own_Fin p.tables e below _ (s₁.setTop (mkF m 29 #[.val (.int i0), .val (.long i1), .second, .val (.int i2), .val (.long i3), .second, .val (.int i4), .val (.int (i0 &&& (2147483647 : Int32))), .val (.long (i1 &&& (9223372036854775807 : Int64))), .second, .unset, .unset, .unset, .unset, .unset, .unset, .unset] [(.int (i0 &&& (2147483647 : Int32)))]))
    refine own_st (fun t k => XS.istore X0.here hx rfl (hb hby at_29) rfl (l' := #[.val (.int i0), .val (.long i1), .second, .val (.int i2), .val (.long i3), .second, .val (.int i4), .val (.int (i0 &&& (2147483647 : Int32))), .val (.long (i1 &&& (9223372036854775807 : Int64))), .second, .val (.int (i0 &&& (2147483647 : Int32))), .unset, .unset, .unset, .unset, .unset, .unset]) rfl k) ?_
    show own_Fin p.tables e below _ (s₁.setTop (mkF m 31 #[.val (.int i0), .val (.long i1), .second, .val (.int i2), .val (.long i3), .second, .val (.int i4), .val (.int (i0 &&& (2147483647 : Int32))), .val (.long (i1 &&& (9223372036854775807 : Int64))), .second, .val (.int (i0 &&& (2147483647 : Int32))), .unset, .unset, .unset, .unset, .unset, .unset] []))
    refine own_st (fun t k => XS.iload X0.here hx rfl (hb hby at_31) rfl k) ?_
    show own_Fin p.tables e below _ (s₁.setTop (mkF m 33 #[.val (.int i0), .val (.long i1), .second, .val (.int i2), .val (.long i3), .second, .val (.int i4), .val (.int (i0 &&& (2147483647 : Int32))), .val (.long (i1 &&& (9223372036854775807 : Int64))), .second, .val (.int (i0 &&& (2147483647 : Int32))), .unset, .unset, .unset, .unset, .unset, .unset] [(.int i4)]))
    refine own_st (fun t k => XS.iconst X0.here hx rfl (hb hby at_33) k) ?_
    show own_Fin p.tables e below _ (s₁.setTop (mkF m 34 #[.val (.int i0), .val (.long i1), .second, .val (.int i2), .val (.long i3), .second, .val (.int i4), .val (.int (i0 &&& (2147483647 : Int32))), .val (.long (i1 &&& (9223372036854775807 : Int64))), .second, .val (.int (i0 &&& (2147483647 : Int32))), .unset, .unset, .unset, .unset, .unset, .unset] [(.int (2 : Int32)), (.int i4)]))
    refine own_st (fun t k => XS.iand X0.here hx rfl (hb hby at_34) rfl k) ?_
    show own_Fin p.tables e below _ (s₁.setTop (mkF m 35 #[.val (.int i0), .val (.long i1), .second, .val (.int i2), .val (.long i3), .second, .val (.int i4), .val (.int (i0 &&& (2147483647 : Int32))), .val (.long (i1 &&& (9223372036854775807 : Int64))), .second, .val (.int (i0 &&& (2147483647 : Int32))), .unset, .unset, .unset, .unset, .unset, .unset] [(.int (i4 &&& (2 : Int32)))]))
    rcases Decidable.em ((i4 &&& (2 : Int32)) = 0) with s2 | s2
    · have _ := s2
      refine own_st (fun t k => XS.ifYes X0.here hx rfl (pc0 := 35) (pc' := 43) rfl (hb hby at_35) rfl (XT.i0_eq_t s2) (by decide) (by decide) k) ?_
      show own_Fin p.tables e below _ (s₁.setTop (mkF m 43 #[.val (.int i0), .val (.long i1), .second, .val (.int i2), .val (.long i3), .second, .val (.int i4), .val (.int (i0 &&& (2147483647 : Int32))), .val (.long (i1 &&& (9223372036854775807 : Int64))), .second, .val (.int (i0 &&& (2147483647 : Int32))), .unset, .unset, .unset, .unset, .unset, .unset] []))
      refine own_st (fun t k => XS.lload X0.here hx rfl (hb hby at_43) rfl k) ?_
      show own_Fin p.tables e below _ (s₁.setTop (mkF m 45 #[.val (.int i0), .val (.long i1), .second, .val (.int i2), .val (.long i3), .second, .val (.int i4), .val (.int (i0 &&& (2147483647 : Int32))), .val (.long (i1 &&& (9223372036854775807 : Int64))), .second, .val (.int (i0 &&& (2147483647 : Int32))), .unset, .unset, .unset, .unset, .unset, .unset] [(.long i3)]))
      refine own_st (fun t k => X0.ldc2J hx hown (mvT hZ (hw _ (List.mem_of_getElem? (i := 1) rfl))) rfl (hb hby at_45) k) ?_
      show own_Fin p.tables e below _ (s₁.setTop (mkF m 48 #[.val (.int i0), .val (.long i1), .second, .val (.int i2), .val (.long i3), .second, .val (.int i4), .val (.int (i0 &&& (2147483647 : Int32))), .val (.long (i1 &&& (9223372036854775807 : Int64))), .second, .val (.int (i0 &&& (2147483647 : Int32))), .unset, .unset, .unset, .unset, .unset, .unset] [(.long (9223372036854775807 : Int64)), (.long i3)]))
      refine own_st (fun t k => XS.land X0.here hx rfl (hb hby at_48) rfl k) ?_
      show own_Fin p.tables e below _ (s₁.setTop (mkF m 49 #[.val (.int i0), .val (.long i1), .second, .val (.int i2), .val (.long i3), .second, .val (.int i4), .val (.int (i0 &&& (2147483647 : Int32))), .val (.long (i1 &&& (9223372036854775807 : Int64))), .second, .val (.int (i0 &&& (2147483647 : Int32))), .unset, .unset, .unset, .unset, .unset, .unset] [(.long (i3 &&& (9223372036854775807 : Int64)))]))
      refine own_st (fun t k => XS.lstore X0.here hx rfl (hb hby at_49) rfl (l' := #[.val (.int i0), .val (.long i1), .second, .val (.int i2), .val (.long i3), .second, .val (.int i4), .val (.int (i0 &&& (2147483647 : Int32))), .val (.long (i1 &&& (9223372036854775807 : Int64))), .second, .val (.int (i0 &&& (2147483647 : Int32))), .val (.long (i3 &&& (9223372036854775807 : Int64))), .second, .unset, .unset, .unset, .unset]) rfl k) ?_
      show own_Fin p.tables e below _ (s₁.setTop (mkF m 51 #[.val (.int i0), .val (.long i1), .second, .val (.int i2), .val (.long i3), .second, .val (.int i4), .val (.int (i0 &&& (2147483647 : Int32))), .val (.long (i1 &&& (9223372036854775807 : Int64))), .second, .val (.int (i0 &&& (2147483647 : Int32))), .val (.long (i3 &&& (9223372036854775807 : Int64))), .second, .unset, .unset, .unset, .unset] []))
      exact tail _ _ (own_m32 i0) (own_m64 i3)
    · have _ := s2
      refine own_st (fun t k => XS.ifNo X0.here hx rfl (hb hby at_35) rfl (XT.i0_eq_f s2) k) ?_
      show own_Fin p.tables e below _ (s₁.setTop (mkF m 38 #[.val (.int i0), .val (.long i1), .second, .val (.int i2), .val (.long i3), .second, .val (.int i4), .val (.int (i0 &&& (2147483647 : Int32))), .val (.long (i1 &&& (9223372036854775807 : Int64))), .second, .val (.int (i0 &&& (2147483647 : Int32))), .unset, .unset, .unset, .unset, .unset, .unset] []))
      refine own_st (fun t k => XS.lload X0.here hx rfl (hb hby at_38) rfl k) ?_
      show own_Fin p.tables e below _ (s₁.setTop (mkF m 40 #[.val (.int i0), .val (.long i1), .second, .val (.int i2), .val (.long i3), .second, .val (.int i4), .val (.int (i0 &&& (2147483647 : Int32))), .val (.long (i1 &&& (9223372036854775807 : Int64))), .second, .val (.int (i0 &&& (2147483647 : Int32))), .unset, .unset, .unset, .unset, .unset, .unset] [(.long (i1 &&& (9223372036854775807 : Int64)))]))
      refine own_st (fun t k => XS.goto X0.here hx rfl (pc0 := 40) (pc' := 49) rfl (hb hby at_40) (by decide) (by decide) k) ?_
      show own_Fin p.tables e below _ (s₁.setTop (mkF m 49 #[.val (.int i0), .val (.long i1), .second, .val (.int i2), .val (.long i3), .second, .val (.int i4), .val (.int (i0 &&& (2147483647 : Int32))), .val (.long (i1 &&& (9223372036854775807 : Int64))), .second, .val (.int (i0 &&& (2147483647 : Int32))), .unset, .unset, .unset, .unset, .unset, .unset] [(.long (i1 &&& (9223372036854775807 : Int64)))]))
      refine own_st (fun t k => XS.lstore X0.here hx rfl (hb hby at_49) rfl (l' := #[.val (.int i0), .val (.long i1), .second, .val (.int i2), .val (.long i3), .second, .val (.int i4), .val (.int (i0 &&& (2147483647 : Int32))), .val (.long (i1 &&& (9223372036854775807 : Int64))), .second, .val (.int (i0 &&& (2147483647 : Int32))), .val (.long (i1 &&& (9223372036854775807 : Int64))), .second, .unset, .unset, .unset, .unset]) rfl k) ?_
      show own_Fin p.tables e below _ (s₁.setTop (mkF m 51 #[.val (.int i0), .val (.long i1), .second, .val (.int i2), .val (.long i3), .second, .val (.int i4), .val (.int (i0 &&& (2147483647 : Int32))), .val (.long (i1 &&& (9223372036854775807 : Int64))), .second, .val (.int (i0 &&& (2147483647 : Int32))), .val (.long (i1 &&& (9223372036854775807 : Int64))), .second, .unset, .unset, .unset, .unset] []))
      exact tail _ _ (own_m32 i0) (own_m64 i1)
theorem own_all {args : Array Value} {s : State} {t : Term} {c : Jvm.Cond} {a : Addr} {cell : Cell} (ht : t.eval args s none [] s = some (.ref a)) (hc : s.arrayAt? a = some cell) (h : (Jvm.Cond.all t c).value args s none s [] = some true) : ∀ i, i < cell.slots.size → c.value args s none s [i] = some true := by
  simp only [Jvm.Cond.value, ht, hc] at h
  revert h
  generalize cell.slots.size = n
  induction n with
  | zero => intro _ i hi; exact absurd hi (Nat.not_lt_zero _)
  | succ n ih =>
    intro h i hi
    rw [List.range_succ, List.foldl_append] at h
    simp only [List.foldl_cons, List.foldl_nil] at h
    split at h
    · rename_i hacc
      rcases Nat.lt_succ_iff_lt_or_eq.mp hi with q | rfl
      · exact ih hacc i q
      · exact h
    · rename_i hno
      exact absurd h hno
theorem own_eqi {args : Array Value} {s : State} {t : Term} {k : Int32} (h : (Jvm.Cond.eq t (.int k)).value args s none s [] = some true) : t.eval args s none [] s = some (.int k) := by
  obtain ⟨x, y, e1, e2, -, -⟩ := cmp_v (Or.inl h)
  have e3 : (Term.int k).eval args s none [] s = some (.int k) := Term.int_eval k
  simp only [Jvm.Cond.value, e1, e3] at h
  cases x <;> simp at h
  rw [e1, h]
set_option maxRecDepth 65536 in
set_option maxHeartbeats 40000000 in
theorem comes_1 {Post : Tables → Env → Array Value → State → Outcome → State → Prop} (hpost : ∀ tb e args s v u, (limb_1_1.after args s (.returned v) u = true ∧ limb_1_2.after args s (.returned v) u = true ∧ True) → FrameEnd s (.returned v) u (Jvm.fieldLocs frame_1_writes args s ++ Jvm.arrayLocs frame_1_arrays args s ++ Jvm.staticLocs frame_1_statics s) 16 128 → Post tb e args s (.returned v) u) :
    ArmFor flags0 classFile x code maxLocals ret World_1 tables_1 room_1 Calls_1 rest_1 Pre_1 Post := by
  intro l hfl _ _ p e ha hc hk s m args below hf hA hF happ hP
  obtain ⟨hcalls, hrest, hpre⟩ := hP
  obtain ⟨-, -, -, hnamed, -, -, -, hat⟩ := (Spec.applies_iff hf).mp happ
  obtain ⟨hg, hn⟩ := and_e (Cond.before_iff.mp (show (Jvm.Cond.and given_1 narrow_1).before args s = true from hpre))
  obtain ⟨g0, gr0⟩ := and_e hg
  obtain ⟨w0, w1, w2, w3, w4, rfl⟩ : ∃ w0 w1 w2 w3 w4 : Value, args = #[w0, w1, w2, w3, w4] := by
    have hs : args.size = 5 := by simpa [Cond.value, given_1] using g0
    obtain ⟨L⟩ := args
    match L, hs with
    | [w0, w1, w2, w3, w4], _ => exact ⟨w0, w1, w2, w3, w4, rfl⟩
  have hw := fun d (hd : d ∈ tables_1) => atoms_spec (ws := Jvm.Cond.code x code maxLocals ret :: tables_1) hat d (List.mem_cons_of_mem _ hd)
  have hfit : Fit s := fun {y c} hc i hi => by
    obtain ⟨ha, rfl⟩ := Array.getElem?_eq_some_iff.mp hc
    have q := List.all_eq_true.mp ((Array.all_eq_true_iff_forall_mem.mp hF) _ (Array.getElem_mem ha)) i (List.mem_range.mpr hi)
    simpa [Array.getElem?_eq_getElem hi] using q
  obtain ⟨ga0, gr1⟩ := and_e gr0
  obtain ⟨i0, ei0⟩ := is_v ga0
  obtain rfl : w0 = (.int i0) := Option.some.inj ei0
  obtain ⟨ga1, gr2⟩ := and_e gr1
  obtain ⟨i1, ei1⟩ := isL_v ga1
  obtain rfl : w1 = (.long i1) := Option.some.inj ei1
  obtain ⟨ga2, gr3⟩ := and_e gr2
  obtain ⟨i2, ei2⟩ := is_v ga2
  obtain rfl : w2 = (.int i2) := Option.some.inj ei2
  obtain ⟨ga3, gr4⟩ := and_e gr3
  obtain ⟨i3, ei3⟩ := isL_v ga3
  obtain rfl : w3 = (.long i3) := Option.some.inj ei3
  obtain ⟨i4, ei4⟩ := is_v gr4
  obtain rfl : w4 = (.int i4) := Option.some.inj ei4
  have hr := atoms_of jdkStatics_1 (show (jdkStatics_1.foldr Jvm.Cond.and restOwn_1).before _ s = true from hrest)
  have hj := fun k d (q : jdkStatics_1[k]? = some d) => Cond.before_iff.mp (hr.1 d (List.mem_of_getElem? q))
  have hj0 := fun k d (q : jdkStatics_1[k]? = some d) => hr.1 d (List.mem_of_getElem? q)
  have Ca : own_Cache s s.heap := by
    obtain ⟨ac, cl, ev, A, le, lt⟩ := own_len (hj 4 _ rfl) (hj 6 _ rfl)
    have sz : cl.slots.size = 256 := by have q := len_toInt lt; rw [le] at q; have : (256 : Int32).toInt = 256 := (by decide); omega
    refine ⟨ac, cl, Sta.start ev (Or.inr ⟨(hw _ (List.mem_of_getElem? (i := 27) rfl)), hj0 2 _ rfl⟩), Sta.start (own_eqi (hj 3 _ rfl)) (Or.inl (hj0 1 _ rfl)), A, sz, fun j hjj => ?_⟩
    have n0 : ¬ j < 0 := fun q => hjj (Or.inl q)
    have q := own_all ev (A.fin (Vm.Alike.refl _)) (hj 7 _ rfl) _ (Nat.lt_of_not_le fun q => hjj (Or.inr q))
    obtain ⟨q1, -⟩ := and_e q
    obtain ⟨r, er⟩ := exa_v q1
    have hs := (elem_in er (show (Term.static "java/lang/Integer$IntegerCache" "cache" "[Ljava/lang/Integer;").eval _ s none [j.toNatClampNeg] s = some (.ref ac) from ev) (idx_at n0) A.1).2
    exact ⟨r, hs, exa_at er q1⟩
  obtain ⟨n, o, h1, h2, h3, _, L, rfl, ⟨rfl, N⟩, hq⟩ := rm0 l s _ hw tables_1 i0 i1 i2 i3 i4 s.heap s.heap.size (Nat.le_refl _) (Old.start s) Ca p e ha hc hk s m _ below hf ((Spec.applies_iff_loose hf).mp happ).1 ⟨rfl, State.Warmed39.refl s, rfl⟩ trivial
  refine ⟨n, _, h1, h2, h3, hpost _ _ _ _ _ _ ⟨Cond.after_iff.mpr rfl, Cond.after_iff.mpr (eq_i res_at (Term.int_eval (1)) rfl), trivial⟩ ⟨hq.1, hq.2.1, (hq.2.2.sift fun y hy => Or.inr (N y hy)).mono (by decide) (by decide)⟩⟩
theorem main_1_1 : Claimed_1_1 := comes_1 fun _ _ _ _ _ _ h hF => ⟨h.1, hF⟩
theorem main_1_2 : Claimed_1_2 := comes_1 fun _ _ _ _ _ _ h hF => ⟨h.2.1, hF⟩
end Jvm.Pilot.@@N@@
namespace Jvm.Pilot.@@N@@
open Jvm Jvm.ClassFile Sem Op Lib Jvm.Free Jvm.Stand Jvm.Pilot.@@N@@.Jvm.D
/-! MADE BY PROGRAM (witnessworld.py) out of the Statement's table words and the real class files: 16 classes; the members and pool entries that the words name. The judged class is class 1, her method 1. -/
namespace start1
open Jvm.ClassFile
def u (s : String) : CpInfo := .utf8 (stringToUtf16 s)
/-- a pool by its gaps: so many unusable entries, then the entry; so many at the end -/
def gap : Nat → List CpInfo → List CpInfo
  | 0, r => r
  | n + 1, r => .unusable :: gap n r
def poolList (es : List (Nat × CpInfo)) (last : Nat) : List CpInfo := es.foldr (fun e r => gap e.1 (e.2 :: r)) (gap last [])
def pool (es : List (Nat × CpInfo)) (last : Nat) : Array CpInfo := ⟨poolList es last⟩
def fileOf (pool : Array CpInfo) (this : Nat) (attrs : Array Attribute := #[]) (ms : Array MethodInfo := #[]) (fl : Nat := 33) (sup : Nat := 0) (ifs : Array Nat := #[]) (fds : Array FieldInfo := #[]) : ClassFile where
  minorVersion := 0
  majorVersion := 65
  constantPool := pool
  accessFlags := fl
  thisClass := this
  superClass := sup
  interfaces := ifs
  fields := fds
  methods := ms
  attributes := attrs
def plain (name : String) (sup : Option ClassId) : Class where
  name := name
  kind := .ordinary
  loader := none
  accessFlags := 33
  super := sup
  interfaces := #[]
  cf := none
  fields := #[]
  methods := #[]
  instanceTypes := #[]
  staticTypes := #[]
  resolved := #[]
  callSites := []
  init := .initialized
  statics := none
  mirror := none

def pool0 : Array CpInfo := pool [(5, u "<init>"), (0, u "()V"), (1, .class_ 10), (1, u "java/lang/Object")] 113

def k0c0 : Code := { maxStack := 0, maxLocals := 1, code := object_method_1_code, exceptionTable := #[], attributes := #[] }
def k0m0 : Method := { name := "<init>", desc := "()V", sig := { parameters := [], returnType := none }, accessFlags := 1, code := some k0c0 }
/-- java/lang/Object -/
def k0 : Class := { plain "java/lang/Object" none with
  accessFlags := 33
  interfaces := #[]
  cf := some (fileOf pool0 8 #[] #[{ accessFlags := 1, nameIndex := 5, descriptorIndex := 6, attributes := #[] }] 33 0 #[] #[])
  fields := #[]
  methods := #[k0m0]
  instanceTypes := #[]
  staticTypes := #[]
  resolved := Array.replicate 124 none
  statics := none }

def pool1 : Array CpInfo := pool [(2, .class_ 4), (1, u "java/lang/Object"), (0, u "<init>"), (0, u "()V"), (0, .integer 2147483647), (0, .long 9223372036854775807), (1, .class_ 11), (0, u "com/example/lugar/lugar/InhibitorArc"), (0, .methodref 10 13), (0, .nameAndType 5 14), (0, u "(IJ)V"), (0, .methodref 10 16), (0, .nameAndType 17 18), (0, u "equals"), (0, u "(Ljava/lang/Object;)Z"), (0, .methodref 20 21), (0, .class_ 22), (0, .nameAndType 23 24), (0, u "java/lang/Integer"), (0, u "valueOf"), (0, u "(I)Ljava/lang/Integer;"), (0, .class_ 26), (0, u "com/example/lugar/lugar/InhibitorArcEqualsPinLaw"), (2, u "law"), (0, u "(IJIJI)Z")] 3

def k1m0 : Method := { name := "<init>", desc := "()V", sig := { parameters := [], returnType := none }, accessFlags := 1, code := none }
def k1c1 : Code := { maxStack := 5, maxLocals := 17, code := code, exceptionTable := #[], attributes := #[] }
def k1m1 : Method := { name := "law", desc := "(IJIJI)Z", sig := { parameters := [.int, .long, .int, .long, .int], returnType := some .boolean }, accessFlags := 9, code := some k1c1 }
/-- com/example/lugar/lugar/InhibitorArcEqualsPinLaw -/
def k1 : Class := { plain "com/example/lugar/lugar/InhibitorArcEqualsPinLaw" (some 0) with
  accessFlags := 49
  interfaces := #[]
  cf := some (fileOf pool1 25 #[] #[{ accessFlags := 1, nameIndex := 5, descriptorIndex := 6, attributes := #[] }, { accessFlags := 9, nameIndex := 29, descriptorIndex := 30, attributes := #[] }] 49 2 #[] #[])
  fields := #[]
  methods := #[k1m0, k1m1]
  instanceTypes := #[]
  staticTypes := #[]
  resolved := Array.replicate 34 none
  statics := none }

def pool2 : Array CpInfo := pool [(1, .methodref 2 3), (0, .class_ 4), (0, .nameAndType 5 6), (0, u "java/lang/Object"), (0, u "<init>"), (0, u "()V"), (12, .fieldref 20 21), (0, .class_ 22), (0, .nameAndType 23 24), (0, u "com/example/lugar/lugar/InhibitorArc"), (0, u "place"), (0, u "I"), (0, .fieldref 20 26), (0, .nameAndType 27 28), (0, u "threshold"), (0, u "J"), (9, u "(IJ)V"), (5, u "equals"), (0, u "(Ljava/lang/Object;)Z")] 23

def k2c0 : Code := { maxStack := 4, maxLocals := 4, code := prog_14_method_1_code, exceptionTable := #[], attributes := #[] }
def k2m0 : Method := { name := "<init>", desc := "(IJ)V", sig := { parameters := [.int, .long], returnType := none }, accessFlags := 1, code := some k2c0 }
def k2c1 : Code := { maxStack := 4, maxLocals := 3, code := prog_14_method_4_code, exceptionTable := #[], attributes := #[] }
def k2m1 : Method := { name := "equals", desc := "(Ljava/lang/Object;)Z", sig := { parameters := [(.object "java/lang/Object")], returnType := some .boolean }, accessFlags := 1, code := some k2c1 }
/-- com/example/lugar/lugar/InhibitorArc -/
def k2 : Class := { plain "com/example/lugar/lugar/InhibitorArc" (some 0) with
  accessFlags := 49
  interfaces := #[]
  cf := some (fileOf pool2 20 #[] #[{ accessFlags := 1, nameIndex := 5, descriptorIndex := 38, attributes := #[] }, { accessFlags := 1, nameIndex := 44, descriptorIndex := 45, attributes := #[] }] 49 2 #[] #[{ accessFlags := 18, nameIndex := 23, descriptorIndex := 24, attributes := #[] }, { accessFlags := 18, nameIndex := 27, descriptorIndex := 28, attributes := #[] }])
  fields := #[{ name := "place", type := .int, accessFlags := 18, slot := 0, constantValue := 0 }, { name := "threshold", type := .long, accessFlags := 18, slot := 1, constantValue := 0 }]
  methods := #[k2m0, k2m1]
  instanceTypes := #[.int, .long]
  staticTypes := #[]
  resolved := Array.replicate 69 none
  statics := none }

def pool3 : Array CpInfo := pool [(1, .class_ 2), (0, u "java/io/Serializable"), (0, .class_ 4), (0, u "java/lang/Object")] 2

/-- java/io/Serializable -/
def k3 : Class := { plain "java/io/Serializable" (some 0) with
  accessFlags := 1537
  interfaces := #[]
  cf := some (fileOf pool3 1 #[] #[] 1537 3 #[] #[])
  fields := #[]
  methods := #[]
  instanceTypes := #[]
  staticTypes := #[]
  resolved := Array.replicate 7 none
  statics := none }

def pool4 : Array CpInfo := pool [(1, .methodref 2 3), (0, .class_ 4), (0, .nameAndType 5 6), (0, u "java/lang/Object"), (0, u "<init>"), (0, u "()V"), (1, .class_ 10), (1, u "java/lang/Number"), (2, .class_ 14), (0, u "java/io/Serializable"), (0, u "serialVersionUID"), (0, u "J")] 20

def k4c0 : Code := { maxStack := 1, maxLocals := 1, code := jdk_18_method_1_code, exceptionTable := #[], attributes := #[] }
def k4m0 : Method := { name := "<init>", desc := "()V", sig := { parameters := [], returnType := none }, accessFlags := 1, code := some k4c0 }
/-- java/lang/Number -/
def k4 : Class := { plain "java/lang/Number" (some 0) with
  accessFlags := 1057
  interfaces := #[3]
  cf := some (fileOf pool4 8 #[] #[{ accessFlags := 1, nameIndex := 5, descriptorIndex := 6, attributes := #[] }] 1057 2 #[13] #[{ accessFlags := 26, nameIndex := 15, descriptorIndex := 16, attributes := #[] }])
  fields := #[{ name := "serialVersionUID", type := .long, accessFlags := 26, slot := 0, constantValue := 0 }]
  methods := #[k4m0]
  instanceTypes := #[]
  staticTypes := #[.long]
  resolved := Array.replicate 37 none
  statics := none }

def pool5 : Array CpInfo := pool [(1, .class_ 2), (0, u "java/lang/Comparable"), (0, .class_ 4), (0, u "java/lang/Object")] 7

/-- java/lang/Comparable -/
def k5 : Class := { plain "java/lang/Comparable" (some 0) with
  accessFlags := 1537
  interfaces := #[]
  cf := some (fileOf pool5 1 #[] #[] 1537 3 #[] #[])
  fields := #[]
  methods := #[]
  instanceTypes := #[]
  staticTypes := #[]
  resolved := Array.replicate 12 none
  statics := none }

def pool6 : Array CpInfo := pool [(1, .class_ 2), (0, u "java/lang/constant/Constable"), (0, .class_ 4), (0, u "java/lang/Object")] 6

/-- java/lang/constant/Constable -/
def k6 : Class := { plain "java/lang/constant/Constable" (some 0) with
  accessFlags := 1537
  interfaces := #[]
  cf := some (fileOf pool6 1 #[] #[] 1537 3 #[] #[])
  fields := #[]
  methods := #[]
  instanceTypes := #[]
  staticTypes := #[]
  resolved := Array.replicate 11 none
  statics := none }

def pool7 : Array CpInfo := pool [(1, .class_ 2), (0, u "java/lang/constant/ConstantDesc"), (0, .class_ 4), (0, u "java/lang/Object")] 32

/-- java/lang/constant/ConstantDesc -/
def k7 : Class := { plain "java/lang/constant/ConstantDesc" (some 0) with
  accessFlags := 1537
  interfaces := #[]
  cf := some (fileOf pool7 1 #[] #[] 1537 3 #[] #[])
  fields := #[]
  methods := #[]
  instanceTypes := #[]
  staticTypes := #[]
  resolved := Array.replicate 37 none
  statics := none }

def pool8 : Array CpInfo := pool [(1, .class_ 2), (0, u "java/lang/Integer"), (16, u "digits"), (0, u "[C"), (46, u "<init>"), (17, u "DigitOnes"), (0, u "[B"), (2, u "DigitTens"), (10, .nameAndType 67 101), (0, u "()V"), (85, u "valueOf"), (0, u "(I)Ljava/lang/Integer;"), (0, .class_ 190), (0, u "java/lang/Integer$IntegerCache"), (0, .fieldref 189 192), (0, .nameAndType 193 194), (0, u "high"), (0, u "I"), (0, .fieldref 189 196), (0, .nameAndType 197 198), (0, u "cache"), (0, u "[Ljava/lang/Integer;"), (0, .methodref 1 200), (0, .nameAndType 67 201), (0, u "(I)V"), (0, .methodref 203 100), (0, .class_ 204), (0, u "java/lang/Number"), (0, .fieldref 1 206), (0, .nameAndType 207 194), (0, u "value"), (94, u "TYPE"), (0, u "Ljava/lang/Class;"), (0, .class_ 305), (0, u "java/lang/Comparable"), (0, .class_ 307), (0, u "java/lang/constant/Constable"), (0, .class_ 309), (0, u "java/lang/constant/ConstantDesc"), (0, u "MIN_VALUE"), (1, u "MAX_VALUE"), (3, u "SIZE"), (1, u "BYTES"), (1, u "serialVersionUID"), (0, u "J")] 131

def k8c0 : Code := { maxStack := 3, maxLocals := 1, code := jdk_33_method_22_code, exceptionTable := #[], attributes := #[] }
def k8m0 : Method := { name := "valueOf", desc := "(I)Ljava/lang/Integer;", sig := { parameters := [.int], returnType := some (.object "java/lang/Integer") }, accessFlags := 9, code := some k8c0 }
def k8c1 : Code := { maxStack := 2, maxLocals := 2, code := jdk_33_method_23_code, exceptionTable := #[], attributes := #[] }
def k8m1 : Method := { name := "<init>", desc := "(I)V", sig := { parameters := [.int], returnType := none }, accessFlags := 1, code := some k8c1 }
/-- java/lang/Integer -/
def k8 : Class := { plain "java/lang/Integer" (some 4) with
  accessFlags := 49
  interfaces := #[5, 6, 7]
  cf := some (fileOf pool8 1 #[.nestMembers #[189]] #[{ accessFlags := 9, nameIndex := 187, descriptorIndex := 188, attributes := #[] }, { accessFlags := 1, nameIndex := 67, descriptorIndex := 201, attributes := #[] }] 49 203 #[304, 306, 308] #[{ accessFlags := 25, nameIndex := 310, descriptorIndex := 194, attributes := #[] }, { accessFlags := 25, nameIndex := 312, descriptorIndex := 194, attributes := #[] }, { accessFlags := 25, nameIndex := 302, descriptorIndex := 303, attributes := #[] }, { accessFlags := 24, nameIndex := 19, descriptorIndex := 20, attributes := #[] }, { accessFlags := 24, nameIndex := 89, descriptorIndex := 86, attributes := #[] }, { accessFlags := 24, nameIndex := 85, descriptorIndex := 86, attributes := #[] }, { accessFlags := 18, nameIndex := 207, descriptorIndex := 194, attributes := #[] }, { accessFlags := 25, nameIndex := 316, descriptorIndex := 194, attributes := #[] }, { accessFlags := 25, nameIndex := 318, descriptorIndex := 194, attributes := #[] }, { accessFlags := 26, nameIndex := 320, descriptorIndex := 321, attributes := #[] }])
  fields := #[{ name := "MIN_VALUE", type := .int, accessFlags := 25, slot := 0, constantValue := 0 }, { name := "MAX_VALUE", type := .int, accessFlags := 25, slot := 1, constantValue := 0 }, { name := "TYPE", type := (.object "java/lang/Class"), accessFlags := 25, slot := 2, constantValue := 0 }, { name := "digits", type := (.array .char), accessFlags := 24, slot := 3, constantValue := 0 }, { name := "DigitTens", type := (.array .byte), accessFlags := 24, slot := 4, constantValue := 0 }, { name := "DigitOnes", type := (.array .byte), accessFlags := 24, slot := 5, constantValue := 0 }, { name := "value", type := .int, accessFlags := 18, slot := 0, constantValue := 0 }, { name := "SIZE", type := .int, accessFlags := 25, slot := 6, constantValue := 0 }, { name := "BYTES", type := .int, accessFlags := 25, slot := 7, constantValue := 0 }, { name := "serialVersionUID", type := .long, accessFlags := 26, slot := 8, constantValue := 0 }]
  methods := #[k8m0, k8m1]
  instanceTypes := #[.int]
  staticTypes := #[.int, .int, (.object "java/lang/Class"), (.array .char), (.array .byte), (.array .byte), .int, .int, .long]
  resolved := Array.replicate 453 none
  statics := none }

def pool9 : Array CpInfo := pool [(2, .class_ 4), (1, u "java/lang/Object"), (0, u "<init>"), (0, u "()V"), (0, .class_ 8), (0, u "java/lang/Integer"), (7, .class_ 18), (1, u "java/lang/Integer$IntegerCache"), (0, u "$assertionsDisabled"), (0, u "Z"), (26, u "high"), (0, u "I"), (8, u "archivedCache"), (0, u "[Ljava/lang/Integer;"), (12, u "cache"), (0, u "low")] 27

def k9m0 : Method := { name := "<init>", desc := "()V", sig := { parameters := [], returnType := none }, accessFlags := 2, code := none }
/-- java/lang/Integer$IntegerCache -/
def k9 : Class := { plain "java/lang/Integer$IntegerCache" (some 0) with
  accessFlags := 48
  interfaces := #[]
  cf := some (fileOf pool9 16 #[.nestHost 7] #[{ accessFlags := 2, nameIndex := 5, descriptorIndex := 6, attributes := #[] }] 48 2 #[] #[{ accessFlags := 24, nameIndex := 72, descriptorIndex := 48, attributes := #[] }, { accessFlags := 24, nameIndex := 47, descriptorIndex := 48, attributes := #[] }, { accessFlags := 24, nameIndex := 71, descriptorIndex := 58, attributes := #[] }, { accessFlags := 8, nameIndex := 57, descriptorIndex := 58, attributes := #[] }, { accessFlags := 4120, nameIndex := 19, descriptorIndex := 20, attributes := #[] }])
  fields := #[{ name := "low", type := .int, accessFlags := 24, slot := 0, constantValue := 0 }, { name := "high", type := .int, accessFlags := 24, slot := 1, constantValue := 0 }, { name := "cache", type := (.array (.object "java/lang/Integer")), accessFlags := 24, slot := 2, constantValue := 0 }, { name := "archivedCache", type := (.array (.object "java/lang/Integer")), accessFlags := 8, slot := 3, constantValue := 0 }, { name := "$assertionsDisabled", type := .boolean, accessFlags := 4120, slot := 4, constantValue := 0 }]
  methods := #[k9m0]
  instanceTypes := #[]
  staticTypes := #[.int, .int, (.array (.object "java/lang/Integer")), (.array (.object "java/lang/Integer")), .boolean]
  resolved := Array.replicate 100 none
  statics := some 0 }

def pool10 : Array CpInfo := pool [(1, u "java/lang/Cloneable"), (0, .class_ 1), (0, u "java/lang/Object"), (0, .class_ 3)] 3

/-- java/lang/Cloneable -/
def k10 : Class := { plain "java/lang/Cloneable" (some 0) with
  accessFlags := 1537
  interfaces := #[]
  cf := some (fileOf pool10 2 #[] #[] 1537 4 #[] #[])
  fields := #[]
  methods := #[]
  instanceTypes := #[]
  staticTypes := #[]
  resolved := Array.replicate 8 none
  statics := none }

/-- the primitive byte -/
def k11 : Class := { plain "byte" none with kind := .primitive 'B', accessFlags := 0x411 }
/-- [B -/
def k12 : Class := { plain "[B" (some 0) with kind := .array 11 .byte, interfaces := #[10, 3], accessFlags := 1041 }

/-- the primitive int -/
def k13 : Class := { plain "int" none with kind := .primitive 'I', accessFlags := 0x411 }
/-- [I -/
def k14 : Class := { plain "[I" (some 0) with kind := .array 13 .int, interfaces := #[10, 3], accessFlags := 1041 }

/-- [Ljava/lang/Integer; -/
def k15 : Class := { plain "[Ljava/lang/Integer;" (some 0) with kind := .array 8 (.object "java/lang/Integer"), interfaces := #[10, 3], accessFlags := 1041 }

def heap : Heap := #[{ cls := 9, slots := #[.int 0, .int 127, .ref 1, .null, .int 0], vm := .statics 9 },
  { cls := 15, slots := #[.ref 2, .ref 3, .ref 4, .ref 5, .ref 6, .ref 7, .ref 8, .ref 9, .ref 10, .ref 11, .ref 12, .ref 13, .ref 14, .ref 15, .ref 16, .ref 17, .ref 18, .ref 19, .ref 20, .ref 21, .ref 22, .ref 23, .ref 24, .ref 25, .ref 26, .ref 27, .ref 28, .ref 29, .ref 30, .ref 31, .ref 32, .ref 33, .ref 34, .ref 35, .ref 36, .ref 37, .ref 38, .ref 39, .ref 40, .ref 41, .ref 42, .ref 43, .ref 44, .ref 45, .ref 46, .ref 47, .ref 48, .ref 49, .ref 50, .ref 51, .ref 52, .ref 53, .ref 54, .ref 55, .ref 56, .ref 57, .ref 58, .ref 59, .ref 60, .ref 61, .ref 62, .ref 63, .ref 64, .ref 65, .ref 66, .ref 67, .ref 68, .ref 69, .ref 70, .ref 71, .ref 72, .ref 73, .ref 74, .ref 75, .ref 76, .ref 77, .ref 78, .ref 79, .ref 80, .ref 81, .ref 82, .ref 83, .ref 84, .ref 85, .ref 86, .ref 87, .ref 88, .ref 89, .ref 90, .ref 91, .ref 92, .ref 93, .ref 94, .ref 95, .ref 96, .ref 97, .ref 98, .ref 99, .ref 100, .ref 101, .ref 102, .ref 103, .ref 104, .ref 105, .ref 106, .ref 107, .ref 108, .ref 109, .ref 110, .ref 111, .ref 112, .ref 113, .ref 114, .ref 115, .ref 116, .ref 117, .ref 118, .ref 119, .ref 120, .ref 121, .ref 122, .ref 123, .ref 124, .ref 125, .ref 126, .ref 127, .ref 128, .ref 129, .ref 130, .ref 131, .ref 132, .ref 133, .ref 134, .ref 135, .ref 136, .ref 137, .ref 138, .ref 139, .ref 140, .ref 141, .ref 142, .ref 143, .ref 144, .ref 145, .ref 146, .ref 147, .ref 148, .ref 149, .ref 150, .ref 151, .ref 152, .ref 153, .ref 154, .ref 155, .ref 156, .ref 157, .ref 158, .ref 159, .ref 160, .ref 161, .ref 162, .ref 163, .ref 164, .ref 165, .ref 166, .ref 167, .ref 168, .ref 169, .ref 170, .ref 171, .ref 172, .ref 173, .ref 174, .ref 175, .ref 176, .ref 177, .ref 178, .ref 179, .ref 180, .ref 181, .ref 182, .ref 183, .ref 184, .ref 185, .ref 186, .ref 187, .ref 188, .ref 189, .ref 190, .ref 191, .ref 192, .ref 193, .ref 194, .ref 195, .ref 196, .ref 197, .ref 198, .ref 199, .ref 200, .ref 201, .ref 202, .ref 203, .ref 204, .ref 205, .ref 206, .ref 207, .ref 208, .ref 209, .ref 210, .ref 211, .ref 212, .ref 213, .ref 214, .ref 215, .ref 216, .ref 217, .ref 218, .ref 219, .ref 220, .ref 221, .ref 222, .ref 223, .ref 224, .ref 225, .ref 226, .ref 227, .ref 228, .ref 229, .ref 230, .ref 231, .ref 232, .ref 233, .ref 234, .ref 235, .ref 236, .ref 237, .ref 238, .ref 239, .ref 240, .ref 241, .ref 242, .ref 243, .ref 244, .ref 245, .ref 246, .ref 247, .ref 248, .ref 249, .ref 250, .ref 251, .ref 252, .ref 253, .ref 254, .ref 255, .ref 256, .ref 257], vm := .none },
  { cls := 8, slots := #[.int (-128)], vm := .none },
  { cls := 8, slots := #[.int (-127)], vm := .none },
  { cls := 8, slots := #[.int (-126)], vm := .none },
  { cls := 8, slots := #[.int (-125)], vm := .none },
  { cls := 8, slots := #[.int (-124)], vm := .none },
  { cls := 8, slots := #[.int (-123)], vm := .none },
  { cls := 8, slots := #[.int (-122)], vm := .none },
  { cls := 8, slots := #[.int (-121)], vm := .none },
  { cls := 8, slots := #[.int (-120)], vm := .none },
  { cls := 8, slots := #[.int (-119)], vm := .none },
  { cls := 8, slots := #[.int (-118)], vm := .none },
  { cls := 8, slots := #[.int (-117)], vm := .none },
  { cls := 8, slots := #[.int (-116)], vm := .none },
  { cls := 8, slots := #[.int (-115)], vm := .none },
  { cls := 8, slots := #[.int (-114)], vm := .none },
  { cls := 8, slots := #[.int (-113)], vm := .none },
  { cls := 8, slots := #[.int (-112)], vm := .none },
  { cls := 8, slots := #[.int (-111)], vm := .none },
  { cls := 8, slots := #[.int (-110)], vm := .none },
  { cls := 8, slots := #[.int (-109)], vm := .none },
  { cls := 8, slots := #[.int (-108)], vm := .none },
  { cls := 8, slots := #[.int (-107)], vm := .none },
  { cls := 8, slots := #[.int (-106)], vm := .none },
  { cls := 8, slots := #[.int (-105)], vm := .none },
  { cls := 8, slots := #[.int (-104)], vm := .none },
  { cls := 8, slots := #[.int (-103)], vm := .none },
  { cls := 8, slots := #[.int (-102)], vm := .none },
  { cls := 8, slots := #[.int (-101)], vm := .none },
  { cls := 8, slots := #[.int (-100)], vm := .none },
  { cls := 8, slots := #[.int (-99)], vm := .none },
  { cls := 8, slots := #[.int (-98)], vm := .none },
  { cls := 8, slots := #[.int (-97)], vm := .none },
  { cls := 8, slots := #[.int (-96)], vm := .none },
  { cls := 8, slots := #[.int (-95)], vm := .none },
  { cls := 8, slots := #[.int (-94)], vm := .none },
  { cls := 8, slots := #[.int (-93)], vm := .none },
  { cls := 8, slots := #[.int (-92)], vm := .none },
  { cls := 8, slots := #[.int (-91)], vm := .none },
  { cls := 8, slots := #[.int (-90)], vm := .none },
  { cls := 8, slots := #[.int (-89)], vm := .none },
  { cls := 8, slots := #[.int (-88)], vm := .none },
  { cls := 8, slots := #[.int (-87)], vm := .none },
  { cls := 8, slots := #[.int (-86)], vm := .none },
  { cls := 8, slots := #[.int (-85)], vm := .none },
  { cls := 8, slots := #[.int (-84)], vm := .none },
  { cls := 8, slots := #[.int (-83)], vm := .none },
  { cls := 8, slots := #[.int (-82)], vm := .none },
  { cls := 8, slots := #[.int (-81)], vm := .none },
  { cls := 8, slots := #[.int (-80)], vm := .none },
  { cls := 8, slots := #[.int (-79)], vm := .none },
  { cls := 8, slots := #[.int (-78)], vm := .none },
  { cls := 8, slots := #[.int (-77)], vm := .none },
  { cls := 8, slots := #[.int (-76)], vm := .none },
  { cls := 8, slots := #[.int (-75)], vm := .none },
  { cls := 8, slots := #[.int (-74)], vm := .none },
  { cls := 8, slots := #[.int (-73)], vm := .none },
  { cls := 8, slots := #[.int (-72)], vm := .none },
  { cls := 8, slots := #[.int (-71)], vm := .none },
  { cls := 8, slots := #[.int (-70)], vm := .none },
  { cls := 8, slots := #[.int (-69)], vm := .none },
  { cls := 8, slots := #[.int (-68)], vm := .none },
  { cls := 8, slots := #[.int (-67)], vm := .none },
  { cls := 8, slots := #[.int (-66)], vm := .none },
  { cls := 8, slots := #[.int (-65)], vm := .none },
  { cls := 8, slots := #[.int (-64)], vm := .none },
  { cls := 8, slots := #[.int (-63)], vm := .none },
  { cls := 8, slots := #[.int (-62)], vm := .none },
  { cls := 8, slots := #[.int (-61)], vm := .none },
  { cls := 8, slots := #[.int (-60)], vm := .none },
  { cls := 8, slots := #[.int (-59)], vm := .none },
  { cls := 8, slots := #[.int (-58)], vm := .none },
  { cls := 8, slots := #[.int (-57)], vm := .none },
  { cls := 8, slots := #[.int (-56)], vm := .none },
  { cls := 8, slots := #[.int (-55)], vm := .none },
  { cls := 8, slots := #[.int (-54)], vm := .none },
  { cls := 8, slots := #[.int (-53)], vm := .none },
  { cls := 8, slots := #[.int (-52)], vm := .none },
  { cls := 8, slots := #[.int (-51)], vm := .none },
  { cls := 8, slots := #[.int (-50)], vm := .none },
  { cls := 8, slots := #[.int (-49)], vm := .none },
  { cls := 8, slots := #[.int (-48)], vm := .none },
  { cls := 8, slots := #[.int (-47)], vm := .none },
  { cls := 8, slots := #[.int (-46)], vm := .none },
  { cls := 8, slots := #[.int (-45)], vm := .none },
  { cls := 8, slots := #[.int (-44)], vm := .none },
  { cls := 8, slots := #[.int (-43)], vm := .none },
  { cls := 8, slots := #[.int (-42)], vm := .none },
  { cls := 8, slots := #[.int (-41)], vm := .none },
  { cls := 8, slots := #[.int (-40)], vm := .none },
  { cls := 8, slots := #[.int (-39)], vm := .none },
  { cls := 8, slots := #[.int (-38)], vm := .none },
  { cls := 8, slots := #[.int (-37)], vm := .none },
  { cls := 8, slots := #[.int (-36)], vm := .none },
  { cls := 8, slots := #[.int (-35)], vm := .none },
  { cls := 8, slots := #[.int (-34)], vm := .none },
  { cls := 8, slots := #[.int (-33)], vm := .none },
  { cls := 8, slots := #[.int (-32)], vm := .none },
  { cls := 8, slots := #[.int (-31)], vm := .none },
  { cls := 8, slots := #[.int (-30)], vm := .none },
  { cls := 8, slots := #[.int (-29)], vm := .none },
  { cls := 8, slots := #[.int (-28)], vm := .none },
  { cls := 8, slots := #[.int (-27)], vm := .none },
  { cls := 8, slots := #[.int (-26)], vm := .none },
  { cls := 8, slots := #[.int (-25)], vm := .none },
  { cls := 8, slots := #[.int (-24)], vm := .none },
  { cls := 8, slots := #[.int (-23)], vm := .none },
  { cls := 8, slots := #[.int (-22)], vm := .none },
  { cls := 8, slots := #[.int (-21)], vm := .none },
  { cls := 8, slots := #[.int (-20)], vm := .none },
  { cls := 8, slots := #[.int (-19)], vm := .none },
  { cls := 8, slots := #[.int (-18)], vm := .none },
  { cls := 8, slots := #[.int (-17)], vm := .none },
  { cls := 8, slots := #[.int (-16)], vm := .none },
  { cls := 8, slots := #[.int (-15)], vm := .none },
  { cls := 8, slots := #[.int (-14)], vm := .none },
  { cls := 8, slots := #[.int (-13)], vm := .none },
  { cls := 8, slots := #[.int (-12)], vm := .none },
  { cls := 8, slots := #[.int (-11)], vm := .none },
  { cls := 8, slots := #[.int (-10)], vm := .none },
  { cls := 8, slots := #[.int (-9)], vm := .none },
  { cls := 8, slots := #[.int (-8)], vm := .none },
  { cls := 8, slots := #[.int (-7)], vm := .none },
  { cls := 8, slots := #[.int (-6)], vm := .none },
  { cls := 8, slots := #[.int (-5)], vm := .none },
  { cls := 8, slots := #[.int (-4)], vm := .none },
  { cls := 8, slots := #[.int (-3)], vm := .none },
  { cls := 8, slots := #[.int (-2)], vm := .none },
  { cls := 8, slots := #[.int (-1)], vm := .none },
  { cls := 8, slots := #[.int 0], vm := .none },
  { cls := 8, slots := #[.int 1], vm := .none },
  { cls := 8, slots := #[.int 2], vm := .none },
  { cls := 8, slots := #[.int 3], vm := .none },
  { cls := 8, slots := #[.int 4], vm := .none },
  { cls := 8, slots := #[.int 5], vm := .none },
  { cls := 8, slots := #[.int 6], vm := .none },
  { cls := 8, slots := #[.int 7], vm := .none },
  { cls := 8, slots := #[.int 8], vm := .none },
  { cls := 8, slots := #[.int 9], vm := .none },
  { cls := 8, slots := #[.int 10], vm := .none },
  { cls := 8, slots := #[.int 11], vm := .none },
  { cls := 8, slots := #[.int 12], vm := .none },
  { cls := 8, slots := #[.int 13], vm := .none },
  { cls := 8, slots := #[.int 14], vm := .none },
  { cls := 8, slots := #[.int 15], vm := .none },
  { cls := 8, slots := #[.int 16], vm := .none },
  { cls := 8, slots := #[.int 17], vm := .none },
  { cls := 8, slots := #[.int 18], vm := .none },
  { cls := 8, slots := #[.int 19], vm := .none },
  { cls := 8, slots := #[.int 20], vm := .none },
  { cls := 8, slots := #[.int 21], vm := .none },
  { cls := 8, slots := #[.int 22], vm := .none },
  { cls := 8, slots := #[.int 23], vm := .none },
  { cls := 8, slots := #[.int 24], vm := .none },
  { cls := 8, slots := #[.int 25], vm := .none },
  { cls := 8, slots := #[.int 26], vm := .none },
  { cls := 8, slots := #[.int 27], vm := .none },
  { cls := 8, slots := #[.int 28], vm := .none },
  { cls := 8, slots := #[.int 29], vm := .none },
  { cls := 8, slots := #[.int 30], vm := .none },
  { cls := 8, slots := #[.int 31], vm := .none },
  { cls := 8, slots := #[.int 32], vm := .none },
  { cls := 8, slots := #[.int 33], vm := .none },
  { cls := 8, slots := #[.int 34], vm := .none },
  { cls := 8, slots := #[.int 35], vm := .none },
  { cls := 8, slots := #[.int 36], vm := .none },
  { cls := 8, slots := #[.int 37], vm := .none },
  { cls := 8, slots := #[.int 38], vm := .none },
  { cls := 8, slots := #[.int 39], vm := .none },
  { cls := 8, slots := #[.int 40], vm := .none },
  { cls := 8, slots := #[.int 41], vm := .none },
  { cls := 8, slots := #[.int 42], vm := .none },
  { cls := 8, slots := #[.int 43], vm := .none },
  { cls := 8, slots := #[.int 44], vm := .none },
  { cls := 8, slots := #[.int 45], vm := .none },
  { cls := 8, slots := #[.int 46], vm := .none },
  { cls := 8, slots := #[.int 47], vm := .none },
  { cls := 8, slots := #[.int 48], vm := .none },
  { cls := 8, slots := #[.int 49], vm := .none },
  { cls := 8, slots := #[.int 50], vm := .none },
  { cls := 8, slots := #[.int 51], vm := .none },
  { cls := 8, slots := #[.int 52], vm := .none },
  { cls := 8, slots := #[.int 53], vm := .none },
  { cls := 8, slots := #[.int 54], vm := .none },
  { cls := 8, slots := #[.int 55], vm := .none },
  { cls := 8, slots := #[.int 56], vm := .none },
  { cls := 8, slots := #[.int 57], vm := .none },
  { cls := 8, slots := #[.int 58], vm := .none },
  { cls := 8, slots := #[.int 59], vm := .none },
  { cls := 8, slots := #[.int 60], vm := .none },
  { cls := 8, slots := #[.int 61], vm := .none },
  { cls := 8, slots := #[.int 62], vm := .none },
  { cls := 8, slots := #[.int 63], vm := .none },
  { cls := 8, slots := #[.int 64], vm := .none },
  { cls := 8, slots := #[.int 65], vm := .none },
  { cls := 8, slots := #[.int 66], vm := .none },
  { cls := 8, slots := #[.int 67], vm := .none },
  { cls := 8, slots := #[.int 68], vm := .none },
  { cls := 8, slots := #[.int 69], vm := .none },
  { cls := 8, slots := #[.int 70], vm := .none },
  { cls := 8, slots := #[.int 71], vm := .none },
  { cls := 8, slots := #[.int 72], vm := .none },
  { cls := 8, slots := #[.int 73], vm := .none },
  { cls := 8, slots := #[.int 74], vm := .none },
  { cls := 8, slots := #[.int 75], vm := .none },
  { cls := 8, slots := #[.int 76], vm := .none },
  { cls := 8, slots := #[.int 77], vm := .none },
  { cls := 8, slots := #[.int 78], vm := .none },
  { cls := 8, slots := #[.int 79], vm := .none },
  { cls := 8, slots := #[.int 80], vm := .none },
  { cls := 8, slots := #[.int 81], vm := .none },
  { cls := 8, slots := #[.int 82], vm := .none },
  { cls := 8, slots := #[.int 83], vm := .none },
  { cls := 8, slots := #[.int 84], vm := .none },
  { cls := 8, slots := #[.int 85], vm := .none },
  { cls := 8, slots := #[.int 86], vm := .none },
  { cls := 8, slots := #[.int 87], vm := .none },
  { cls := 8, slots := #[.int 88], vm := .none },
  { cls := 8, slots := #[.int 89], vm := .none },
  { cls := 8, slots := #[.int 90], vm := .none },
  { cls := 8, slots := #[.int 91], vm := .none },
  { cls := 8, slots := #[.int 92], vm := .none },
  { cls := 8, slots := #[.int 93], vm := .none },
  { cls := 8, slots := #[.int 94], vm := .none },
  { cls := 8, slots := #[.int 95], vm := .none },
  { cls := 8, slots := #[.int 96], vm := .none },
  { cls := 8, slots := #[.int 97], vm := .none },
  { cls := 8, slots := #[.int 98], vm := .none },
  { cls := 8, slots := #[.int 99], vm := .none },
  { cls := 8, slots := #[.int 100], vm := .none },
  { cls := 8, slots := #[.int 101], vm := .none },
  { cls := 8, slots := #[.int 102], vm := .none },
  { cls := 8, slots := #[.int 103], vm := .none },
  { cls := 8, slots := #[.int 104], vm := .none },
  { cls := 8, slots := #[.int 105], vm := .none },
  { cls := 8, slots := #[.int 106], vm := .none },
  { cls := 8, slots := #[.int 107], vm := .none },
  { cls := 8, slots := #[.int 108], vm := .none },
  { cls := 8, slots := #[.int 109], vm := .none },
  { cls := 8, slots := #[.int 110], vm := .none },
  { cls := 8, slots := #[.int 111], vm := .none },
  { cls := 8, slots := #[.int 112], vm := .none },
  { cls := 8, slots := #[.int 113], vm := .none },
  { cls := 8, slots := #[.int 114], vm := .none },
  { cls := 8, slots := #[.int 115], vm := .none },
  { cls := 8, slots := #[.int 116], vm := .none },
  { cls := 8, slots := #[.int 117], vm := .none },
  { cls := 8, slots := #[.int 118], vm := .none },
  { cls := 8, slots := #[.int 119], vm := .none },
  { cls := 8, slots := #[.int 120], vm := .none },
  { cls := 8, slots := #[.int 121], vm := .none },
  { cls := 8, slots := #[.int 122], vm := .none },
  { cls := 8, slots := #[.int 123], vm := .none },
  { cls := 8, slots := #[.int 124], vm := .none },
  { cls := 8, slots := #[.int 125], vm := .none },
  { cls := 8, slots := #[.int 126], vm := .none },
  { cls := 8, slots := #[.int 127], vm := .none }]
def classes : Array Class := #[k0, k1, k2, k3, k4, k5, k6, k7, k8, k9, k10, k11, k12, k13, k14, k15]
def interned : List (Array UInt16 × Addr) := []
def slotsUsed : Nat := 517
def theMethod : MethodId := ⟨1, 1⟩
def args0 : Array Value := #[.int 5, .long 5, .int 5, .long 5, .int 5]
def aboutOver (below : List Frame) : State where
  vm := { classes := classes, interned := interned.toArray }
  heap := heap
  slotsUsed := slotsUsed
  threads := #[{ frames := .invoking theMethod args0 :: below }]
def below0 : List Frame := [.native { method := ⟨0, 0⟩, args := #[] }]
def about1 : State := aboutOver below0
def p0 : Program := .bare "" "" ""
def e0 : Env := launch0.env 0 0 0
theorem w_frames : about1.frames = Frame.invoking theMethod args0 :: below0 := rfl
set_option maxRecDepth 65536 in
theorem w_args : argsFit about1.vm theMethod args0 = true := by decide +kernel
set_option maxRecDepth 65536 in
theorem w_heap : heapFits about1 = true := by decide +kernel
set_option maxRecDepth 65536 in
theorem w_runnable : about1.curStatus? = some .runnable := by decide +kernel
set_option maxRecDepth 65536 in
theorem w_alone : about1.alone = true := by decide +kernel
set_option maxRecDepth 65536 in
theorem w_named : about1.methodNamed? x = some theMethod := by decide +kernel
set_option maxRecDepth 65536 in
theorem w_hears : about1.hears theMethod below0 = true := by decide +kernel
set_option maxRecDepth 65536 in
theorem w_ripe : about1.ripe theMethod args0 below0 = true := by decide +kernel
theorem w_running : about1.status = .running := rfl
set_option maxRecDepth 65536 in
theorem w_room : about1.hasRoom e0.platform room_1 = true :=
  launch0.hasRoom_least _ room_1 (by decide +kernel) (by decide +kernel) (by decide +kernel) (by decide +kernel) (by decide +kernel) (by decide +kernel)
theorem allAtoms_all (ts : List Jvm.Cond) (a : Array Jvm.Value) (st : Jvm.State) : (allAtoms ts).before a st = ts.all (fun c => c.before a st) := by
  induction ts with
  | nil => rfl
  | cons c t ih =>
    show (Jvm.Cond.and c (allAtoms t)).before a st = _
    rw [Jvm.Cond.before_and, ih, List.all_cons]
def words1 : List Jvm.Cond := Jvm.Cond.code x code maxLocals ret :: tables_1
/-- a 'code' word, met by the world's own term for the bytes: nothing is compared byte by byte -/
theorem code_word {y : MethodName} {bytes : ByteArray} {mx : Nat} {rt : Option FieldType} {a : Array Value} {s : State} {m : MethodId} {meth : Method} {c : Code} (h1 : s.methodNamed? y = some m) (h2 : s.vm.method? m = some meth) (h3 : meth.code = some c) (h4 : c.code = bytes)
    (h5 : (c.maxLocals == mx && c.exceptionTable.isEmpty && decide (c.maxStack ≤ mostOperands) && decide (meth.sig.returnType = rt) && !meth.locks && decide (parseMethodDescriptor y.desc = some meth.sig)) = true) : (Jvm.Cond.code y bytes mx rt).before a s = true := by
  simp only [Bool.and_eq_true, beq_iff_eq, Bool.not_eq_true', decide_eq_true_eq] at h5
  obtain ⟨⟨⟨⟨⟨g1, g2⟩, g3⟩, g4⟩, g5⟩, g6⟩ := h5
  simp [Cond.before, Cond.holds, Cond.value, h1, h2, h3, h4, g1, g2, g3, g4, g5, g6]
def isCode : Jvm.Cond → Bool
  | .code _ _ _ _ => true
  | _ => false
theorem all_split {L : List Jvm.Cond} {P : Jvm.Cond → Bool} (h1 : L.all (fun c => isCode c || P c) = true) (h2 : ∀ c ∈ L.filter isCode, P c = true) : L.all P = true := by
  refine List.all_eq_true.mpr fun c hc => ?_
  have h := List.all_eq_true.mp h1 c hc
  rcases Bool.eq_false_or_eq_true (isCode c) with hi | hi
  · exact h2 c (List.mem_filter.mpr ⟨hc, hi⟩)
  · simpa [hi] using h
set_option maxRecDepth 65536 in
theorem w_c0 : (Jvm.Cond.code x code maxLocals ret).before args0 about1 = true := code_word (m := ⟨1, 1⟩) (meth := k1m1) (c := k1c1) (by decide +kernel) rfl rfl rfl (by decide +kernel)
set_option maxRecDepth 65536 in
theorem w_c1 : (Jvm.Cond.code ({ cls := "com/example/lugar/lugar/InhibitorArc", name := "<init>", desc := "(IJ)V" } : Jvm.MethodName) prog_14_method_1_code (4 : Nat) (Option.none : Option Jvm.ClassFile.FieldType)).before args0 about1 = true := code_word (m := ⟨2, 0⟩) (meth := k2m0) (c := k2c0) (by decide +kernel) rfl rfl rfl (by decide +kernel)
set_option maxRecDepth 65536 in
theorem w_c2 : (Jvm.Cond.code ({ cls := "java/lang/Object", name := "<init>", desc := "()V" } : Jvm.MethodName) object_method_1_code (1 : Nat) (Option.none : Option Jvm.ClassFile.FieldType)).before args0 about1 = true := code_word (m := ⟨0, 0⟩) (meth := k0m0) (c := k0c0) (by decide +kernel) rfl rfl rfl (by decide +kernel)
set_option maxRecDepth 65536 in
theorem w_c3 : (Jvm.Cond.code ({ cls := "com/example/lugar/lugar/InhibitorArc", name := "equals", desc := "(Ljava/lang/Object;)Z" } : Jvm.MethodName) prog_14_method_4_code (3 : Nat) (Option.some Jvm.ClassFile.FieldType.boolean)).before args0 about1 = true := code_word (m := ⟨2, 1⟩) (meth := k2m1) (c := k2c1) (by decide +kernel) rfl rfl rfl (by decide +kernel)
set_option maxRecDepth 65536 in
theorem w_c4 : (Jvm.Cond.code ({ cls := "java/lang/Integer", name := "valueOf", desc := "(I)Ljava/lang/Integer;" } : Jvm.MethodName) jdk_33_method_22_code (1 : Nat) (Option.some (Jvm.ClassFile.FieldType.object "java/lang/Integer"))).before args0 about1 = true := code_word (m := ⟨8, 0⟩) (meth := k8m0) (c := k8c0) (by decide +kernel) rfl rfl rfl (by decide +kernel)
set_option maxRecDepth 65536 in
theorem w_c5 : (Jvm.Cond.code ({ cls := "java/lang/Integer", name := "<init>", desc := "(I)V" } : Jvm.MethodName) jdk_33_method_23_code (2 : Nat) (Option.none : Option Jvm.ClassFile.FieldType)).before args0 about1 = true := code_word (m := ⟨8, 1⟩) (meth := k8m1) (c := k8c1) (by decide +kernel) rfl rfl rfl (by decide +kernel)
set_option maxRecDepth 65536 in
theorem w_c6 : (Jvm.Cond.code ({ cls := "java/lang/Number", name := "<init>", desc := "()V" } : Jvm.MethodName) jdk_18_method_1_code (1 : Nat) (Option.none : Option Jvm.ClassFile.FieldType)).before args0 about1 = true := code_word (m := ⟨4, 0⟩) (meth := k4m0) (c := k4c0) (by decide +kernel) rfl rfl rfl (by decide +kernel)
def codes1 : List Jvm.Cond := [Jvm.Cond.code x code maxLocals ret, Jvm.Cond.code ({ cls := "com/example/lugar/lugar/InhibitorArc", name := "<init>", desc := "(IJ)V" } : Jvm.MethodName) prog_14_method_1_code (4 : Nat) (Option.none : Option Jvm.ClassFile.FieldType), Jvm.Cond.code ({ cls := "java/lang/Object", name := "<init>", desc := "()V" } : Jvm.MethodName) object_method_1_code (1 : Nat) (Option.none : Option Jvm.ClassFile.FieldType), Jvm.Cond.code ({ cls := "com/example/lugar/lugar/InhibitorArc", name := "equals", desc := "(Ljava/lang/Object;)Z" } : Jvm.MethodName) prog_14_method_4_code (3 : Nat) (Option.some Jvm.ClassFile.FieldType.boolean), Jvm.Cond.code ({ cls := "java/lang/Integer", name := "valueOf", desc := "(I)Ljava/lang/Integer;" } : Jvm.MethodName) jdk_33_method_22_code (1 : Nat) (Option.some (Jvm.ClassFile.FieldType.object "java/lang/Integer")), Jvm.Cond.code ({ cls := "java/lang/Integer", name := "<init>", desc := "(I)V" } : Jvm.MethodName) jdk_33_method_23_code (2 : Nat) (Option.none : Option Jvm.ClassFile.FieldType), Jvm.Cond.code ({ cls := "java/lang/Number", name := "<init>", desc := "()V" } : Jvm.MethodName) jdk_18_method_1_code (1 : Nat) (Option.none : Option Jvm.ClassFile.FieldType)]
set_option maxRecDepth 65536 in
theorem codes_eq : words1.filter isCode = codes1 := rfl
theorem w_codes : ∀ c ∈ words1.filter isCode, c.before args0 about1 = true := by
  rw [codes_eq]
  intro c hc
  simp only [codes1, List.mem_cons, List.not_mem_nil, or_false] at hc
  rcases hc with rfl | rfl | rfl | rfl | rfl | rfl | rfl
  · exact w_c0
  · exact w_c1
  · exact w_c2
  · exact w_c3
  · exact w_c4
  · exact w_c5
  · exact w_c6
set_option maxRecDepth 65536 in
theorem w_t1 : (words1.take 24).all (fun c => isCode c || c.before args0 about1) = true := by decide +kernel
set_option maxRecDepth 65536 in
theorem w_t2 : (words1.drop 24).all (fun c => isCode c || c.before args0 about1) = true := by decide +kernel
theorem w_tables : (allAtoms (Jvm.Cond.code x code maxLocals ret :: tables_1)).before args0 about1 = true := by
  rw [allAtoms_all]
  show words1.all (fun c => c.before args0 about1) = true
  refine all_split ?_ w_codes
  rw [← List.take_append_drop 24 words1, List.all_append, w_t1, w_t2]
  rfl
set_option maxRecDepth 65536 in
theorem w_rest : rest_1_c.before args0 about1 = true := by decide +kernel
set_option maxRecDepth 65536 in
theorem w_case : (Jvm.Cond.and given_1 narrow_1).before args0 about1 = true := by decide +kernel
theorem w_applies : (headSpec (Jvm.Cond.code x code maxLocals ret :: tables_1) room_1).applies x e0.platform about1 = true :=
  (Spec.applies_iff w_frames).mpr ⟨w_running, w_runnable, w_alone, w_named, w_hears, w_ripe, w_room, w_tables⟩
theorem atStart : AtStart classFile x code maxLocals ret World_1 tables_1 room_1 Calls_1 rest_1 Pre_1 launch0 p0 e0 about1 theMethod args0 below0 :=
  ⟨lists_1, trivial, launch0.admits_env _ _ _, launch0.least_env, fairChoices_fair.cas, fairChoices_fair.clock, w_frames, w_args, w_heap, w_applies, trivial, w_rest, w_case⟩
end start1
theorem witness_1 : WitnessClaimed_1 := ⟨start1.p0, start1.e0, start1.about1, start1.theMethod, start1.args0, start1.below0, start1.atStart⟩
end Jvm.Pilot.@@N@@
