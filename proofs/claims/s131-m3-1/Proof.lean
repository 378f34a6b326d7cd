import JvmDerived
import JvmDerived.Pilot.@@N@@Statement
import JvmDerived.Pilot.@@N@@Code
set_option linter.unusedVariables false
set_option linter.unusedSimpArgs false
namespace Jvm.Pilot.@@N@@
open Jvm Jvm.ClassFile Sem Op Lib Jvm.Free Jvm.Stand Jvm.LawKit Jvm.RoadKit Bundle Jvm.Pilot.@@N@@.Jvm.D
/-- what is left of the run from here ends in a state and an outcome of which G holds -/
def own_Fin (tb : Tables) (e : Env) (below : List Frame) (G : State → Outcome → Prop) (st : State) : Prop :=
  ∃ s₂ o, Steps tb e below st s₂ ∧ s₂.status = .running ∧ Ended s₂ below o ∧ G s₂ o
theorem own_st {tb : Tables} {e : Env} {below : List Frame} {G : State → Outcome → Prop} {st st' : State} (k : ∀ t, Steps tb e below st' t → Steps tb e below st t) (h : own_Fin tb e below G st') : own_Fin tb e below G st := by
  obtain ⟨s₂, o, h1, h2⟩ := h
  exact ⟨s₂, o, k _ h1, h2⟩

theorem own_fi {Z : State} {args : Array Value} {t : Term} {a : Addr} {O n d : String} {k : Int32} (ev : t.eval args Z none [] Z = some (.ref a)) (h : (Jvm.Cond.eq (.field t O n d) (.int k)).value args Z none Z [] = some true) : Fld Z Z.heap a O n d (.int k) := by
  obtain ⟨x, y, e1, e2, -, -⟩ := cmp_v (Or.inl h)
  have e3 : (Term.int k).eval args Z none [] Z = some (.int k) := Term.int_eval k
  have e4 : x = .int k := by
    simp only [Jvm.Cond.value, e1, e3] at h
    cases x <;> simp at h
    rw [h]
  subst e4
  rw [fld_at ev] at e1
  exact Fld.start e1

section own
variable {p : Program} {l : Launch} {e : Env} {R : Room} {s : State} {m : MethodId} {args : Array Value} {below : List Frame} {meth : Method} {c : Code} {T : State} {locs : List Loc} {cells slots : Nat} {Z : State} {h h' : Heap} {a : Addr} {k : ClassId} {ty : FieldType} {n : Int32} {vs : List Value} {d : Value}
theorem own_alen (X : Stand p l e R s m args below meth c T locs cells slots) (hx : p.tables.exec = Jvm.exec) (hZ : Z.Warmed39 s.vm) (eT : T.heap = h) (F : Arv Z h a k ty n vs d) {g : JFrame} (hg : g.method = m) {rest : List Value} (hs : g.stack = .ref a :: rest) (hd : decode c.code g.pc = .ok (.arraylength, 1)) (t : State)
    (hr : Steps p.tables e below (T.setTop { g with pc := g.pc + 1, stack := .int n :: rest }) t) : Steps p.tables e below (T.setTop g) t := by
  obtain ⟨cl, A, -, S, N, -⟩ := F
  refine X.arraylength hx (by rw [eT]; exact A.1) (State.isArrayOf_alike hZ.alike A.2.1) hg hs hd t ?_
  rw [len_of S N]; exact hr
theorem own_aald (X : Stand p l e R s m args below meth c T locs cells slots) (hx : p.tables.exec = Jvm.exec) (hZ : Z.Warmed39 s.vm) (eT : T.heap = h) (F : Arv Z h a k ty n vs d) (hty : ty.isReference = true) {j : Int32} (hj : ¬ j < 0 ∧ j < n) {v : Value} (hv : vs.getD j.toNatClampNeg d = v) {g : JFrame} (hg : g.method = m) {rest : List Value} (hs : g.stack = .int j :: .ref a :: rest) (hd : decode c.code g.pc = .ok (.aaload, 1)) (t : State)
    (hr : Steps p.tables e below (T.setTop { g with pc := g.pc + 1, stack := v :: rest }) t) : Steps p.tables e below (T.setTop g) t := by
  obtain ⟨cl, A, -, S, N, H, -⟩ := F
  have hin := inb_of S hj
  exact X.aaload hx (by rw [eT]; exact A.1) (State.isArrayOf_alike hZ.alike A.2.1) hty A.2.2 hin (H.at hin hv) hg hs hd t hr
end own

theorem own_len {Z : State} {args : Array Value} {t : Term} {ty : FieldType} {n : Int32} (h1 : (Jvm.Cond.arrayOf t ty).value args Z none Z [] = some true) (h2 : (Jvm.Cond.eq (.length t) (.int n)).value args Z none Z [] = some true) : ∃ (a : Addr) (cl : Cell), t.eval args Z none [] Z = some (.ref a) ∧ Arr Z Z.heap a cl ty ∧ cl.slots.size.toInt32 = n ∧ cl.slots.size < 2 ^ 31 := by
  obtain ⟨a, ev⟩ := arr_v h1
  obtain ⟨cl, A⟩ := Arr.start ev h1
  have hA : Z.arrayAt? a = some cl := A.fin (Vm.Alike.refl _)
  refine ⟨a, cl, ev, A, ?_⟩
  have e3 : (Term.int n).eval args Z none [] Z = some (.int n) := Term.int_eval n
  by_cases hl : cl.slots.size < 2 ^ 31
  · have e4 := len_f ev hA hl
    simp only [Jvm.Cond.value, e4, e3] at h2
    exact ⟨by simpa using h2, hl⟩
  · exfalso
    have e5 : (Term.length t).eval args Z none [] Z = none := by simp [Term.eval, ev, hA, hl]
    simp [Jvm.Cond.value, e5] at h2
theorem own_arv0 {Z : State} {a : Addr} {cl : Cell} {ty : FieldType} {d : Value} (hf : Fit Z) (A : Arr Z Z.heap a cl ty) (e : cl.slots.size.toInt32 = 0) (hl : cl.slots.size < 2 ^ 31) : Arv Z Z.heap a cl.cls ty 0 [] d :=
  Arv.start hf A hl e (by decide) (by decide) trivial

theorem own_nar {d : String} {v : Value} (h : v.isRef = true) : narrow (.object d) v = v := by
  rcases ref_cases h with rfl | ⟨a, rfl⟩ <;> rfl
theorem own_fit {d : String} {v : Value} (h : v.isRef = true) : fits (.object d) v = true := by
  rcases ref_cases h with rfl | ⟨a, rfl⟩ <;> rfl

theorem pn_com_example_state_over_wire_stateoverwire_core_Reply : plainName "com/example/state_over_wire/stateoverwire/core/Reply" = true := by first | (simp [plainName, overriddenIn]; done) | decide +kernel
theorem pn_com_example_state_over_wire_stateoverwire_core_ReplyDonePinLaw : plainName "com/example/state_over_wire/stateoverwire/core/ReplyDonePinLaw" = true := by first | (simp [plainName, overriddenIn]; done) | decide +kernel
theorem pn_java_util_Objects : plainName "java/util/Objects" = true := by first | (simp [plainName, overriddenIn]; done) | decide +kernel
theorem pn_java_lang_Record : plainName "java/lang/Record" = true := by first | (simp [plainName, overriddenIn]; done) | decide +kernel
theorem d1_0 : decode prog_36_method_2_code 0 = .ok (.new 20, 3) := by decide +kernel
theorem d1_3 : decode prog_36_method_2_code 3 = .ok (.dup, 1) := by decide +kernel
theorem d1_4 : decode prog_36_method_2_code 4 = .ok (.getstatic 31, 3) := by decide +kernel
theorem d1_7 : decode prog_36_method_2_code 7 = .ok (.lload_n 0, 1) := by decide +kernel
theorem d1_8 : decode prog_36_method_2_code 8 = .ok (.getstatic 36, 3) := by decide +kernel
theorem d1_11 : decode prog_36_method_2_code 11 = .ok (.invokespecial 39, 3) := by decide +kernel
theorem d1_14 : decode prog_36_method_2_code 14 = .ok (.areturn, 1) := by decide +kernel
theorem d2_0 : decode prog_36_method_1_code 0 = .ok (.aload_n 0, 1) := by decide +kernel
theorem d2_1 : decode prog_36_method_1_code 1 = .ok (.invokespecial 3, 3) := by decide +kernel
theorem d2_4 : decode prog_36_method_1_code 4 = .ok (.aload_n 1, 1) := by decide +kernel
theorem d2_5 : decode prog_36_method_1_code 5 = .ok (.ldc 9, 2) := by decide +kernel
theorem d2_7 : decode prog_36_method_1_code 7 = .ok (.invokestatic 11, 3) := by decide +kernel
theorem d2_10 : decode prog_36_method_1_code 10 = .ok (.pop, 1) := by decide +kernel
theorem d2_11 : decode prog_36_method_1_code 11 = .ok (.aload 4, 2) := by decide +kernel
theorem d2_13 : decode prog_36_method_1_code 13 = .ok (.ldc 17, 2) := by decide +kernel
theorem d2_15 : decode prog_36_method_1_code 15 = .ok (.invokestatic 11, 3) := by decide +kernel
theorem d2_18 : decode prog_36_method_1_code 18 = .ok (.pop, 1) := by decide +kernel
theorem d2_19 : decode prog_36_method_1_code 19 = .ok (.aload_n 0, 1) := by decide +kernel
theorem d2_20 : decode prog_36_method_1_code 20 = .ok (.aload_n 1, 1) := by decide +kernel
theorem d2_21 : decode prog_36_method_1_code 21 = .ok (.putfield 19, 3) := by decide +kernel
theorem d2_24 : decode prog_36_method_1_code 24 = .ok (.aload_n 0, 1) := by decide +kernel
theorem d2_25 : decode prog_36_method_1_code 25 = .ok (.lload_n 2, 1) := by decide +kernel
theorem d2_26 : decode prog_36_method_1_code 26 = .ok (.putfield 24, 3) := by decide +kernel
theorem d2_29 : decode prog_36_method_1_code 29 = .ok (.aload_n 0, 1) := by decide +kernel
theorem d2_30 : decode prog_36_method_1_code 30 = .ok (.aload 4, 2) := by decide +kernel
theorem d2_32 : decode prog_36_method_1_code 32 = .ok (.putfield 28, 3) := by decide +kernel
theorem d2_35 : decode prog_36_method_1_code 35 = .ok (.return_, 1) := by decide +kernel
theorem d3_0 : decode jdk_30_method_1_code 0 = .ok (.aload_n 0, 1) := by decide +kernel
theorem d3_1 : decode jdk_30_method_1_code 1 = .ok (.invokespecial 1, 3) := by decide +kernel
theorem d3_4 : decode jdk_30_method_1_code 4 = .ok (.return_, 1) := by decide +kernel
theorem d5_0 : decode jdk_31_method_11_code 0 = .ok (.aload_n 0, 1) := by decide +kernel
theorem d5_1 : decode jdk_31_method_11_code 1 = .ok (.ifnonnull 12, 3) := by decide +kernel
theorem d5_4 : decode jdk_31_method_11_code 4 = .ok (.new 84, 3) := by decide +kernel
theorem d5_7 : decode jdk_31_method_11_code 7 = .ok (.dup, 1) := by decide +kernel
theorem d5_8 : decode jdk_31_method_11_code 8 = .ok (.aload_n 1, 1) := by decide +kernel
theorem d5_9 : decode jdk_31_method_11_code 9 = .ok (.invokespecial 87, 3) := by decide +kernel
theorem d5_12 : decode jdk_31_method_11_code 12 = .ok (.athrow, 1) := by decide +kernel
theorem d5_13 : decode jdk_31_method_11_code 13 = .ok (.aload_n 0, 1) := by decide +kernel
theorem d5_14 : decode jdk_31_method_11_code 14 = .ok (.areturn, 1) := by decide +kernel
theorem d6_0 : decode prog_36_method_15_code 0 = .ok (.aload_n 0, 1) := by decide +kernel
theorem d6_1 : decode prog_36_method_15_code 1 = .ok (.getfield 19, 3) := by decide +kernel
theorem d6_4 : decode prog_36_method_15_code 4 = .ok (.areturn, 1) := by decide +kernel
theorem d7_0 : decode prog_36_method_16_code 0 = .ok (.aload_n 0, 1) := by decide +kernel
theorem d7_1 : decode prog_36_method_16_code 1 = .ok (.getfield 24, 3) := by decide +kernel
theorem d7_4 : decode prog_36_method_16_code 4 = .ok (.lreturn, 1) := by decide +kernel
theorem d8_0 : decode prog_36_method_17_code 0 = .ok (.aload_n 0, 1) := by decide +kernel
theorem d8_1 : decode prog_36_method_17_code 1 = .ok (.getfield 28, 3) := by decide +kernel
theorem d8_4 : decode prog_36_method_17_code 4 = .ok (.areturn, 1) := by decide +kernel
theorem own_wS {Z : State} {a0 : Array Value} (hw : ∀ d ∈ tables_1, d.before a0 Z = true) : ∀ a ∈ Bundle.stringAtoms, a.before a0 Z = true := by
  intro a ha
  simp only [Bundle.stringAtoms, List.mem_cons, List.not_mem_nil, or_false] at ha
  rcases ha with rfl | rfl | rfl | rfl | rfl | rfl | rfl
  · first | exact hw _ (List.mem_of_getElem? (i := 23) rfl) | exact hw _ (List.mem_of_getElem? (i := 24) rfl) | exact hw _ (List.mem_of_getElem? (i := 25) rfl) | exact hw _ (List.mem_of_getElem? (i := 26) rfl) | exact hw _ (List.mem_of_getElem? (i := 27) rfl) | exact hw _ (List.mem_of_getElem? (i := 28) rfl) | exact hw _ (List.mem_of_getElem? (i := 29) rfl)
  · first | exact hw _ (List.mem_of_getElem? (i := 23) rfl) | exact hw _ (List.mem_of_getElem? (i := 24) rfl) | exact hw _ (List.mem_of_getElem? (i := 25) rfl) | exact hw _ (List.mem_of_getElem? (i := 26) rfl) | exact hw _ (List.mem_of_getElem? (i := 27) rfl) | exact hw _ (List.mem_of_getElem? (i := 28) rfl) | exact hw _ (List.mem_of_getElem? (i := 29) rfl)
  · first | exact hw _ (List.mem_of_getElem? (i := 23) rfl) | exact hw _ (List.mem_of_getElem? (i := 24) rfl) | exact hw _ (List.mem_of_getElem? (i := 25) rfl) | exact hw _ (List.mem_of_getElem? (i := 26) rfl) | exact hw _ (List.mem_of_getElem? (i := 27) rfl) | exact hw _ (List.mem_of_getElem? (i := 28) rfl) | exact hw _ (List.mem_of_getElem? (i := 29) rfl)
  · first | exact hw _ (List.mem_of_getElem? (i := 23) rfl) | exact hw _ (List.mem_of_getElem? (i := 24) rfl) | exact hw _ (List.mem_of_getElem? (i := 25) rfl) | exact hw _ (List.mem_of_getElem? (i := 26) rfl) | exact hw _ (List.mem_of_getElem? (i := 27) rfl) | exact hw _ (List.mem_of_getElem? (i := 28) rfl) | exact hw _ (List.mem_of_getElem? (i := 29) rfl)
  · first | exact hw _ (List.mem_of_getElem? (i := 23) rfl) | exact hw _ (List.mem_of_getElem? (i := 24) rfl) | exact hw _ (List.mem_of_getElem? (i := 25) rfl) | exact hw _ (List.mem_of_getElem? (i := 26) rfl) | exact hw _ (List.mem_of_getElem? (i := 27) rfl) | exact hw _ (List.mem_of_getElem? (i := 28) rfl) | exact hw _ (List.mem_of_getElem? (i := 29) rfl)
  · first | exact hw _ (List.mem_of_getElem? (i := 23) rfl) | exact hw _ (List.mem_of_getElem? (i := 24) rfl) | exact hw _ (List.mem_of_getElem? (i := 25) rfl) | exact hw _ (List.mem_of_getElem? (i := 26) rfl) | exact hw _ (List.mem_of_getElem? (i := 27) rfl) | exact hw _ (List.mem_of_getElem? (i := 28) rfl) | exact hw _ (List.mem_of_getElem? (i := 29) rfl)
  · first | exact hw _ (List.mem_of_getElem? (i := 23) rfl) | exact hw _ (List.mem_of_getElem? (i := 24) rfl) | exact hw _ (List.mem_of_getElem? (i := 25) rfl) | exact hw _ (List.mem_of_getElem? (i := 26) rfl) | exact hw _ (List.mem_of_getElem? (i := 27) rfl) | exact hw _ (List.mem_of_getElem? (i := 28) rfl) | exact hw _ (List.mem_of_getElem? (i := 29) rfl)
theorem pd___V : parseMethodDescriptor "()V" = some ⟨[], none⟩ := by decide +kernel
theorem pd__Ljava_lang_Object_Ljava_lang_String__Ljava_lang_Object_ : parseMethodDescriptor "(Ljava/lang/Object;Ljava/lang/String;)Ljava/lang/Object;" = some ⟨[(.object "java/lang/Object"), (.object "java/lang/String")], some (.object "java/lang/Object")⟩ := by decide +kernel
theorem pd__Lcom_example_state_over_wire_stateoverwire_core_Reply_Status_J_B_V : parseMethodDescriptor "(Lcom/example/state_over_wire/stateoverwire/core/Reply$Status;J[B)V" = some ⟨[(.object "com/example/state_over_wire/stateoverwire/core/Reply$Status"), .long, (.array .byte)], none⟩ := by decide +kernel
theorem pd__J_Lcom_example_state_over_wire_stateoverwire_core_Reply_ : parseMethodDescriptor "(J)Lcom/example/state_over_wire/stateoverwire/core/Reply;" = some ⟨[.long], some (.object "com/example/state_over_wire/stateoverwire/core/Reply")⟩ := by decide +kernel
theorem pd___Lcom_example_state_over_wire_stateoverwire_core_Reply_Status_ : parseMethodDescriptor "()Lcom/example/state_over_wire/stateoverwire/core/Reply$Status;" = some ⟨[], some (.object "com/example/state_over_wire/stateoverwire/core/Reply$Status")⟩ := by decide +kernel
theorem pd___J : parseMethodDescriptor "()J" = some ⟨[], some .long⟩ := by decide +kernel
theorem pd____B : parseMethodDescriptor "()[B" = some ⟨[], some (.array .byte)⟩ := by decide +kernel
def Q3 (Z : State) (a1 : Addr) (h0 : Heap) (n0 : Nat) (v : Option Value) (h : Heap) (L : List Loc) : Prop := v = none ∧ Fr n0 L ∧ h = h0
set_option maxRecDepth 65536 in
set_option maxHeartbeats 40000000 in
theorem rm3 (l : Launch) (Z : State) (a0 : Array Value) (hw : ∀ d ∈ tables_1, d.before a0 Z = true) (ws : List Jvm.Cond) (a1 : Addr) (h0 : Heap) (n0 : Nat) (Z0 : n0 ≤ h0.size)  :
    MetFree l (⟨"java/lang/Record", "<init>", "()V"⟩ : MethodName) (head1 (Jvm.Cond.code (⟨"java/lang/Record", "<init>", "()V"⟩ : MethodName) jdk_30_method_1_code 1 none :: ws) ({ frames := 1, cells := 0, slots := 0, locals := 12 } : Room)) (fun a U => a = #[(.ref a1)] ∧ Z.Warmed39 U.vm ∧ U.heap = h0) (fun _ _ _ _ _ => True) (fun _ U o U' => ∃ v L, o = .returned v ∧ Q3 Z a1 h0 n0 v U'.heap L ∧ FrameEnd U o U' L ({ frames := 1, cells := 0, slots := 0, locals := 12 } : Room).cells ({ frames := 1, cells := 0, slots := 0, locals := 12 } : Room).slots) := by
  refine MetFree.of_bodySF (plainFor_of_name pn_java_lang_Record) hisR ?_
  intro p e s m args below meth c s₁ Bd hml0 hP hK
  obtain ⟨rfl, hZ, hh⟩ := hP
  have hx := Bd.exec
  have hby := Bd.bytes
  have hml : c.maxLocals = 1 := hml0
  have hown : s.vm.findClass "java/lang/Record" = some m.cls := findClass_of_methodNamed Bd.named
  have hnm := (name_of_methodNamed Bd.named Bd.method).1
  have X0 : Stand p l e ({ frames := 1, cells := 0, slots := 0, locals := 12 } : Room) s m #[(.ref a1)] below meth c s₁ [] 0 0 := Stand.of_body Bd
  have e0 : s₁.heap = h0 := by rw [← hh, Bd.state]; rfl
  have N0 := Fr.nil n0
  change own_Fin p.tables e below (fun s₂ o => ∃ v L, o = .returned v ∧ Q3 Z a1 h0 n0 v s₂.heap L ∧ FrameEnd s o s₂ L ({ frames := 1, cells := 0, slots := 0, locals := 12 } : Room).cells ({ frames := 1, cells := 0, slots := 0, locals := 12 } : Room).slots) (s₁.setTop (entryFrame m #[(.ref a1)] 1))
  refine own_st (fun t k => castTop (show entryFrame m #[(.ref a1)] 1 = mkF m 0 #[.val (.ref a1)] [] by first | (simp [entryFrame, mkF, argsToLocals, Value.category, maxLocals]; done) | rfl) k) ?_
  show own_Fin p.tables e below _ (s₁.setTop (mkF m 0 #[.val (.ref a1)] []))
  refine own_st (fun t k => XS.aloadN X0.here hx rfl (hb hby d3_0) rfl rfl k) ?_
  show own_Fin p.tables e below _ (s₁.setTop (mkF m 1 #[.val (.ref a1)] [(.ref a1)]))
  obtain ⟨T1, X1, e1, st1⟩ := initO X0 hx hZ hown (hw _ (List.mem_of_getElem? (i := 19) rfl)) (hw _ (List.mem_of_getElem? (i := 20) rfl)) (hw _ (List.mem_of_getElem? (i := 21) rfl)) e0 (g := (mkF m 1 #[.val (.ref a1)] [(.ref a1)])) rfl (by rw [hml]; rfl) rfl (hb hby d3_1) (by decide) (W := 0) (by show 2 * 0 + _ ≤ _; exact Nat.le_of_eq rfl) (by decide)
  refine own_st st1 ?_
  show own_Fin p.tables e below _ (T1.setTop (mkF m 4 #[.val (.ref a1)] []))
  obtain ⟨fs, hr, hrun, hended, hW, hsame⟩ := X1.leave (v := none) (fun _ => rfl)
  refine ⟨_, _, X1.returnOut hx Bd.returns (hb hby d3_4) hr, hrun, hended, _, _, rfl, ?_, ⟨_, rfl⟩, hW, hsame.mono (by decide) (by decide)⟩
  show Q3 Z a1 h0 n0 _ T1.heap _
  rw [e1]
  exact ⟨rfl, N0, rfl⟩
def Q5 (Z : State) (a1 : Addr) (a2 : Addr) (h0 : Heap) (n0 : Nat) (v : Option Value) (h : Heap) (L : List Loc) : Prop := v = some (.ref a1) ∧ Fr n0 L ∧ h = h0
set_option maxRecDepth 65536 in
set_option maxHeartbeats 40000000 in
theorem rm5 (l : Launch) (Z : State) (a0 : Array Value) (hw : ∀ d ∈ tables_1, d.before a0 Z = true) (ws : List Jvm.Cond) (a1 : Addr) (a2 : Addr) (h0 : Heap) (n0 : Nat) (Z0 : n0 ≤ h0.size)  :
    MetFree l (⟨"java/util/Objects", "requireNonNull", "(Ljava/lang/Object;Ljava/lang/String;)Ljava/lang/Object;"⟩ : MethodName) (head1 (Jvm.Cond.code (⟨"java/util/Objects", "requireNonNull", "(Ljava/lang/Object;Ljava/lang/String;)Ljava/lang/Object;"⟩ : MethodName) jdk_31_method_11_code 2 (some (.object "java/lang/Object")) :: ws) ({ frames := 1, cells := 0, slots := 0, locals := 12 } : Room)) (fun a U => a = #[(.ref a1), (.ref a2)] ∧ Z.Warmed39 U.vm ∧ U.heap = h0) (fun _ _ _ _ _ => True) (fun _ U o U' => ∃ v L, o = .returned v ∧ Q5 Z a1 a2 h0 n0 v U'.heap L ∧ FrameEnd U o U' L ({ frames := 1, cells := 0, slots := 0, locals := 12 } : Room).cells ({ frames := 1, cells := 0, slots := 0, locals := 12 } : Room).slots) := by
  refine MetFree.of_bodySF (plainFor_of_name pn_java_util_Objects) hisR ?_
  intro p e s m args below meth c s₁ Bd hml0 hP hK
  obtain ⟨rfl, hZ, hh⟩ := hP
  have hx := Bd.exec
  have hby := Bd.bytes
  have hml : c.maxLocals = 2 := hml0
  have hown : s.vm.findClass "java/util/Objects" = some m.cls := findClass_of_methodNamed Bd.named
  have hnm := (name_of_methodNamed Bd.named Bd.method).1
  have X0 : Stand p l e ({ frames := 1, cells := 0, slots := 0, locals := 12 } : Room) s m #[(.ref a1), (.ref a2)] below meth c s₁ [] 0 0 := Stand.of_body Bd
  have e0 : s₁.heap = h0 := by rw [← hh, Bd.state]; rfl
  have N0 := Fr.nil n0
  change own_Fin p.tables e below (fun s₂ o => ∃ v L, o = .returned v ∧ Q5 Z a1 a2 h0 n0 v s₂.heap L ∧ FrameEnd s o s₂ L ({ frames := 1, cells := 0, slots := 0, locals := 12 } : Room).cells ({ frames := 1, cells := 0, slots := 0, locals := 12 } : Room).slots) (s₁.setTop (entryFrame m #[(.ref a1), (.ref a2)] 2))
  refine own_st (fun t k => castTop (show entryFrame m #[(.ref a1), (.ref a2)] 2 = mkF m 0 #[.val (.ref a1), .val (.ref a2)] [] by first | (simp [entryFrame, mkF, argsToLocals, Value.category, maxLocals]; done) | rfl) k) ?_
  show own_Fin p.tables e below _ (s₁.setTop (mkF m 0 #[.val (.ref a1), .val (.ref a2)] []))
  refine own_st (fun t k => XS.aloadN X0.here hx rfl (hb hby d5_0) rfl rfl k) ?_
  show own_Fin p.tables e below _ (s₁.setTop (mkF m 1 #[.val (.ref a1), .val (.ref a2)] [(.ref a1)]))
  refine own_st (fun t k => XS.ifnonnullYes X0.here hx rfl (pc0 := 1) (pc' := 13) rfl (hb hby d5_1) rfl (by decide) (by decide) k) ?_
  show own_Fin p.tables e below _ (s₁.setTop (mkF m 13 #[.val (.ref a1), .val (.ref a2)] []))
  refine own_st (fun t k => XS.aloadN X0.here hx rfl (hb hby d5_13) rfl rfl k) ?_
  show own_Fin p.tables e below _ (s₁.setTop (mkF m 14 #[.val (.ref a1), .val (.ref a2)] [(.ref a1)]))
  obtain ⟨fs, hr, hrun, hended, hW, hsame⟩ := X0.leave (v := (some (.ref a1))) (fun h => by rw [Bd.returns] at h; cases h)
  refine ⟨_, _, retOut X0 hx (t := (.object "java/lang/Object")) Bd.returns rfl (Or.inr (Or.inr (Or.inr (Or.inr ⟨rfl, rfl, rfl⟩)))) (hb hby d5_14) hr, hrun, hended, _, _, rfl, ?_, ⟨_, rfl⟩, hW, hsame.mono (by decide) (by decide)⟩
  show Q5 Z a1 a2 h0 n0 _ s₁.heap _
  rw [e0]
  exact ⟨rfl, N0, rfl⟩
def Q2 (Z : State) (a1 : Addr) (a2 : Addr) (vv3 : Int64) (a4 : Addr) (h0 : Heap) (n0 : Nat) (v : Option Value) (h : Heap) (L : List Loc) : Prop := v = none ∧ Fr n0 L ∧ Keep h0 h [a1] ∧ Fld Z h a1 "com/example/state_over_wire/stateoverwire/core/Reply" "status" "Lcom/example/state_over_wire/stateoverwire/core/Reply$Status;" (.ref a2) ∧ Fld Z h a1 "com/example/state_over_wire/stateoverwire/core/Reply" "version" "J" (.long vv3) ∧ Fld Z h a1 "com/example/state_over_wire/stateoverwire/core/Reply" "payload" "[B" (.ref a4)
set_option maxRecDepth 65536 in
set_option maxHeartbeats 40000000 in
theorem rm2 (l : Launch) (Z : State) (a0 : Array Value) (hw : ∀ d ∈ tables_1, d.before a0 Z = true) (ws : List Jvm.Cond) (a1 : Addr) (a2 : Addr) (vv3 : Int64) (a4 : Addr) (h0 : Heap) (n0 : Nat) (Z0 : n0 ≤ h0.size) (F_s : Fld Z h0 a1 "com/example/state_over_wire/stateoverwire/core/Reply" "status" "Lcom/example/state_over_wire/stateoverwire/core/Reply$Status;" .null) (F_v : Fld Z h0 a1 "com/example/state_over_wire/stateoverwire/core/Reply" "version" "J" (.long (0 : Int64))) (F_p : Fld Z h0 a1 "com/example/state_over_wire/stateoverwire/core/Reply" "payload" "[B" .null) (E_a : Exa Z h0 a1 "com/example/state_over_wire/stateoverwire/core/Reply") (g_a1 : n0 ≤ a1) :
    MetFree l (⟨"com/example/state_over_wire/stateoverwire/core/Reply", "<init>", "(Lcom/example/state_over_wire/stateoverwire/core/Reply$Status;J[B)V"⟩ : MethodName) (head1 (Jvm.Cond.code (⟨"com/example/state_over_wire/stateoverwire/core/Reply", "<init>", "(Lcom/example/state_over_wire/stateoverwire/core/Reply$Status;J[B)V"⟩ : MethodName) prog_36_method_1_code 5 none :: ws) ({ frames := 2, cells := 4, slots := 60, locals := 26 } : Room)) (fun a U => a = #[(.ref a1), (.ref a2), (.long vv3), (.ref a4)] ∧ Z.Warmed39 U.vm ∧ U.heap = h0) (fun _ _ _ _ _ => True) (fun _ U o U' => ∃ v L, o = .returned v ∧ Q2 Z a1 a2 vv3 a4 h0 n0 v U'.heap L ∧ ReturnedEndW U o U' L ({ frames := 2, cells := 4, slots := 60, locals := 26 } : Room).cells ({ frames := 2, cells := 4, slots := 60, locals := 26 } : Room).slots) := by
  refine MetFree.of_bodySF (plainFor_of_name pn_com_example_state_over_wire_stateoverwire_core_Reply) hisR ?_
  intro p e s m args below meth c s₁ Bd hml0 hP hK
  obtain ⟨rfl, hZ, hh⟩ := hP
  have hx := Bd.exec
  have hby := Bd.bytes
  have hml : c.maxLocals = 5 := hml0
  have hown : s.vm.findClass "com/example/state_over_wire/stateoverwire/core/Reply" = some m.cls := findClass_of_methodNamed Bd.named
  have hnm := (name_of_methodNamed Bd.named Bd.method).1
  have X0 : Stand p l e ({ frames := 2, cells := 4, slots := 60, locals := 26 } : Room) s m #[(.ref a1), (.ref a2), (.long vv3), (.ref a4)] below meth c s₁ [] 0 0 := Stand.of_body Bd
  have e0 : s₁.heap = h0 := by rw [← hh, Bd.state]; rfl
  have N0 := Fr.nil n0
  change own_Fin p.tables e below (fun s₂ o => ∃ v L, o = .returned v ∧ Q2 Z a1 a2 vv3 a4 h0 n0 v s₂.heap L ∧ ReturnedEndW s o s₂ L ({ frames := 2, cells := 4, slots := 60, locals := 26 } : Room).cells ({ frames := 2, cells := 4, slots := 60, locals := 26 } : Room).slots) (s₁.setTop (entryFrame m #[(.ref a1), (.ref a2), (.long vv3), (.ref a4)] 5))
  refine own_st (fun t k => castTop (show entryFrame m #[(.ref a1), (.ref a2), (.long vv3), (.ref a4)] 5 = mkF m 0 #[.val (.ref a1), .val (.ref a2), .val (.long vv3), .second, .val (.ref a4)] [] by first | (simp [entryFrame, mkF, argsToLocals, Value.category, maxLocals]; done) | rfl) k) ?_
  show own_Fin p.tables e below _ (s₁.setTop (mkF m 0 #[.val (.ref a1), .val (.ref a2), .val (.long vv3), .second, .val (.ref a4)] []))
  have sn0 : s.Since s.vm 0 := (State.WarmedH.refl s).since 0
  have kn0 : 0 ≤ h0.size := Nat.zero_le _
  have K0 : Keep h0 h0 [a1] := Keep.refl h0 [a1]
  refine own_st (fun t k => XS.aloadN X0.here hx rfl (hb hby d2_0) rfl rfl k) ?_
  show own_Fin p.tables e below _ (s₁.setTop (mkF m 1 #[.val (.ref a1), .val (.ref a2), .val (.long vv3), .second, .val (.ref a4)] [(.ref a1)]))
  obtain ⟨_, _, ⟨T1, L1, k1, n1⟩, -, X1, ⟨Lc1, hQ1, l1, y1, z1⟩, st1⟩ := X0.specialBack hx (y := (⟨"java/lang/Record", "<init>", "()V"⟩ : MethodName)) rfl hown (mvT hZ (hw _ (List.mem_of_getElem? (i := 14) rfl))) (mvT hZ (hw _ (List.mem_of_getElem? (i := 15) rfl))) (mvT hZ (hw _ (List.mem_of_getElem? (i := 18) rfl))) (by decide) (backOf (W := 0) (rm3 l Z a0 hw [] a1 h0 n0 Z0) hZ (hw _ (List.mem_of_getElem? (i := 18) rfl)) (hw _ (List.mem_of_getElem? (i := 17) rfl)) (by decide) (by decide)) (g := (mkF m 1 #[.val (.ref a1), .val (.ref a2), .val (.long vv3), .second, .val (.ref a4)] [(.ref a1)])) rfl (by rw [hml]; rfl) (Steps.refl _) (a := a1) (argsL := []) (rest := []) (lenOf pd___V rfl) rfl (by show 2 * 0 + _ ≤ _; exact Nat.le_of_eq rfl) (hb hby d2_1) (fun _ _ => ⟨rfl, e0, (by decide : 0 + 0 ≤ _), (by decide : 0 + 0 ≤ _)⟩)
  dsimp only [Pt.U, Pt.locs, Pt.cells, Pt.slots] at X1 l1 y1 z1 st1 hQ1
  subst l1 y1 z1
  obtain ⟨rfl, N1, q1⟩ := hQ1
  refine own_st (fun t k => st1.trans k) ?_
  have N1a := Fr.app N0 N1
  show own_Fin p.tables e below _ (T1.setTop (mkF m 4 #[.val (.ref a1), .val (.ref a2), .val (.long vv3), .second, .val (.ref a4)] []))
  refine own_st (fun t k => XS.aloadN X1.here hx rfl (hb hby d2_4) rfl rfl k) ?_
  show own_Fin p.tables e below _ (T1.setTop (mkF m 5 #[.val (.ref a1), .val (.ref a2), .val (.long vv3), .second, .val (.ref a4)] [(.ref a2)]))
  obtain ⟨b2, T2, h2, k2, X2, e2, E2, sn2, kn2, hZ2, hown2, st2⟩ := ldcS (s := s) (vm0 := s.vm) X1 hx hZ hown (hw _ (List.mem_of_getElem? (i := 22) rfl)) (own_wS hw) q1 sn0 kn0 (g := (mkF m 5 #[.val (.ref a1), .val (.ref a2), .val (.long vv3), .second, .val (.ref a4)] [(.ref a2)])) rfl (hb hby d2_5) (n := 24) (by decide +kernel) (by decide) (by decide) (by decide)
  refine own_st st2 ?_
  have F_s'2 := F_s.ext E2
  have F_v'2 := F_v.ext E2
  have F_p'2 := F_p.ext E2
  have E_a'2 := E_a.ext E2
  have K0'2 := K0.ext E2
  have Z2 : n0 ≤ h2.size := Nat.le_trans Z0 E2.1
  show own_Fin p.tables e below _ (T2.setTop (mkF m 7 #[.val (.ref a1), .val (.ref a2), .val (.long vv3), .second, .val (.ref a4)] [(.ref b2), (.ref a2)]))
  obtain ⟨_, _, ⟨T3, L3, k3, n3⟩, -, X3, ⟨Lc3, hQ3, l3, y3, z3⟩, st3⟩ := Jvm.LawKit.callS X2 hx (y := (⟨"java/util/Objects", "requireNonNull", "(Ljava/lang/Object;Ljava/lang/String;)Ljava/lang/Object;"⟩ : MethodName)) hown2 (mvT hZ2 (hw _ (List.mem_of_getElem? (i := 30) rfl))) (mvT hZ2 (hw _ (List.mem_of_getElem? (i := 31) rfl))) (mvT hZ2 (hw _ (List.mem_of_getElem? (i := 32) rfl))) (mvT hZ2 (hw _ (List.mem_of_getElem? (i := 33) rfl))) (by decide) (backOf (W := 0) (rm5 l Z a0 hw [] a2 b2 h2 n0 Z2) hZ2 (hw _ (List.mem_of_getElem? (i := 33) rfl)) (hw _ (List.mem_of_getElem? (i := 32) rfl)) (by decide) (by decide)) (g := (mkF m 7 #[.val (.ref a1), .val (.ref a2), .val (.long vv3), .second, .val (.ref a4)] [(.ref b2), (.ref a2)])) rfl (by rw [hml]; rfl) (argsL := [(.ref a2), (.ref b2)]) (rest := []) (lenOf pd__Ljava_lang_Object_Ljava_lang_String__Ljava_lang_Object_ rfl) rfl (by show 2 * 0 + _ ≤ _; exact Nat.le_of_eq rfl) (hb hby d2_7) (fun _ _ => ⟨rfl, e2, (by decide : 2 + 0 ≤ _), (by decide : 28 + 0 ≤ _)⟩)
  dsimp only [Pt.U, Pt.locs, Pt.cells, Pt.slots] at X3 l3 y3 z3 st3 hQ3
  subst l3 y3 z3
  obtain ⟨rfl, N3, q3⟩ := hQ3
  refine own_st (st3) ?_
  have N3a := Fr.app N1a N3
  show own_Fin p.tables e below _ (T3.setTop (mkF m 10 #[.val (.ref a1), .val (.ref a2), .val (.long vv3), .second, .val (.ref a4)] [(.ref a2)]))
  refine own_st (fun t k => XS.pop X3.here hx rfl (hb hby d2_10) rfl rfl k) ?_
  show own_Fin p.tables e below _ (T3.setTop (mkF m 11 #[.val (.ref a1), .val (.ref a2), .val (.long vv3), .second, .val (.ref a4)] []))
  refine own_st (fun t k => XS.aload X3.here hx rfl (hb hby d2_11) rfl rfl k) ?_
  show own_Fin p.tables e below _ (T3.setTop (mkF m 13 #[.val (.ref a1), .val (.ref a2), .val (.long vv3), .second, .val (.ref a4)] [(.ref a4)]))
  obtain ⟨b4, T4, h4, k4, X4, e4, E4, sn4, kn4, hZ4, hown4, st4⟩ := ldcS (s := s) (vm0 := T2.vm) X3 hx hZ2 hown2 (hw _ (List.mem_of_getElem? (i := 34) rfl)) (own_wS hw) q3 sn2 kn2 (g := (mkF m 13 #[.val (.ref a1), .val (.ref a2), .val (.long vv3), .second, .val (.ref a4)] [(.ref a4)])) rfl (hb hby d2_13) (n := 28) (by decide +kernel) (by decide) (by decide) (by decide)
  refine own_st st4 ?_
  have F_s'4 := F_s'2.ext E4
  have F_v'4 := F_v'2.ext E4
  have F_p'4 := F_p'2.ext E4
  have E_a'4 := E_a'2.ext E4
  have K0'4 := K0'2.ext E4
  have Z4 : n0 ≤ h4.size := Nat.le_trans Z2 E4.1
  show own_Fin p.tables e below _ (T4.setTop (mkF m 15 #[.val (.ref a1), .val (.ref a2), .val (.long vv3), .second, .val (.ref a4)] [(.ref b4), (.ref a4)]))
  obtain ⟨_, _, ⟨T5, L5, k5, n5⟩, -, X5, ⟨Lc5, hQ5, l5, y5, z5⟩, st5⟩ := Jvm.LawKit.callS X4 hx (y := (⟨"java/util/Objects", "requireNonNull", "(Ljava/lang/Object;Ljava/lang/String;)Ljava/lang/Object;"⟩ : MethodName)) hown4 (mvT hZ4 (hw _ (List.mem_of_getElem? (i := 30) rfl))) (mvT hZ4 (hw _ (List.mem_of_getElem? (i := 31) rfl))) (mvT hZ4 (hw _ (List.mem_of_getElem? (i := 32) rfl))) (mvT hZ4 (hw _ (List.mem_of_getElem? (i := 33) rfl))) (by decide) (backOf (W := 0) (rm5 l Z a0 hw [] a4 b4 h4 n0 Z4) hZ4 (hw _ (List.mem_of_getElem? (i := 33) rfl)) (hw _ (List.mem_of_getElem? (i := 32) rfl)) (by decide) (by decide)) (g := (mkF m 15 #[.val (.ref a1), .val (.ref a2), .val (.long vv3), .second, .val (.ref a4)] [(.ref b4), (.ref a4)])) rfl (by rw [hml]; rfl) (argsL := [(.ref a4), (.ref b4)]) (rest := []) (lenOf pd__Ljava_lang_Object_Ljava_lang_String__Ljava_lang_Object_ rfl) rfl (by show 2 * 0 + _ ≤ _; exact Nat.le_of_eq rfl) (hb hby d2_15) (fun _ _ => ⟨rfl, e4, (by decide : 4 + 0 ≤ _), (by decide : 60 + 0 ≤ _)⟩)
  dsimp only [Pt.U, Pt.locs, Pt.cells, Pt.slots] at X5 l5 y5 z5 st5 hQ5
  subst l5 y5 z5
  obtain ⟨rfl, N5, q5⟩ := hQ5
  refine own_st (st5) ?_
  have N5a := Fr.app N3a N5
  show own_Fin p.tables e below _ (T5.setTop (mkF m 18 #[.val (.ref a1), .val (.ref a2), .val (.long vv3), .second, .val (.ref a4)] [(.ref a4)]))
  refine own_st (fun t k => XS.pop X5.here hx rfl (hb hby d2_18) rfl rfl k) ?_
  show own_Fin p.tables e below _ (T5.setTop (mkF m 19 #[.val (.ref a1), .val (.ref a2), .val (.long vv3), .second, .val (.ref a4)] []))
  refine own_st (fun t k => XS.aloadN X5.here hx rfl (hb hby d2_19) rfl rfl k) ?_
  show own_Fin p.tables e below _ (T5.setTop (mkF m 20 #[.val (.ref a1), .val (.ref a2), .val (.long vv3), .second, .val (.ref a4)] [(.ref a1)]))
  refine own_st (fun t k => XS.aloadN X5.here hx rfl (hb hby d2_20) rfl rfl k) ?_
  show own_Fin p.tables e below _ (T5.setTop (mkF m 21 #[.val (.ref a1), .val (.ref a2), .val (.long vv3), .second, .val (.ref a4)] [(.ref a2), (.ref a1)]))
  obtain ⟨T6, h6, X6, e6, W6, st6⟩ := putF X5 hx hZ4 hown4 (host := "") (Or.inl (hw _ (List.mem_of_getElem? (i := 35) rfl))) Via.refl q5 F_s'4 E_a'4 (Or.inr ⟨(hw _ (List.mem_of_getElem? (i := 36) rfl)), rfl, hnm⟩) (hw _ (List.mem_of_getElem? (i := 5) rfl)) (ty := (.object "com/example/state_over_wire/stateoverwire/core/Reply$Status")) (by decide) rfl rfl (g := (mkF m 21 #[.val (.ref a1), .val (.ref a2), .val (.long vv3), .second, .val (.ref a4)] [(.ref a2), (.ref a1)])) rfl rfl (hb hby d2_21)
  refine own_st st6 ?_
  have F_s'6 := F_s'4.same W6
  have F_v'6 := F_v'4.other W6 (Or.inr (slot_ne (Or.inr (hw _ (List.mem_of_getElem? (i := 38) rfl))) (Or.inr (hw _ (List.mem_of_getElem? (i := 36) rfl))) (by decide) (t := .long) (t' := (.object "com/example/state_over_wire/stateoverwire/core/Reply$Status")) (by decide) (by decide)))
  have F_p'6 := F_p'4.other W6 (Or.inr (slot_ne (Or.inr (hw _ (List.mem_of_getElem? (i := 40) rfl))) (Or.inr (hw _ (List.mem_of_getElem? (i := 36) rfl))) (by decide) (t := (.array .byte)) (t' := (.object "com/example/state_over_wire/stateoverwire/core/Reply$Status")) (by decide) (by decide)))
  have E_a'6 := E_a'4.wr W6
  have K0'6 := K0'4.wr W6 (Or.inl (List.mem_of_getElem? (i := 0) rfl))
  have kn4'6 := Nat.le_trans kn4 (Nat.le_of_eq W6.size.symm)
  have N6 := Fr.snoc X6 N5a g_a1
  have Z6 : n0 ≤ h6.size := by rw [W6.size]; exact Z4
  show own_Fin p.tables e below _ (T6.setTop (mkF m 24 #[.val (.ref a1), .val (.ref a2), .val (.long vv3), .second, .val (.ref a4)] []))
  refine own_st (fun t k => XS.aloadN X6.here hx rfl (hb hby d2_24) rfl rfl k) ?_
  show own_Fin p.tables e below _ (T6.setTop (mkF m 25 #[.val (.ref a1), .val (.ref a2), .val (.long vv3), .second, .val (.ref a4)] [(.ref a1)]))
  refine own_st (fun t k => XS.lloadN X6.here hx rfl (hb hby d2_25) rfl k) ?_
  show own_Fin p.tables e below _ (T6.setTop (mkF m 26 #[.val (.ref a1), .val (.ref a2), .val (.long vv3), .second, .val (.ref a4)] [(.long vv3), (.ref a1)]))
  obtain ⟨T7, h7, X7, e7, W7, st7⟩ := putF X6 hx hZ4 hown4 (host := "") (Or.inl (hw _ (List.mem_of_getElem? (i := 37) rfl))) Via.refl e6 F_v'6 E_a'6 (Or.inr ⟨(hw _ (List.mem_of_getElem? (i := 38) rfl)), rfl, hnm⟩) (hw _ (List.mem_of_getElem? (i := 5) rfl)) (ty := .long) (by decide) rfl rfl (g := (mkF m 26 #[.val (.ref a1), .val (.ref a2), .val (.long vv3), .second, .val (.ref a4)] [(.long vv3), (.ref a1)])) rfl rfl (hb hby d2_26)
  refine own_st st7 ?_
  have F_s'7 := F_s'6.other W7 (Or.inr (slot_ne (Or.inr (hw _ (List.mem_of_getElem? (i := 36) rfl))) (Or.inr (hw _ (List.mem_of_getElem? (i := 38) rfl))) (by decide) (t := (.object "com/example/state_over_wire/stateoverwire/core/Reply$Status")) (t' := .long) (by decide) (by decide)))
  have F_v'7 := F_v'6.same W7
  have F_p'7 := F_p'6.other W7 (Or.inr (slot_ne (Or.inr (hw _ (List.mem_of_getElem? (i := 40) rfl))) (Or.inr (hw _ (List.mem_of_getElem? (i := 38) rfl))) (by decide) (t := (.array .byte)) (t' := .long) (by decide) (by decide)))
  have E_a'7 := E_a'6.wr W7
  have K0'7 := K0'6.wr W7 (Or.inl (List.mem_of_getElem? (i := 0) rfl))
  have kn4'7 := Nat.le_trans kn4'6 (Nat.le_of_eq W7.size.symm)
  have N7 := Fr.snoc X7 N6 g_a1
  have Z7 : n0 ≤ h7.size := by rw [W7.size]; exact Z6
  show own_Fin p.tables e below _ (T7.setTop (mkF m 29 #[.val (.ref a1), .val (.ref a2), .val (.long vv3), .second, .val (.ref a4)] []))
  refine own_st (fun t k => XS.aloadN X7.here hx rfl (hb hby d2_29) rfl rfl k) ?_
  show own_Fin p.tables e below _ (T7.setTop (mkF m 30 #[.val (.ref a1), .val (.ref a2), .val (.long vv3), .second, .val (.ref a4)] [(.ref a1)]))
  refine own_st (fun t k => XS.aload X7.here hx rfl (hb hby d2_30) rfl rfl k) ?_
  show own_Fin p.tables e below _ (T7.setTop (mkF m 32 #[.val (.ref a1), .val (.ref a2), .val (.long vv3), .second, .val (.ref a4)] [(.ref a4), (.ref a1)]))
  obtain ⟨T8, h8, X8, e8, W8, st8⟩ := putF X7 hx hZ4 hown4 (host := "") (Or.inl (hw _ (List.mem_of_getElem? (i := 39) rfl))) Via.refl e7 F_p'7 E_a'7 (Or.inr ⟨(hw _ (List.mem_of_getElem? (i := 40) rfl)), rfl, hnm⟩) (hw _ (List.mem_of_getElem? (i := 5) rfl)) (ty := (.array .byte)) (by decide) rfl rfl (g := (mkF m 32 #[.val (.ref a1), .val (.ref a2), .val (.long vv3), .second, .val (.ref a4)] [(.ref a4), (.ref a1)])) rfl rfl (hb hby d2_32)
  refine own_st st8 ?_
  have F_s'8 := F_s'7.other W8 (Or.inr (slot_ne (Or.inr (hw _ (List.mem_of_getElem? (i := 36) rfl))) (Or.inr (hw _ (List.mem_of_getElem? (i := 40) rfl))) (by decide) (t := (.object "com/example/state_over_wire/stateoverwire/core/Reply$Status")) (t' := (.array .byte)) (by decide) (by decide)))
  have F_v'8 := F_v'7.other W8 (Or.inr (slot_ne (Or.inr (hw _ (List.mem_of_getElem? (i := 38) rfl))) (Or.inr (hw _ (List.mem_of_getElem? (i := 40) rfl))) (by decide) (t := .long) (t' := (.array .byte)) (by decide) (by decide)))
  have F_p'8 := F_p'7.same W8
  have E_a'8 := E_a'7.wr W8
  have K0'8 := K0'7.wr W8 (Or.inl (List.mem_of_getElem? (i := 0) rfl))
  have kn4'8 := Nat.le_trans kn4'7 (Nat.le_of_eq W8.size.symm)
  have N8 := Fr.snoc X8 N7 g_a1
  have Z8 : n0 ≤ h8.size := by rw [W8.size]; exact Z7
  show own_Fin p.tables e below _ (T8.setTop (mkF m 35 #[.val (.ref a1), .val (.ref a2), .val (.long vv3), .second, .val (.ref a4)] []))
  obtain ⟨fs, hr, hrun, hended, hRW⟩ := Jvm.Stand.leaveW (s := s) (vm₁ := T4.vm) X8 sn4 (by rw [show T8.heap = h8 from e8]; exact kn4'8) (v := none) (fun _ => rfl)
  refine ⟨_, _, X8.returnOut hx Bd.returns (hb hby d2_35) hr, hrun, hended, _, _, rfl, ?_, hRW.1, hRW.2.1, hRW.2.2.1, hRW.2.2.2.mono (by decide) (by decide)⟩
  show Q2 Z a1 a2 vv3 a4 h0 n0 _ T8.heap _
  rw [e8]
  exact ⟨rfl, N8, K0'8, F_s'8, F_v'8, F_p'8⟩
def Q1 (Z : State) (vv1 : Int64) (aD : Addr) (aE : Addr) (h0 : Heap) (n0 : Nat) (v : Option Value) (h : Heap) (L : List Loc) : Prop := ∃ r, v = some (.ref r) ∧ Fr n0 L ∧ Old Z n0 h ∧ Exa Z h r "com/example/state_over_wire/stateoverwire/core/Reply" ∧ Fld Z h r "com/example/state_over_wire/stateoverwire/core/Reply" "status" "Lcom/example/state_over_wire/stateoverwire/core/Reply$Status;" (.ref aD) ∧ Fld Z h r "com/example/state_over_wire/stateoverwire/core/Reply" "version" "J" (.long vv1) ∧ Fld Z h r "com/example/state_over_wire/stateoverwire/core/Reply" "payload" "[B" (.ref aE)
set_option maxRecDepth 65536 in
set_option maxHeartbeats 40000000 in
theorem rm1 (l : Launch) (Z : State) (a0 : Array Value) (hw : ∀ d ∈ tables_1, d.before a0 Z = true) (ws : List Jvm.Cond) (vv1 : Int64) (aD : Addr) (aE : Addr) (h0 : Heap) (n0 : Nat) (Z0 : n0 ≤ h0.size) (O0 : Old Z n0 h0) (S_D : Sta Z Z.heap "com/example/state_over_wire/stateoverwire/core/Reply$Status" "DONE" "Lcom/example/state_over_wire/stateoverwire/core/Reply$Status;" (.ref aD)) (S_E : Sta Z Z.heap "com/example/state_over_wire/stateoverwire/core/Reply" "EMPTY" "[B" (.ref aE)) :
    MetFree l (⟨"com/example/state_over_wire/stateoverwire/core/Reply", "done", "(J)Lcom/example/state_over_wire/stateoverwire/core/Reply;"⟩ : MethodName) (head1 (Jvm.Cond.code (⟨"com/example/state_over_wire/stateoverwire/core/Reply", "done", "(J)Lcom/example/state_over_wire/stateoverwire/core/Reply;"⟩ : MethodName) prog_36_method_2_code 2 (some (.object "com/example/state_over_wire/stateoverwire/core/Reply")) :: ws) ({ frames := 3, cells := 5, slots := 63, locals := 44 } : Room)) (fun a U => a = #[(.long vv1)] ∧ Z.Warmed39 U.vm ∧ U.heap = h0) (fun _ _ _ _ _ => True) (fun _ U o U' => ∃ v L, o = .returned v ∧ Q1 Z vv1 aD aE h0 n0 v U'.heap L ∧ ReturnedEndW U o U' L ({ frames := 3, cells := 5, slots := 63, locals := 44 } : Room).cells ({ frames := 3, cells := 5, slots := 63, locals := 44 } : Room).slots) := by
  refine MetFree.of_bodySF (plainFor_of_name pn_com_example_state_over_wire_stateoverwire_core_Reply) hisR ?_
  intro p e s m args below meth c s₁ Bd hml0 hP hK
  obtain ⟨rfl, hZ, hh⟩ := hP
  have hx := Bd.exec
  have hby := Bd.bytes
  have hml : c.maxLocals = 2 := hml0
  have hown : s.vm.findClass "com/example/state_over_wire/stateoverwire/core/Reply" = some m.cls := findClass_of_methodNamed Bd.named
  have hnm := (name_of_methodNamed Bd.named Bd.method).1
  have X0 : Stand p l e ({ frames := 3, cells := 5, slots := 63, locals := 44 } : Room) s m #[(.long vv1)] below meth c s₁ [] 0 0 := Stand.of_body Bd
  have e0 : s₁.heap = h0 := by rw [← hh, Bd.state]; rfl
  have N0 := Fr.nil n0
  change own_Fin p.tables e below (fun s₂ o => ∃ v L, o = .returned v ∧ Q1 Z vv1 aD aE h0 n0 v s₂.heap L ∧ ReturnedEndW s o s₂ L ({ frames := 3, cells := 5, slots := 63, locals := 44 } : Room).cells ({ frames := 3, cells := 5, slots := 63, locals := 44 } : Room).slots) (s₁.setTop (entryFrame m #[(.long vv1)] 2))
  refine own_st (fun t k => castTop (show entryFrame m #[(.long vv1)] 2 = mkF m 0 #[.val (.long vv1), .second] [] by first | (simp [entryFrame, mkF, argsToLocals, Value.category, maxLocals]; done) | rfl) k) ?_
  show own_Fin p.tables e below _ (s₁.setTop (mkF m 0 #[.val (.long vv1), .second] []))
  have sn0 : s.Since s.vm 0 := (State.WarmedH.refl s).since 0
  have kn0 : 0 ≤ h0.size := Nat.zero_le _
  obtain ⟨T1, h1, X1, e1, E1, A1, D1, U1, st1⟩ := newO X0 hx hZ hown (hw _ (List.mem_of_getElem? (i := 4) rfl)) (hw _ (List.mem_of_getElem? (i := 5) rfl)) (hw _ (List.mem_of_getElem? (i := 2) rfl)) e0 (g := (mkF m 0 #[.val (.long vv1), .second] [])) rfl (hb hby d1_0) (by decide) (by decide)
  obtain ⟨b1, g1⟩ : ∃ z, z = h0.size := ⟨_, rfl⟩
  have g_b1 : n0 ≤ b1 := Nat.le_trans Z0 (Nat.le_of_eq g1.symm)
  rw [← g1] at A1 D1 U1 st1
  refine own_st st1 ?_
  have O0'1 := O0.ext E1
  have kn0'1 := Nat.le_trans kn0 E1.1
  have Z1 : n0 ≤ h1.size := Nat.le_trans Z0 E1.1
  have F_status_b1 : Fld Z h1 b1 "com/example/state_over_wire/stateoverwire/core/Reply" "status" "Lcom/example/state_over_wire/stateoverwire/core/Reply$Status;" .null := D1 (Or.inr (hw _ (List.mem_of_getElem? (i := 36) rfl))) (ty := (.object "com/example/state_over_wire/stateoverwire/core/Reply$Status")) (by decide)
  have F_version_b1 : Fld Z h1 b1 "com/example/state_over_wire/stateoverwire/core/Reply" "version" "J" (.long (0 : Int64)) := D1 (Or.inr (hw _ (List.mem_of_getElem? (i := 38) rfl))) (ty := .long) (by decide)
  have F_payload_b1 : Fld Z h1 b1 "com/example/state_over_wire/stateoverwire/core/Reply" "payload" "[B" .null := D1 (Or.inr (hw _ (List.mem_of_getElem? (i := 40) rfl))) (ty := (.array .byte)) (by decide)
  show own_Fin p.tables e below _ (T1.setTop (mkF m 3 #[.val (.long vv1), .second] [(.ref b1)]))
  refine own_st (fun t k => XS.dup X1.here hx rfl (hb hby d1_3) rfl rfl k) ?_
  show own_Fin p.tables e below _ (T1.setTop (mkF m 4 #[.val (.long vv1), .second] [(.ref b1), (.ref b1)]))
  obtain ⟨T2, X2, e2, st2⟩ := getS (host := "") X1 hx hZ hown (hw _ (List.mem_of_getElem? (i := 6) rfl)) Via.refl e1 (Sta.ext O0'1.2 S_D) (g := (mkF m 4 #[.val (.long vv1), .second] [(.ref b1), (.ref b1)])) rfl (hb hby d1_4)
  refine own_st st2 ?_
  show own_Fin p.tables e below _ (T2.setTop (mkF m 7 #[.val (.long vv1), .second] [(.ref aD), (.ref b1), (.ref b1)]))
  refine own_st (fun t k => XS.lloadN X2.here hx rfl (hb hby d1_7) rfl k) ?_
  show own_Fin p.tables e below _ (T2.setTop (mkF m 8 #[.val (.long vv1), .second] [(.long vv1), (.ref aD), (.ref b1), (.ref b1)]))
  obtain ⟨T3, X3, e3, st3⟩ := getS (host := "") X2 hx hZ hown (hw _ (List.mem_of_getElem? (i := 9) rfl)) Via.refl e2 (Sta.ext O0'1.2 S_E) (g := (mkF m 8 #[.val (.long vv1), .second] [(.long vv1), (.ref aD), (.ref b1), (.ref b1)])) rfl (hb hby d1_8)
  refine own_st st3 ?_
  show own_Fin p.tables e below _ (T3.setTop (mkF m 11 #[.val (.long vv1), .second] [(.ref aE), (.long vv1), (.ref aD), (.ref b1), (.ref b1)]))
  obtain ⟨_, _, ⟨T4, L4, k4, n4⟩, -, X4, s24, gr4, ⟨Lc4, hQ4, l4, y4, z4⟩, st4⟩ := X3.specialBackS hx (y := (⟨"com/example/state_over_wire/stateoverwire/core/Reply", "<init>", "(Lcom/example/state_over_wire/stateoverwire/core/Reply$Status;J[B)V"⟩ : MethodName)) rfl hown (mvT hZ (hw _ (List.mem_of_getElem? (i := 11) rfl))) (mvT hZ (hw _ (List.mem_of_getElem? (i := 12) rfl))) (mvT hZ (hw _ (List.mem_of_getElem? (i := 13) rfl))) (by decide) (backOfS (W := 1) (rm2 l Z a0 hw [] b1 aD vv1 aE h1 n0 Z1 F_status_b1 F_version_b1 F_payload_b1 A1 g_b1) hZ (hw _ (List.mem_of_getElem? (i := 13) rfl)) (hw _ (List.mem_of_getElem? (i := 2) rfl)) (by decide) (by decide)) (g := (mkF m 11 #[.val (.long vv1), .second] [(.ref aE), (.long vv1), (.ref aD), (.ref b1), (.ref b1)])) rfl (by rw [hml]; rfl) (Steps.refl _) (a := b1) (argsL := [(.ref aD), (.long vv1), (.ref aE)]) (rest := [(.ref b1)]) (lenOf pd__Lcom_example_state_over_wire_stateoverwire_core_Reply_Status_J_B_V rfl) rfl (by show 2 * 0 + _ ≤ _; exact Nat.le_of_eq rfl) (hb hby d1_11) (fun _ _ => ⟨rfl, e3, (by decide : 1 + 4 ≤ _), (by decide : 3 + 60 ≤ _)⟩)
  dsimp only [Pt.U, Pt.locs, Pt.cells, Pt.slots] at X4 l4 y4 z4 st4 hQ4 s24 gr4
  subst l4 y4 z4
  obtain ⟨rfl, N4, K4, Fs4, Fv4, Fp4⟩ := hQ4
  refine own_st (fun t k => st4.trans k) ?_
  have gr4' : h1.size ≤ T4.heap.size := by rw [← (e3 : T3.heap = h1)]; exact gr4
  obtain ⟨X4, sn4, hZ4, hown4⟩ := rebS (s := s) (vm0 := s.vm) (vm1 := T4.vm) sn0 (Nat.le_trans kn0'1 gr4') X4 s24 (Nat.le_refl _) hZ hown
  have O0'4 := O0'1.keep K4 (allS g_b1 all0)
  have A1'4 := A1.keep K4
  have Z4 : n0 ≤ T4.heap.size := Nat.le_trans Z1 K4.1
  have kn4 : T4.heap.size ≤ T4.heap.size := Nat.le_refl _
  have N4a := Fr.app N0 N4
  show own_Fin p.tables e below _ (T4.setTop (mkF m 14 #[.val (.long vv1), .second] [(.ref b1)]))
  obtain ⟨fs, hr, hrun, hended, hRW⟩ := Jvm.Stand.leaveW (s := s) (vm₁ := T4.vm) X4 sn4 (by rw [show T4.heap = T4.heap from rfl]; exact kn4) (v := (some (.ref b1))) (fun h => by rw [Bd.returns] at h; cases h)
  refine ⟨_, _, retOut X4 hx (t := (.object "com/example/state_over_wire/stateoverwire/core/Reply")) Bd.returns rfl (Or.inr (Or.inr (Or.inr (Or.inr ⟨rfl, rfl, rfl⟩)))) (hb hby d1_14) hr, hrun, hended, _, _, rfl, ?_, hRW.1, hRW.2.1, hRW.2.2.1, hRW.2.2.2.mono (by decide) (by decide)⟩
  show Q1 Z vv1 aD aE h0 n0 _ T4.heap _
  exact ⟨_, rfl, N4a, O0'4, A1'4, Fs4, Fv4, Fp4⟩
def Q6 (Z : State) (a1 : Addr) (x : Addr) (h0 : Heap) (n0 : Nat) (v : Option Value) (h : Heap) (L : List Loc) : Prop := v = some (.ref x) ∧ Fr n0 L ∧ h = h0
set_option maxRecDepth 65536 in
set_option maxHeartbeats 40000000 in
theorem rm6 (l : Launch) (Z : State) (a0 : Array Value) (hw : ∀ d ∈ tables_1, d.before a0 Z = true) (ws : List Jvm.Cond) (a1 : Addr) (x : Addr) (h0 : Heap) (n0 : Nat) (Z0 : n0 ≤ h0.size) (F_1 : Fld Z h0 a1 "com/example/state_over_wire/stateoverwire/core/Reply" "status" "Lcom/example/state_over_wire/stateoverwire/core/Reply$Status;" (.ref x)) :
    MetFree l (⟨"com/example/state_over_wire/stateoverwire/core/Reply", "status", "()Lcom/example/state_over_wire/stateoverwire/core/Reply$Status;"⟩ : MethodName) (head1 (Jvm.Cond.code (⟨"com/example/state_over_wire/stateoverwire/core/Reply", "status", "()Lcom/example/state_over_wire/stateoverwire/core/Reply$Status;"⟩ : MethodName) prog_36_method_15_code 1 (some (.object "com/example/state_over_wire/stateoverwire/core/Reply$Status")) :: ws) ({ frames := 1, cells := 0, slots := 0, locals := 12 } : Room)) (fun a U => a = #[(.ref a1)] ∧ Z.Warmed39 U.vm ∧ U.heap = h0) (fun _ _ _ _ _ => True) (fun _ U o U' => ∃ v L, o = .returned v ∧ Q6 Z a1 x h0 n0 v U'.heap L ∧ FrameEnd U o U' L ({ frames := 1, cells := 0, slots := 0, locals := 12 } : Room).cells ({ frames := 1, cells := 0, slots := 0, locals := 12 } : Room).slots) := by
  refine MetFree.of_bodySF (plainFor_of_name pn_com_example_state_over_wire_stateoverwire_core_Reply) hisR ?_
  intro p e s m args below meth c s₁ Bd hml0 hP hK
  obtain ⟨rfl, hZ, hh⟩ := hP
  have hx := Bd.exec
  have hby := Bd.bytes
  have hml : c.maxLocals = 1 := hml0
  have hown : s.vm.findClass "com/example/state_over_wire/stateoverwire/core/Reply" = some m.cls := findClass_of_methodNamed Bd.named
  have hnm := (name_of_methodNamed Bd.named Bd.method).1
  have X0 : Stand p l e ({ frames := 1, cells := 0, slots := 0, locals := 12 } : Room) s m #[(.ref a1)] below meth c s₁ [] 0 0 := Stand.of_body Bd
  have e0 : s₁.heap = h0 := by rw [← hh, Bd.state]; rfl
  have N0 := Fr.nil n0
  change own_Fin p.tables e below (fun s₂ o => ∃ v L, o = .returned v ∧ Q6 Z a1 x h0 n0 v s₂.heap L ∧ FrameEnd s o s₂ L ({ frames := 1, cells := 0, slots := 0, locals := 12 } : Room).cells ({ frames := 1, cells := 0, slots := 0, locals := 12 } : Room).slots) (s₁.setTop (entryFrame m #[(.ref a1)] 1))
  refine own_st (fun t k => castTop (show entryFrame m #[(.ref a1)] 1 = mkF m 0 #[.val (.ref a1)] [] by first | (simp [entryFrame, mkF, argsToLocals, Value.category, maxLocals]; done) | rfl) k) ?_
  show own_Fin p.tables e below _ (s₁.setTop (mkF m 0 #[.val (.ref a1)] []))
  refine own_st (fun t k => XS.aloadN X0.here hx rfl (hb hby d6_0) rfl rfl k) ?_
  show own_Fin p.tables e below _ (s₁.setTop (mkF m 1 #[.val (.ref a1)] [(.ref a1)]))
  obtain ⟨T1, X1, e1, st1⟩ := getF X0 hx hZ hown (host := "") (Or.inl (hw _ (List.mem_of_getElem? (i := 35) rfl))) Via.refl e0 F_1 (g := (mkF m 1 #[.val (.ref a1)] [(.ref a1)])) rfl rfl (hb hby d6_1)
  refine own_st st1 ?_
  show own_Fin p.tables e below _ (T1.setTop (mkF m 4 #[.val (.ref a1)] [(.ref x)]))
  obtain ⟨fs, hr, hrun, hended, hW, hsame⟩ := X1.leave (v := (some (.ref x))) (fun h => by rw [Bd.returns] at h; cases h)
  refine ⟨_, _, retOut X1 hx (t := (.object "com/example/state_over_wire/stateoverwire/core/Reply$Status")) Bd.returns rfl (Or.inr (Or.inr (Or.inr (Or.inr ⟨rfl, rfl, rfl⟩)))) (hb hby d6_4) hr, hrun, hended, _, _, rfl, ?_, ⟨_, rfl⟩, hW, hsame.mono (by decide) (by decide)⟩
  show Q6 Z a1 x h0 n0 _ T1.heap _
  rw [e1]
  exact ⟨rfl, N0, rfl⟩
def Q7 (Z : State) (a1 : Addr) (x : Int64) (h0 : Heap) (n0 : Nat) (v : Option Value) (h : Heap) (L : List Loc) : Prop := v = some (.long x) ∧ Fr n0 L ∧ h = h0
set_option maxRecDepth 65536 in
set_option maxHeartbeats 40000000 in
theorem rm7 (l : Launch) (Z : State) (a0 : Array Value) (hw : ∀ d ∈ tables_1, d.before a0 Z = true) (ws : List Jvm.Cond) (a1 : Addr) (x : Int64) (h0 : Heap) (n0 : Nat) (Z0 : n0 ≤ h0.size) (F_1 : Fld Z h0 a1 "com/example/state_over_wire/stateoverwire/core/Reply" "version" "J" (.long x)) :
    MetFree l (⟨"com/example/state_over_wire/stateoverwire/core/Reply", "version", "()J"⟩ : MethodName) (head1 (Jvm.Cond.code (⟨"com/example/state_over_wire/stateoverwire/core/Reply", "version", "()J"⟩ : MethodName) prog_36_method_16_code 1 (some .long) :: ws) ({ frames := 1, cells := 0, slots := 0, locals := 12 } : Room)) (fun a U => a = #[(.ref a1)] ∧ Z.Warmed39 U.vm ∧ U.heap = h0) (fun _ _ _ _ _ => True) (fun _ U o U' => ∃ v L, o = .returned v ∧ Q7 Z a1 x h0 n0 v U'.heap L ∧ FrameEnd U o U' L ({ frames := 1, cells := 0, slots := 0, locals := 12 } : Room).cells ({ frames := 1, cells := 0, slots := 0, locals := 12 } : Room).slots) := by
  refine MetFree.of_bodySF (plainFor_of_name pn_com_example_state_over_wire_stateoverwire_core_Reply) hisR ?_
  intro p e s m args below meth c s₁ Bd hml0 hP hK
  obtain ⟨rfl, hZ, hh⟩ := hP
  have hx := Bd.exec
  have hby := Bd.bytes
  have hml : c.maxLocals = 1 := hml0
  have hown : s.vm.findClass "com/example/state_over_wire/stateoverwire/core/Reply" = some m.cls := findClass_of_methodNamed Bd.named
  have hnm := (name_of_methodNamed Bd.named Bd.method).1
  have X0 : Stand p l e ({ frames := 1, cells := 0, slots := 0, locals := 12 } : Room) s m #[(.ref a1)] below meth c s₁ [] 0 0 := Stand.of_body Bd
  have e0 : s₁.heap = h0 := by rw [← hh, Bd.state]; rfl
  have N0 := Fr.nil n0
  change own_Fin p.tables e below (fun s₂ o => ∃ v L, o = .returned v ∧ Q7 Z a1 x h0 n0 v s₂.heap L ∧ FrameEnd s o s₂ L ({ frames := 1, cells := 0, slots := 0, locals := 12 } : Room).cells ({ frames := 1, cells := 0, slots := 0, locals := 12 } : Room).slots) (s₁.setTop (entryFrame m #[(.ref a1)] 1))
  refine own_st (fun t k => castTop (show entryFrame m #[(.ref a1)] 1 = mkF m 0 #[.val (.ref a1)] [] by first | (simp [entryFrame, mkF, argsToLocals, Value.category, maxLocals]; done) | rfl) k) ?_
  show own_Fin p.tables e below _ (s₁.setTop (mkF m 0 #[.val (.ref a1)] []))
  refine own_st (fun t k => XS.aloadN X0.here hx rfl (hb hby d7_0) rfl rfl k) ?_
  show own_Fin p.tables e below _ (s₁.setTop (mkF m 1 #[.val (.ref a1)] [(.ref a1)]))
  obtain ⟨T1, X1, e1, st1⟩ := getF X0 hx hZ hown (host := "") (Or.inl (hw _ (List.mem_of_getElem? (i := 37) rfl))) Via.refl e0 F_1 (g := (mkF m 1 #[.val (.ref a1)] [(.ref a1)])) rfl rfl (hb hby d7_1)
  refine own_st st1 ?_
  show own_Fin p.tables e below _ (T1.setTop (mkF m 4 #[.val (.ref a1)] [(.long x)]))
  obtain ⟨fs, hr, hrun, hended, hW, hsame⟩ := X1.leave (v := (some (.long x))) (fun h => by rw [Bd.returns] at h; cases h)
  refine ⟨_, _, retOut X1 hx (t := .long) Bd.returns rfl (Or.inr (Or.inl ⟨rfl, rfl, _, rfl⟩)) (hb hby d7_4) hr, hrun, hended, _, _, rfl, ?_, ⟨_, rfl⟩, hW, hsame.mono (by decide) (by decide)⟩
  show Q7 Z a1 x h0 n0 _ T1.heap _
  rw [e1]
  exact ⟨rfl, N0, rfl⟩
def Q8 (Z : State) (a1 : Addr) (x : Addr) (h0 : Heap) (n0 : Nat) (v : Option Value) (h : Heap) (L : List Loc) : Prop := v = some (.ref x) ∧ Fr n0 L ∧ h = h0
set_option maxRecDepth 65536 in
set_option maxHeartbeats 40000000 in
theorem rm8 (l : Launch) (Z : State) (a0 : Array Value) (hw : ∀ d ∈ tables_1, d.before a0 Z = true) (ws : List Jvm.Cond) (a1 : Addr) (x : Addr) (h0 : Heap) (n0 : Nat) (Z0 : n0 ≤ h0.size) (F_1 : Fld Z h0 a1 "com/example/state_over_wire/stateoverwire/core/Reply" "payload" "[B" (.ref x)) :
    MetFree l (⟨"com/example/state_over_wire/stateoverwire/core/Reply", "payload", "()[B"⟩ : MethodName) (head1 (Jvm.Cond.code (⟨"com/example/state_over_wire/stateoverwire/core/Reply", "payload", "()[B"⟩ : MethodName) prog_36_method_17_code 1 (some (.array .byte)) :: ws) ({ frames := 1, cells := 0, slots := 0, locals := 12 } : Room)) (fun a U => a = #[(.ref a1)] ∧ Z.Warmed39 U.vm ∧ U.heap = h0) (fun _ _ _ _ _ => True) (fun _ U o U' => ∃ v L, o = .returned v ∧ Q8 Z a1 x h0 n0 v U'.heap L ∧ FrameEnd U o U' L ({ frames := 1, cells := 0, slots := 0, locals := 12 } : Room).cells ({ frames := 1, cells := 0, slots := 0, locals := 12 } : Room).slots) := by
  refine MetFree.of_bodySF (plainFor_of_name pn_com_example_state_over_wire_stateoverwire_core_Reply) hisR ?_
  intro p e s m args below meth c s₁ Bd hml0 hP hK
  obtain ⟨rfl, hZ, hh⟩ := hP
  have hx := Bd.exec
  have hby := Bd.bytes
  have hml : c.maxLocals = 1 := hml0
  have hown : s.vm.findClass "com/example/state_over_wire/stateoverwire/core/Reply" = some m.cls := findClass_of_methodNamed Bd.named
  have hnm := (name_of_methodNamed Bd.named Bd.method).1
  have X0 : Stand p l e ({ frames := 1, cells := 0, slots := 0, locals := 12 } : Room) s m #[(.ref a1)] below meth c s₁ [] 0 0 := Stand.of_body Bd
  have e0 : s₁.heap = h0 := by rw [← hh, Bd.state]; rfl
  have N0 := Fr.nil n0
  change own_Fin p.tables e below (fun s₂ o => ∃ v L, o = .returned v ∧ Q8 Z a1 x h0 n0 v s₂.heap L ∧ FrameEnd s o s₂ L ({ frames := 1, cells := 0, slots := 0, locals := 12 } : Room).cells ({ frames := 1, cells := 0, slots := 0, locals := 12 } : Room).slots) (s₁.setTop (entryFrame m #[(.ref a1)] 1))
  refine own_st (fun t k => castTop (show entryFrame m #[(.ref a1)] 1 = mkF m 0 #[.val (.ref a1)] [] by first | (simp [entryFrame, mkF, argsToLocals, Value.category, maxLocals]; done) | rfl) k) ?_
  show own_Fin p.tables e below _ (s₁.setTop (mkF m 0 #[.val (.ref a1)] []))
  refine own_st (fun t k => XS.aloadN X0.here hx rfl (hb hby d8_0) rfl rfl k) ?_
  show own_Fin p.tables e below _ (s₁.setTop (mkF m 1 #[.val (.ref a1)] [(.ref a1)]))
  obtain ⟨T1, X1, e1, st1⟩ := getF X0 hx hZ hown (host := "") (Or.inl (hw _ (List.mem_of_getElem? (i := 39) rfl))) Via.refl e0 F_1 (g := (mkF m 1 #[.val (.ref a1)] [(.ref a1)])) rfl rfl (hb hby d8_1)
  refine own_st st1 ?_
  show own_Fin p.tables e below _ (T1.setTop (mkF m 4 #[.val (.ref a1)] [(.ref x)]))
  obtain ⟨fs, hr, hrun, hended, hW, hsame⟩ := X1.leave (v := (some (.ref x))) (fun h => by rw [Bd.returns] at h; cases h)
  refine ⟨_, _, retOut X1 hx (t := (.array .byte)) Bd.returns rfl (Or.inr (Or.inr (Or.inr (Or.inr ⟨rfl, rfl, rfl⟩)))) (hb hby d8_4) hr, hrun, hended, _, _, rfl, ?_, ⟨_, rfl⟩, hW, hsame.mono (by decide) (by decide)⟩
  show Q8 Z a1 x h0 n0 _ T1.heap _
  rw [e1]
  exact ⟨rfl, N0, rfl⟩
def Q0 (Z : State) (i0 : Int64) (aD : Addr) (aE : Addr) (kE : ClassId) (h0 : Heap) (n0 : Nat) (v : Option Value) (h : Heap) (L : List Loc) : Prop := v = some (.int 1) ∧ Fr n0 L
set_option maxRecDepth 65536 in
set_option maxHeartbeats 40000000 in
theorem rm0 (l : Launch) (Z : State) (a0 : Array Value) (hw : ∀ d ∈ tables_1, d.before a0 Z = true) (ws : List Jvm.Cond) (i0 : Int64) (aD : Addr) (aE : Addr) (kE : ClassId) (h0 : Heap) (n0 : Nat) (Z0 : n0 ≤ h0.size) (O0 : Old Z n0 h0) (S_D : Sta Z Z.heap "com/example/state_over_wire/stateoverwire/core/Reply$Status" "DONE" "Lcom/example/state_over_wire/stateoverwire/core/Reply$Status;" (.ref aD)) (S_E : Sta Z Z.heap "com/example/state_over_wire/stateoverwire/core/Reply" "EMPTY" "[B" (.ref aE)) (V_E : Arv Z Z.heap aE kE .byte 0 [] (.int 0)) :
    MetFree l x (head1 (Jvm.Cond.code x code maxLocals ret :: ws) room_1) (fun a U => a = #[(.long i0)] ∧ Z.Warmed39 U.vm ∧ U.heap = h0) (fun _ _ _ _ _ => True) (fun _ U o U' => ∃ v L, o = .returned v ∧ Q0 Z i0 aD aE kE h0 n0 v U'.heap L ∧ ReturnedEndW U o U' L room_1.cells room_1.slots) := by
  refine MetFree.of_bodySF (plainFor_of_name pn_com_example_state_over_wire_stateoverwire_core_ReplyDonePinLaw) hisR ?_
  intro p e s m args below meth c s₁ Bd hml0 hP hK
  obtain ⟨rfl, hZ, hh⟩ := hP
  have hx := Bd.exec
  have hby := Bd.bytes
  have hml : c.maxLocals = 4 := hml0
  have hown : s.vm.findClass "com/example/state_over_wire/stateoverwire/core/ReplyDonePinLaw" = some m.cls := findClass_of_methodNamed Bd.named
  have hnm := (name_of_methodNamed Bd.named Bd.method).1
  have X0 : Stand p l e room_1 s m #[(.long i0)] below meth c s₁ [] 0 0 := Stand.of_body Bd
  have e0 : s₁.heap = h0 := by rw [← hh, Bd.state]; rfl
  have N0 := Fr.nil n0
  change own_Fin p.tables e below (fun s₂ o => ∃ v L, o = .returned v ∧ Q0 Z i0 aD aE kE h0 n0 v s₂.heap L ∧ ReturnedEndW s o s₂ L room_1.cells room_1.slots) (s₁.setTop (entryFrame m #[(.long i0)] maxLocals))
  refine own_st (fun t k => castTop (show entryFrame m #[(.long i0)] maxLocals = mkF m 0 #[.val (.long i0), .second, .unset, .unset] [] by first | (simp [entryFrame, mkF, argsToLocals, Value.category, maxLocals]; done) | rfl) k) ?_
  show own_Fin p.tables e below _ (s₁.setTop (mkF m 0 #[.val (.long i0), .second, .unset, .unset] []))
  have sn0 : s.Since s.vm 0 := (State.WarmedH.refl s).since 0
  have kn0 : 0 ≤ h0.size := Nat.zero_le _
  refine own_st (fun t k => XS.lloadN X0.here hx rfl (hb hby at_0) rfl k) ?_
  show own_Fin p.tables e below _ (s₁.setTop (mkF m 1 #[.val (.long i0), .second, .unset, .unset] [(.long i0)]))
  obtain ⟨_, _, ⟨T1, L1, k1, n1⟩, -, X1, s21, gr1, ⟨Lc1, hQ1, l1, y1, z1⟩, st1⟩ := callSS X0 hx (y := (⟨"com/example/state_over_wire/stateoverwire/core/Reply", "done", "(J)Lcom/example/state_over_wire/stateoverwire/core/Reply;"⟩ : MethodName)) hown (mvT hZ (hw _ (List.mem_of_getElem? (i := 0) rfl))) (mvT hZ (hw _ (List.mem_of_getElem? (i := 1) rfl))) (mvT hZ (hw _ (List.mem_of_getElem? (i := 2) rfl))) (mvT hZ (hw _ (List.mem_of_getElem? (i := 3) rfl))) (by decide) (backOfS (W := 0) (rm1 l Z a0 hw [] i0 aD aE h0 n0 Z0 O0 S_D S_E) hZ (hw _ (List.mem_of_getElem? (i := 3) rfl)) (hw _ (List.mem_of_getElem? (i := 2) rfl)) (by decide) (by decide)) (g := (mkF m 1 #[.val (.long i0), .second, .unset, .unset] [(.long i0)])) rfl (by rw [hml]; rfl) (argsL := [(.long i0)]) (rest := []) (lenOf pd__J_Lcom_example_state_over_wire_stateoverwire_core_Reply_ rfl) rfl (by show 2 * 0 + _ ≤ _; exact Nat.le_of_eq rfl) (hb hby at_1) (fun _ _ => ⟨rfl, e0, (by decide : 0 + 5 ≤ _), (by decide : 0 + 63 ≤ _)⟩)
  dsimp only [Pt.U, Pt.locs, Pt.cells, Pt.slots] at X1 l1 y1 z1 st1 hQ1 s21 gr1
  subst l1 y1 z1
  obtain ⟨r, rfl, N1, O1, E1, Fs1, Fv1, Fp1⟩ := hQ1
  refine own_st (fun t k => st1.trans k) ?_
  have gr1' : h0.size ≤ T1.heap.size := by rw [← (e0 : s₁.heap = h0)]; exact gr1
  obtain ⟨X1, sn1, hZ1, hown1⟩ := rebS (s := s) (vm0 := s.vm) (vm1 := T1.vm) sn0 (Nat.le_trans kn0 gr1') X1 s21 (Nat.le_refl _) hZ hown
  have Z1 : n0 ≤ T1.heap.size := O1.1 ▸ O1.2.1
  have kn1 : T1.heap.size ≤ T1.heap.size := Nat.le_refl _
  have N1a := Fr.app N0 N1
  show own_Fin p.tables e below _ (T1.setTop (mkF m 4 #[.val (.long i0), .second, .unset, .unset] [(.ref r)]))
  refine own_st (fun t k => XS.astoreN X1.here hx rfl (hb hby at_4) rfl rfl (l' := #[.val (.long i0), .second, .val (.ref r), .unset]) rfl k) ?_
  show own_Fin p.tables e below _ (T1.setTop (mkF m 5 #[.val (.long i0), .second, .val (.ref r), .unset] []))
  refine own_st (fun t k => XS.aloadN X1.here hx rfl (hb hby at_5) rfl rfl k) ?_
  show own_Fin p.tables e below _ (T1.setTop (mkF m 6 #[.val (.long i0), .second, .val (.ref r), .unset] [(.ref r)]))
  obtain ⟨cq2, kq2, qa2, qb2, qc2⟩ := isOf hZ1 rfl E1
  obtain ⟨_, _, ⟨T2, L2, k2, n2⟩, -, X2, ⟨Lc2, hQ2, l2, y2, z2⟩, st2⟩ := X1.virtualBack hx (y := (⟨"com/example/state_over_wire/stateoverwire/core/Reply", "status", "()Lcom/example/state_over_wire/stateoverwire/core/Reply$Status;"⟩ : MethodName)) (z := (⟨"com/example/state_over_wire/stateoverwire/core/Reply", "status", "()Lcom/example/state_over_wire/stateoverwire/core/Reply$Status;"⟩ : MethodName)) hown1 (mvT hZ1 (hw _ (List.mem_of_getElem? (i := 41) rfl))) (mvT hZ1 (hw _ (List.mem_of_getElem? (i := 42) rfl))) (notFace_of_selects (args := #[]) (mvT hZ1 (hw _ (List.mem_of_getElem? (i := 44) rfl)))) (mvT hZ1 (hw _ (List.mem_of_getElem? (i := 44) rfl))) (mvT hZ1 (hw _ (List.mem_of_getElem? (i := 43) rfl))) (by decide) (backOf (W := 0) (rm6 l Z a0 hw [] r aD T1.heap n0 Z1 Fs1) hZ1 (hw _ (List.mem_of_getElem? (i := 45) rfl)) (hw _ (List.mem_of_getElem? (i := 2) rfl)) (by decide) (by decide)) qa2 qc2 (g := (mkF m 6 #[.val (.long i0), .second, .val (.ref r), .unset] [(.ref r)])) rfl (by rw [hml]; rfl) (Steps.refl _) (argsL := []) (rest := []) (lenOf pd___Lcom_example_state_over_wire_stateoverwire_core_Reply_Status_ rfl) rfl (by show 2 * 0 + _ ≤ _; exact Nat.le_of_eq rfl) (hb hby at_6) (fun _ _ => ⟨rfl, rfl, (by decide : 5 + 0 ≤ _), (by decide : 63 + 0 ≤ _)⟩)
  dsimp only [Pt.U, Pt.locs, Pt.cells, Pt.slots] at X2 l2 y2 z2 st2 hQ2
  subst l2 y2 z2
  obtain ⟨rfl, N2, q2⟩ := hQ2
  refine own_st (fun t k => st2.trans k) ?_
  have N2a := Fr.app N1a N2
  show own_Fin p.tables e below _ (T2.setTop (mkF m 9 #[.val (.long i0), .second, .val (.ref r), .unset] [(.ref aD)]))
  obtain ⟨T3, X3, e3, st3⟩ := getS (host := "") X2 hx hZ1 hown1 (hw _ (List.mem_of_getElem? (i := 46) rfl)) Via.refl q2 (Sta.ext O1.2 S_D) (g := (mkF m 9 #[.val (.long i0), .second, .val (.ref r), .unset] [(.ref aD)])) rfl (hb hby at_9)
  refine own_st st3 ?_
  show own_Fin p.tables e below _ (T3.setTop (mkF m 12 #[.val (.long i0), .second, .val (.ref r), .unset] [(.ref aD), (.ref aD)]))
  refine own_st (fun t k => XT.acmpYes X3.here hx rfl (pc0 := 12) (pc' := 17) rfl (hb hby at_12) rfl rfl rfl (XT.aa_eq_t rfl) (by decide) (by decide) k) ?_
  show own_Fin p.tables e below _ (T3.setTop (mkF m 17 #[.val (.long i0), .second, .val (.ref r), .unset] []))
  refine own_st (fun t k => XS.aloadN X3.here hx rfl (hb hby at_17) rfl rfl k) ?_
  show own_Fin p.tables e below _ (T3.setTop (mkF m 18 #[.val (.long i0), .second, .val (.ref r), .unset] [(.ref r)]))
  obtain ⟨cq4, kq4, qa4, qb4, qc4⟩ := isOf hZ1 e3 E1
  obtain ⟨_, _, ⟨T4, L4, k4, n4⟩, -, X4, ⟨Lc4, hQ4, l4, y4, z4⟩, st4⟩ := X3.virtualBack hx (y := (⟨"com/example/state_over_wire/stateoverwire/core/Reply", "version", "()J"⟩ : MethodName)) (z := (⟨"com/example/state_over_wire/stateoverwire/core/Reply", "version", "()J"⟩ : MethodName)) hown1 (mvT hZ1 (hw _ (List.mem_of_getElem? (i := 47) rfl))) (mvT hZ1 (hw _ (List.mem_of_getElem? (i := 48) rfl))) (notFace_of_selects (args := #[]) (mvT hZ1 (hw _ (List.mem_of_getElem? (i := 50) rfl)))) (mvT hZ1 (hw _ (List.mem_of_getElem? (i := 50) rfl))) (mvT hZ1 (hw _ (List.mem_of_getElem? (i := 49) rfl))) (by decide) (backOf (W := 0) (rm7 l Z a0 hw [] r i0 T1.heap n0 Z1 Fv1) hZ1 (hw _ (List.mem_of_getElem? (i := 51) rfl)) (hw _ (List.mem_of_getElem? (i := 2) rfl)) (by decide) (by decide)) qa4 qc4 (g := (mkF m 18 #[.val (.long i0), .second, .val (.ref r), .unset] [(.ref r)])) rfl (by rw [hml]; rfl) (Steps.refl _) (argsL := []) (rest := []) (lenOf pd___J rfl) rfl (by show 2 * 0 + _ ≤ _; exact Nat.le_of_eq rfl) (hb hby at_18) (fun _ _ => ⟨rfl, e3, (by decide : 5 + 0 ≤ _), (by decide : 63 + 0 ≤ _)⟩)
  dsimp only [Pt.U, Pt.locs, Pt.cells, Pt.slots] at X4 l4 y4 z4 st4 hQ4
  subst l4 y4 z4
  obtain ⟨rfl, N4, q4⟩ := hQ4
  refine own_st (fun t k => st4.trans k) ?_
  have N4a := Fr.app N2a N4
  show own_Fin p.tables e below _ (T4.setTop (mkF m 21 #[.val (.long i0), .second, .val (.ref r), .unset] [(.long i0)]))
  refine own_st (fun t k => XS.lloadN X4.here hx rfl (hb hby at_21) rfl k) ?_
  show own_Fin p.tables e below _ (T4.setTop (mkF m 22 #[.val (.long i0), .second, .val (.ref r), .unset] [(.long i0), (.long i0)]))
  refine own_st (fun t k => XT.lcmp X4.here hx rfl (hb hby at_22) rfl k) ?_
  show own_Fin p.tables e below _ (T4.setTop (mkF m 23 #[.val (.long i0), .second, .val (.ref r), .unset] [(.int (XT.cmpL i0 i0))]))
  refine own_st (fun t k => XS.ifYes X4.here hx rfl (pc0 := 23) (pc' := 28) rfl (hb hby at_23) rfl (XT.ll_eq_t rfl) (by decide) (by decide) k) ?_
  show own_Fin p.tables e below _ (T4.setTop (mkF m 28 #[.val (.long i0), .second, .val (.ref r), .unset] []))
  refine own_st (fun t k => XS.aloadN X4.here hx rfl (hb hby at_28) rfl rfl k) ?_
  show own_Fin p.tables e below _ (T4.setTop (mkF m 29 #[.val (.long i0), .second, .val (.ref r), .unset] [(.ref r)]))
  obtain ⟨cq5, kq5, qa5, qb5, qc5⟩ := isOf hZ1 q4 E1
  obtain ⟨_, _, ⟨T5, L5, k5, n5⟩, -, X5, ⟨Lc5, hQ5, l5, y5, z5⟩, st5⟩ := X4.virtualBack hx (y := (⟨"com/example/state_over_wire/stateoverwire/core/Reply", "payload", "()[B"⟩ : MethodName)) (z := (⟨"com/example/state_over_wire/stateoverwire/core/Reply", "payload", "()[B"⟩ : MethodName)) hown1 (mvT hZ1 (hw _ (List.mem_of_getElem? (i := 52) rfl))) (mvT hZ1 (hw _ (List.mem_of_getElem? (i := 53) rfl))) (notFace_of_selects (args := #[]) (mvT hZ1 (hw _ (List.mem_of_getElem? (i := 55) rfl)))) (mvT hZ1 (hw _ (List.mem_of_getElem? (i := 55) rfl))) (mvT hZ1 (hw _ (List.mem_of_getElem? (i := 54) rfl))) (by decide) (backOf (W := 0) (rm8 l Z a0 hw [] r aE T1.heap n0 Z1 Fp1) hZ1 (hw _ (List.mem_of_getElem? (i := 56) rfl)) (hw _ (List.mem_of_getElem? (i := 2) rfl)) (by decide) (by decide)) qa5 qc5 (g := (mkF m 29 #[.val (.long i0), .second, .val (.ref r), .unset] [(.ref r)])) rfl (by rw [hml]; rfl) (Steps.refl _) (argsL := []) (rest := []) (lenOf pd____B rfl) rfl (by show 2 * 0 + _ ≤ _; exact Nat.le_of_eq rfl) (hb hby at_29) (fun _ _ => ⟨rfl, q4, (by decide : 5 + 0 ≤ _), (by decide : 63 + 0 ≤ _)⟩)
  dsimp only [Pt.U, Pt.locs, Pt.cells, Pt.slots] at X5 l5 y5 z5 st5 hQ5
  subst l5 y5 z5
  obtain ⟨rfl, N5, q5⟩ := hQ5
  refine own_st (fun t k => st5.trans k) ?_
  have N5a := Fr.app N4a N5
  show own_Fin p.tables e below _ (T5.setTop (mkF m 32 #[.val (.long i0), .second, .val (.ref r), .unset] [(.ref aE)]))
  refine own_st (fun t k => XS.astoreN X5.here hx rfl (hb hby at_32) rfl rfl (l' := #[.val (.long i0), .second, .val (.ref r), .val (.ref aE)]) rfl k) ?_
  show own_Fin p.tables e below _ (T5.setTop (mkF m 33 #[.val (.long i0), .second, .val (.ref r), .val (.ref aE)] []))
  refine own_st (fun t k => XS.aloadN X5.here hx rfl (hb hby at_33) rfl rfl k) ?_
  show own_Fin p.tables e below _ (T5.setTop (mkF m 34 #[.val (.long i0), .second, .val (.ref r), .val (.ref aE)] [(.ref aE)]))
  refine own_st (fun t k => XS.ifnullNo X5.here hx rfl (hb hby at_34) rfl k) ?_
  show own_Fin p.tables e below _ (T5.setTop (mkF m 37 #[.val (.long i0), .second, .val (.ref r), .val (.ref aE)] []))
  refine own_st (fun t k => XS.aloadN X5.here hx rfl (hb hby at_37) rfl rfl k) ?_
  show own_Fin p.tables e below _ (T5.setTop (mkF m 38 #[.val (.long i0), .second, .val (.ref r), .val (.ref aE)] [(.ref aE)]))
  refine own_st (fun t k => own_alen X5 hx hZ1 q5 (Arv.ext V_E O1.2) (g := (mkF m 38 #[.val (.long i0), .second, .val (.ref r), .val (.ref aE)] [(.ref aE)])) rfl rfl (hb hby at_38) t k) ?_
  show own_Fin p.tables e below _ (T5.setTop (mkF m 39 #[.val (.long i0), .second, .val (.ref r), .val (.ref aE)] [(.int (0 : Int32))]))
  refine own_st (fun t k => XS.ifNo X5.here hx rfl (hb hby at_39) rfl (XT.i0_ne_f (by decide)) k) ?_
  show own_Fin p.tables e below _ (T5.setTop (mkF m 42 #[.val (.long i0), .second, .val (.ref r), .val (.ref aE)] []))
  refine own_st (fun t k => XS.iconst X5.here hx rfl (hb hby at_42) k) ?_
  show own_Fin p.tables e below _ (T5.setTop (mkF m 43 #[.val (.long i0), .second, .val (.ref r), .val (.ref aE)] [(.int (1 : Int32))]))
  refine own_st (fun t k => XS.goto X5.here hx rfl (pc0 := 43) (pc' := 47) rfl (hb hby at_43) (by decide) (by decide) k) ?_
  show own_Fin p.tables e below _ (T5.setTop (mkF m 47 #[.val (.long i0), .second, .val (.ref r), .val (.ref aE)] [(.int (1 : Int32))]))
  obtain ⟨fs, hr, hrun, hended, hRW⟩ := Jvm.Stand.leaveW (s := s) (vm₁ := T1.vm) X5 sn1 (by rw [show T5.heap = T1.heap from q5]; exact kn1) (v := (some (.int (1 : Int32)))) (fun h => by rw [Bd.returns] at h; cases h)
  refine ⟨_, _, retN X5 hx (t := .boolean) Bd.returns (by simp) (hb hby at_47) hr, hrun, hended, _, _, rfl, ?_, hRW.1, hRW.2.1, hRW.2.2.1, hRW.2.2.2.mono (by decide) (by decide)⟩
  show Q0 Z i0 aD aE kE h0 n0 _ T5.heap _
  rw [q5]
  exact ⟨rfl, N5a⟩
set_option maxRecDepth 65536 in
set_option maxHeartbeats 40000000 in
theorem comes_1 {Post : Tables → Env → Array Value → State → Outcome → State → Prop} (hpost : ∀ tb e args s v u, (limb_1_1.after args s (.returned v) u = true ∧ limb_1_2.after args s (.returned v) u = true ∧ True) → ReturnedEndW s (.returned v) u (Jvm.fieldLocs frame_1_writes args s ++ Jvm.arrayLocs frame_1_arrays args s ++ Jvm.staticLocs frame_1_statics s) 16 2176 → Post tb e args s (.returned v) u) :
    ArmFor flags0 classFile x code maxLocals ret World_1 tables_1 room_1 Calls_1 rest_1 Pre_1 Post := by
  intro l hfl _ _ p e ha hc hk s m args below hf hA hF happ hP
  obtain ⟨hcalls, hrest, hpre⟩ := hP
  obtain ⟨-, -, -, hnamed, -, -, -, hat⟩ := (Spec.applies_iff hf).mp happ
  obtain ⟨hg, hn⟩ := and_e (Cond.before_iff.mp (show (Jvm.Cond.and given_1 narrow_1).before args s = true from hpre))
  obtain ⟨g0, gr0⟩ := and_e hg
  obtain ⟨w0, rfl⟩ : ∃ w0 : Value, args = #[w0] := by
    have hs : args.size = 1 := by simpa [Cond.value, given_1] using g0
    obtain ⟨L⟩ := args
    match L, hs with
    | [w0], _ => exact ⟨w0, rfl⟩
  have hw := fun d (hd : d ∈ tables_1) => atoms_spec (ws := Jvm.Cond.code x code maxLocals ret :: tables_1) hat d (List.mem_cons_of_mem _ hd)
  have hfit : Fit s := fun {y c} hc i hi => by
    obtain ⟨ha, rfl⟩ := Array.getElem?_eq_some_iff.mp hc
    have q := List.all_eq_true.mp ((Array.all_eq_true_iff_forall_mem.mp hF) _ (Array.getElem_mem ha)) i (List.mem_range.mpr hi)
    simpa [Array.getElem?_eq_getElem hi] using q
  obtain ⟨i0, ei0⟩ := isL_v gr0
  obtain rfl : w0 = (.long i0) := Option.some.inj ei0
  obtain ⟨x_D, hn_r0⟩ := and_e hn
  obtain ⟨a_E, l_E⟩ := and_e hn_r0
  obtain ⟨aD, ev_D⟩ := exa_v x_D
  have S_D := Sta.start ev_D (Or.inr ⟨(hw _ (List.mem_of_getElem? (i := 7) rfl)), (hw _ (List.mem_of_getElem? (i := 8) rfl))⟩)
  obtain ⟨aE, clE, ev_E, A_E, le_E, lt_E⟩ := own_len a_E l_E
  have S_E := Sta.start ev_E (Or.inr ⟨(hw _ (List.mem_of_getElem? (i := 2) rfl)), (hw _ (List.mem_of_getElem? (i := 10) rfl))⟩)
  obtain ⟨n, o, h1, h2, h3, _, L, rfl, ⟨rfl, N⟩, hq⟩ := rm0 l s _ hw tables_1 i0 aD aE _ s.heap s.heap.size (Nat.le_refl _) (Old.start s) S_D S_E (own_arv0 hfit A_E le_E lt_E) p e ha hc hk s m _ below hf ((Spec.applies_iff_loose hf).mp happ).1 ⟨rfl, State.Warmed39.refl s, rfl⟩ trivial
  refine ⟨n, _, h1, h2, h3, hpost _ _ _ _ _ _ ⟨Cond.after_iff.mpr rfl, Cond.after_iff.mpr (eq_i res_at (Term.int_eval (1)) rfl), trivial⟩ ⟨hq.1, hq.2.1, hq.2.2.1, (hq.2.2.2.sift fun y hy => Or.inr (N y hy)).mono (by decide) (by decide)⟩⟩
theorem main_1_1 : Claimed_1_1 := comes_1 fun _ _ _ _ _ _ h hF => ⟨h.1, hF⟩
theorem main_1_2 : Claimed_1_2 := comes_1 fun _ _ _ _ _ _ h hF => ⟨h.2.1, hF⟩
end Jvm.Pilot.@@N@@
namespace Jvm.Pilot.@@N@@
open Jvm Jvm.ClassFile Sem Op Lib Jvm.Free Jvm.Stand Jvm.Pilot.@@N@@.Jvm.D
/-! MADE BY PROGRAM (witnessworld.py) out of the Statement's table words and the real class files: 18 classes; the members and pool entries that the words name. The judged class is class 1, her method 1. -/
namespace start1
open Jvm.ClassFile
def u (s : String) : CpInfo := .utf8 (stringToUtf16 s)
/-- a pool by its gaps: so many unusable entries, then the entry; so many at the end -/
def gap : Nat → List CpInfo → List CpInfo
  | 0, r => r
  | n + 1, r => .unusable :: gap n r
def poolList (es : List (Nat × CpInfo)) (last : Nat) : List CpInfo := es.foldr (fun e r => gap e.1 (e.2 :: r)) (gap last [])
def pool (es : List (Nat × CpInfo)) (last : Nat) : Array CpInfo := ⟨poolList es last⟩
def fileOf (pool : Array CpInfo) (this : Nat) (attrs : Array Attribute := #[]) (ms : Array MethodInfo := #[]) (fl : Nat := 33) (sup : Nat := 0) (ifs : Array Nat := #[]) (fds : Array FieldInfo := #[]) : ClassFile where
  minorVersion := 0
  majorVersion := 65
  constantPool := pool
  accessFlags := fl
  thisClass := this
  superClass := sup
  interfaces := ifs
  fields := fds
  methods := ms
  attributes := attrs
def plain (name : String) (sup : Option ClassId) : Class where
  name := name
  kind := .ordinary
  loader := none
  accessFlags := 33
  super := sup
  interfaces := #[]
  cf := none
  fields := #[]
  methods := #[]
  instanceTypes := #[]
  staticTypes := #[]
  resolved := #[]
  callSites := []
  init := .initialized
  statics := none
  mirror := none

def pool0 : Array CpInfo := pool [(5, u "<init>"), (0, u "()V"), (1, .class_ 10), (1, u "java/lang/Object")] 113

def k0c0 : Code := { maxStack := 0, maxLocals := 1, code := object_method_1_code, exceptionTable := #[], attributes := #[] }
def k0m0 : Method := { name := "<init>", desc := "()V", sig := { parameters := [], returnType := none }, accessFlags := 1, code := some k0c0 }
/-- java/lang/Object -/
def k0 : Class := { plain "java/lang/Object" none with
  accessFlags := 33
  interfaces := #[]
  cf := some (fileOf pool0 8 #[] #[{ accessFlags := 1, nameIndex := 5, descriptorIndex := 6, attributes := #[] }] 33 0 #[] #[])
  fields := #[]
  methods := #[k0m0]
  instanceTypes := #[]
  staticTypes := #[]
  resolved := Array.replicate 124 none
  statics := none }

def pool1 : Array CpInfo := pool [(2, .class_ 4), (1, u "java/lang/Object"), (0, u "<init>"), (0, u "()V"), (0, .methodref 8 9), (0, .class_ 10), (0, .nameAndType 11 12), (0, u "com/example/state_over_wire/stateoverwire/core/Reply"), (0, u "done"), (0, u "(J)Lcom/example/state_over_wire/stateoverwire/core/Reply;"), (0, .methodref 8 14), (0, .nameAndType 15 16), (0, u "status"), (0, u "()Lcom/example/state_over_wire/stateoverwire/core/Reply$Status;"), (0, .fieldref 18 19), (0, .class_ 20), (0, .nameAndType 21 22), (0, u "com/example/state_over_wire/stateoverwire/core/Reply$Status"), (0, u "DONE"), (0, u "Lcom/example/state_over_wire/stateoverwire/core/Reply$Status;"), (0, .methodref 8 24), (0, .nameAndType 25 26), (0, u "version"), (0, u "()J"), (0, .methodref 8 28), (0, .nameAndType 29 30), (0, u "payload"), (0, u "()[B"), (0, .class_ 32), (0, u "com/example/state_over_wire/stateoverwire/core/ReplyDonePinLaw"), (2, u "law"), (0, u "(J)Z")] 7

def k1m0 : Method := { name := "<init>", desc := "()V", sig := { parameters := [], returnType := none }, accessFlags := 2, code := none }
def k1c1 : Code := { maxStack := 4, maxLocals := 4, code := code, exceptionTable := #[], attributes := #[] }
def k1m1 : Method := { name := "law", desc := "(J)Z", sig := { parameters := [.long], returnType := some .boolean }, accessFlags := 9, code := some k1c1 }
/-- com/example/state_over_wire/stateoverwire/core/ReplyDonePinLaw -/
def k1 : Class := { plain "com/example/state_over_wire/stateoverwire/core/ReplyDonePinLaw" (some 0) with
  accessFlags := 49
  interfaces := #[]
  cf := some (fileOf pool1 31 #[] #[{ accessFlags := 2, nameIndex := 5, descriptorIndex := 6, attributes := #[] }, { accessFlags := 9, nameIndex := 35, descriptorIndex := 36, attributes := #[] }] 49 2 #[] #[])
  fields := #[]
  methods := #[k1m0, k1m1]
  instanceTypes := #[]
  staticTypes := #[]
  resolved := Array.replicate 44 none
  statics := none }

def pool2 : Array CpInfo := pool [(1, .methodref 2 3), (0, .class_ 4), (0, .nameAndType 5 6), (0, u "java/lang/Object"), (0, u "<init>"), (0, u "()V"), (0, .class_ 8), (0, u "java/lang/Record")] 13

def k2c0 : Code := { maxStack := 1, maxLocals := 1, code := jdk_30_method_1_code, exceptionTable := #[], attributes := #[] }
def k2m0 : Method := { name := "<init>", desc := "()V", sig := { parameters := [], returnType := none }, accessFlags := 4, code := some k2c0 }
/-- java/lang/Record -/
def k2 : Class := { plain "java/lang/Record" (some 0) with
  accessFlags := 1057
  interfaces := #[]
  cf := some (fileOf pool2 7 #[] #[{ accessFlags := 4, nameIndex := 5, descriptorIndex := 6, attributes := #[] }] 1057 2 #[] #[])
  fields := #[]
  methods := #[k2m0]
  instanceTypes := #[]
  staticTypes := #[]
  resolved := Array.replicate 22 none
  statics := none }

def pool3 : Array CpInfo := pool [(3, .methodref 4 5), (0, .class_ 6), (0, .nameAndType 7 8), (0, u "java/lang/Record"), (0, u "<init>"), (0, u "()V"), (0, .string 10), (0, u "status"), (0, .methodref 12 13), (0, .class_ 14), (0, .nameAndType 15 16), (0, u "java/util/Objects"), (0, u "requireNonNull"), (0, u "(Ljava/lang/Object;Ljava/lang/String;)Ljava/lang/Object;"), (0, .string 18), (0, u "payload"), (0, .fieldref 20 21), (0, .class_ 22), (0, .nameAndType 10 23), (0, u "com/example/state_over_wire/stateoverwire/core/Reply"), (0, u "Lcom/example/state_over_wire/stateoverwire/core/Reply$Status;"), (0, .fieldref 20 25), (0, .nameAndType 26 27), (0, u "version"), (0, u "J"), (0, .fieldref 20 29), (0, .nameAndType 18 30), (0, u "[B"), (0, .fieldref 32 33), (0, .class_ 34), (0, .nameAndType 35 23), (0, u "com/example/state_over_wire/stateoverwire/core/Reply$Status"), (0, u "DONE"), (0, .fieldref 20 37), (0, .nameAndType 38 30), (0, u "EMPTY"), (0, .methodref 20 40), (0, .nameAndType 7 41), (0, u "(Lcom/example/state_over_wire/stateoverwire/core/Reply$Status;J[B)V"), (54, u "()[B"), (11, u "()J"), (47, u "MAX_ENCODED_BYTES"), (0, u "I"), (5, u "done"), (0, u "(J)Lcom/example/state_over_wire/stateoverwire/core/Reply;"), (15, u "()Lcom/example/state_over_wire/stateoverwire/core/Reply$Status;")] 25

def k3c0 : Code := { maxStack := 3, maxLocals := 5, code := prog_36_method_1_code, exceptionTable := #[], attributes := #[] }
def k3m0 : Method := { name := "<init>", desc := "(Lcom/example/state_over_wire/stateoverwire/core/Reply$Status;J[B)V", sig := { parameters := [(.object "com/example/state_over_wire/stateoverwire/core/Reply$Status"), .long, (.array .byte)], returnType := none }, accessFlags := 1, code := some k3c0 }
def k3c1 : Code := { maxStack := 6, maxLocals := 2, code := prog_36_method_2_code, exceptionTable := #[], attributes := #[] }
def k3m1 : Method := { name := "done", desc := "(J)Lcom/example/state_over_wire/stateoverwire/core/Reply;", sig := { parameters := [.long], returnType := some (.object "com/example/state_over_wire/stateoverwire/core/Reply") }, accessFlags := 9, code := some k3c1 }
def k3c2 : Code := { maxStack := 1, maxLocals := 1, code := prog_36_method_15_code, exceptionTable := #[], attributes := #[] }
def k3m2 : Method := { name := "status", desc := "()Lcom/example/state_over_wire/stateoverwire/core/Reply$Status;", sig := { parameters := [], returnType := some (.object "com/example/state_over_wire/stateoverwire/core/Reply$Status") }, accessFlags := 1, code := some k3c2 }
def k3c3 : Code := { maxStack := 2, maxLocals := 1, code := prog_36_method_16_code, exceptionTable := #[], attributes := #[] }
def k3m3 : Method := { name := "version", desc := "()J", sig := { parameters := [], returnType := some .long }, accessFlags := 1, code := some k3c3 }
def k3c4 : Code := { maxStack := 1, maxLocals := 1, code := prog_36_method_17_code, exceptionTable := #[], attributes := #[] }
def k3m4 : Method := { name := "payload", desc := "()[B", sig := { parameters := [], returnType := some (.array .byte) }, accessFlags := 1, code := some k3c4 }
/-- com/example/state_over_wire/stateoverwire/core/Reply -/
def k3 : Class := { plain "com/example/state_over_wire/stateoverwire/core/Reply" (some 2) with
  accessFlags := 49
  interfaces := #[]
  cf := some (fileOf pool3 20 #[.nestMembers #[32]] #[{ accessFlags := 1, nameIndex := 7, descriptorIndex := 41, attributes := #[] }, { accessFlags := 9, nameIndex := 163, descriptorIndex := 164, attributes := #[] }, { accessFlags := 1, nameIndex := 10, descriptorIndex := 180, attributes := #[] }, { accessFlags := 1, nameIndex := 26, descriptorIndex := 108, attributes := #[] }, { accessFlags := 1, nameIndex := 18, descriptorIndex := 96, attributes := #[] }] 49 4 #[] #[{ accessFlags := 18, nameIndex := 10, descriptorIndex := 23, attributes := #[] }, { accessFlags := 18, nameIndex := 26, descriptorIndex := 27, attributes := #[] }, { accessFlags := 18, nameIndex := 18, descriptorIndex := 30, attributes := #[] }, { accessFlags := 25, nameIndex := 156, descriptorIndex := 157, attributes := #[] }, { accessFlags := 26, nameIndex := 38, descriptorIndex := 30, attributes := #[] }])
  fields := #[{ name := "status", type := (.object "com/example/state_over_wire/stateoverwire/core/Reply$Status"), accessFlags := 18, slot := 0, constantValue := 0 }, { name := "version", type := .long, accessFlags := 18, slot := 1, constantValue := 0 }, { name := "payload", type := (.array .byte), accessFlags := 18, slot := 2, constantValue := 0 }, { name := "MAX_ENCODED_BYTES", type := .int, accessFlags := 25, slot := 0, constantValue := 0 }, { name := "EMPTY", type := (.array .byte), accessFlags := 26, slot := 1, constantValue := 0 }]
  methods := #[k3m0, k3m1, k3m2, k3m3, k3m4]
  instanceTypes := #[(.object "com/example/state_over_wire/stateoverwire/core/Reply$Status"), .long, (.array .byte)]
  staticTypes := #[.int, (.array .byte)]
  resolved := Array.replicate 206 none
  statics := some 0 }

def pool4 : Array CpInfo := pool [(1, .class_ 2), (0, u "java/lang/constant/Constable"), (0, .class_ 4), (0, u "java/lang/Object")] 6

/-- java/lang/constant/Constable -/
def k4 : Class := { plain "java/lang/constant/Constable" (some 0) with
  accessFlags := 1537
  interfaces := #[]
  cf := some (fileOf pool4 1 #[] #[] 1537 3 #[] #[])
  fields := #[]
  methods := #[]
  instanceTypes := #[]
  staticTypes := #[]
  resolved := Array.replicate 11 none
  statics := none }

def pool5 : Array CpInfo := pool [(1, .class_ 2), (0, u "java/lang/Comparable"), (0, .class_ 4), (0, u "java/lang/Object")] 7

/-- java/lang/Comparable -/
def k5 : Class := { plain "java/lang/Comparable" (some 0) with
  accessFlags := 1537
  interfaces := #[]
  cf := some (fileOf pool5 1 #[] #[] 1537 3 #[] #[])
  fields := #[]
  methods := #[]
  instanceTypes := #[]
  staticTypes := #[]
  resolved := Array.replicate 12 none
  statics := none }

def pool6 : Array CpInfo := pool [(1, .class_ 2), (0, u "java/io/Serializable"), (0, .class_ 4), (0, u "java/lang/Object")] 2

/-- java/io/Serializable -/
def k6 : Class := { plain "java/io/Serializable" (some 0) with
  accessFlags := 1537
  interfaces := #[]
  cf := some (fileOf pool6 1 #[] #[] 1537 3 #[] #[])
  fields := #[]
  methods := #[]
  instanceTypes := #[]
  staticTypes := #[]
  resolved := Array.replicate 7 none
  statics := none }

def pool7 : Array CpInfo := pool [(2, .class_ 4), (1, u "java/lang/Enum"), (0, u "name"), (0, u "Ljava/lang/String;"), (2, u "ordinal"), (0, u "I"), (1, .class_ 14), (1, u "java/lang/Object"), (4, u "hash"), (86, .class_ 108), (1, u "java/lang/Enum$EnumDesc"), (2, .class_ 112), (0, u "java/lang/constant/Constable"), (0, .class_ 114), (0, u "java/lang/Comparable"), (0, .class_ 116), (0, u "java/io/Serializable")] 87

/-- java/lang/Enum -/
def k7 : Class := { plain "java/lang/Enum" (some 0) with
  accessFlags := 1057
  interfaces := #[4, 5, 6]
  cf := some (fileOf pool7 2 #[.nestMembers #[106]] #[] 1057 12 #[111, 113, 115] #[{ accessFlags := 18, nameIndex := 5, descriptorIndex := 6, attributes := #[] }, { accessFlags := 18, nameIndex := 9, descriptorIndex := 10, attributes := #[] }, { accessFlags := 2, nameIndex := 19, descriptorIndex := 10, attributes := #[] }])
  fields := #[{ name := "name", type := (.object "java/lang/String"), accessFlags := 18, slot := 0, constantValue := 0 }, { name := "ordinal", type := .int, accessFlags := 18, slot := 1, constantValue := 0 }, { name := "hash", type := .int, accessFlags := 2, slot := 2, constantValue := 0 }]
  methods := #[]
  instanceTypes := #[(.object "java/lang/String"), .int, .int]
  staticTypes := #[]
  resolved := Array.replicate 204 none
  statics := none }

def pool8 : Array CpInfo := pool [(1, .class_ 2), (0, u "com/example/state_over_wire/stateoverwire/core/Reply$Status"), (2, u "DONE"), (0, u "Lcom/example/state_over_wire/stateoverwire/core/Reply$Status;"), (2, u "CONFLICT"), (2, u "REFUSED"), (2, u "NOT_FOUND"), (2, u "UNAVAILABLE"), (2, u "$VALUES"), (0, u "[Lcom/example/state_over_wire/stateoverwire/core/Reply$Status;"), (6, .class_ 31), (1, u "java/lang/Enum"), (8, u "code"), (0, u "B"), (39, .class_ 82), (0, u "com/example/state_over_wire/stateoverwire/core/Reply")] 16

/-- com/example/state_over_wire/stateoverwire/core/Reply$Status -/
def k8 : Class := { plain "com/example/state_over_wire/stateoverwire/core/Reply$Status" (some 7) with
  accessFlags := 16433
  interfaces := #[]
  cf := some (fileOf pool8 1 #[.nestHost 81] #[] 16433 29 #[] #[{ accessFlags := 16409, nameIndex := 5, descriptorIndex := 6, attributes := #[] }, { accessFlags := 16409, nameIndex := 9, descriptorIndex := 6, attributes := #[] }, { accessFlags := 16409, nameIndex := 12, descriptorIndex := 6, attributes := #[] }, { accessFlags := 16409, nameIndex := 15, descriptorIndex := 6, attributes := #[] }, { accessFlags := 16409, nameIndex := 18, descriptorIndex := 6, attributes := #[] }, { accessFlags := 18, nameIndex := 40, descriptorIndex := 41, attributes := #[] }, { accessFlags := 4122, nameIndex := 21, descriptorIndex := 22, attributes := #[] }])
  fields := #[{ name := "DONE", type := (.object "com/example/state_over_wire/stateoverwire/core/Reply$Status"), accessFlags := 16409, slot := 0, constantValue := 0 }, { name := "CONFLICT", type := (.object "com/example/state_over_wire/stateoverwire/core/Reply$Status"), accessFlags := 16409, slot := 1, constantValue := 0 }, { name := "REFUSED", type := (.object "com/example/state_over_wire/stateoverwire/core/Reply$Status"), accessFlags := 16409, slot := 2, constantValue := 0 }, { name := "NOT_FOUND", type := (.object "com/example/state_over_wire/stateoverwire/core/Reply$Status"), accessFlags := 16409, slot := 3, constantValue := 0 }, { name := "UNAVAILABLE", type := (.object "com/example/state_over_wire/stateoverwire/core/Reply$Status"), accessFlags := 16409, slot := 4, constantValue := 0 }, { name := "code", type := .byte, accessFlags := 18, slot := 3, constantValue := 0 }, { name := "$VALUES", type := (.array (.object "com/example/state_over_wire/stateoverwire/core/Reply$Status")), accessFlags := 4122, slot := 5, constantValue := 0 }]
  methods := #[]
  instanceTypes := #[(.object "java/lang/String"), .int, .int, .byte]
  staticTypes := #[(.object "com/example/state_over_wire/stateoverwire/core/Reply$Status"), (.object "com/example/state_over_wire/stateoverwire/core/Reply$Status"), (.object "com/example/state_over_wire/stateoverwire/core/Reply$Status"), (.object "com/example/state_over_wire/stateoverwire/core/Reply$Status"), (.object "com/example/state_over_wire/stateoverwire/core/Reply$Status"), (.array (.object "com/example/state_over_wire/stateoverwire/core/Reply$Status"))]
  resolved := Array.replicate 99 none
  statics := some 1 }

def pool9 : Array CpInfo := pool [(2, .class_ 4), (1, u "java/lang/CharSequence"), (42, .class_ 48), (0, u "java/lang/CharSequence$1CodePointIterator"), (10, .class_ 60), (0, u "java/lang/CharSequence$1CharIterator"), (5, .class_ 67), (0, u "java/lang/Object")] 63

/-- java/lang/CharSequence -/
def k9 : Class := { plain "java/lang/CharSequence" (some 0) with
  accessFlags := 1537
  interfaces := #[]
  cf := some (fileOf pool9 2 #[.nestMembers #[47, 59]] #[] 1537 66 #[] #[])
  fields := #[]
  methods := #[]
  instanceTypes := #[]
  staticTypes := #[]
  resolved := Array.replicate 131 none
  statics := none }

def pool10 : Array CpInfo := pool [(1, .class_ 2), (0, u "java/lang/constant/ConstantDesc"), (0, .class_ 4), (0, u "java/lang/Object")] 32

/-- java/lang/constant/ConstantDesc -/
def k10 : Class := { plain "java/lang/constant/ConstantDesc" (some 0) with
  accessFlags := 1537
  interfaces := #[]
  cf := some (fileOf pool10 1 #[] #[] 1537 3 #[] #[])
  fields := #[]
  methods := #[]
  instanceTypes := #[]
  staticTypes := #[]
  resolved := Array.replicate 37 none
  statics := none }

def pool11 : Array CpInfo := pool [(2, .class_ 4), (1, u "java/lang/Object"), (0, u "<init>"), (0, u "()V"), (3, .class_ 12), (1, u "java/lang/String"), (0, u "value"), (0, u "[B"), (2, u "coder"), (0, u "B"), (2, u "hash"), (0, u "I"), (2, u "hashIsZero"), (0, u "Z"), (13, u "COMPACT_STRINGS"), (534, .class_ 576), (0, u "java/lang/CharSequence"), (22, u "CASE_INSENSITIVE_ORDER"), (0, u "Ljava/util/Comparator;"), (500, u "serialPersistentFields"), (0, u "[Ljava/io/ObjectStreamField;"), (0, .class_ 1104), (0, u "java/lang/String$CaseInsensitiveComparator"), (1, .class_ 1107), (0, u "java/io/Serializable"), (0, .class_ 1109), (0, u "java/lang/Comparable"), (0, .class_ 1111), (0, u "java/lang/constant/Constable"), (0, .class_ 1113), (0, u "java/lang/constant/ConstantDesc"), (2, u "serialVersionUID"), (0, u "J"), (3, u "REPL"), (0, u "C"), (2, u "LATIN1"), (1, u "UTF16")] 323

def k11m0 : Method := { name := "<init>", desc := "()V", sig := { parameters := [], returnType := none }, accessFlags := 1, code := none }
/-- java/lang/String -/
def k11 : Class := { plain "java/lang/String" (some 0) with
  accessFlags := 49
  interfaces := #[6, 5, 9, 4, 10]
  cf := some (fileOf pool11 10 #[.nestMembers #[1103]] #[{ accessFlags := 1, nameIndex := 5, descriptorIndex := 6, attributes := #[] }] 49 2 #[1106, 1108, 575, 1110, 1112] #[{ accessFlags := 18, nameIndex := 13, descriptorIndex := 14, attributes := #[] }, { accessFlags := 18, nameIndex := 17, descriptorIndex := 18, attributes := #[] }, { accessFlags := 2, nameIndex := 21, descriptorIndex := 22, attributes := #[] }, { accessFlags := 2, nameIndex := 25, descriptorIndex := 26, attributes := #[] }, { accessFlags := 26, nameIndex := 1116, descriptorIndex := 1117, attributes := #[] }, { accessFlags := 24, nameIndex := 40, descriptorIndex := 26, attributes := #[] }, { accessFlags := 26, nameIndex := 1101, descriptorIndex := 1102, attributes := #[] }, { accessFlags := 26, nameIndex := 1121, descriptorIndex := 1122, attributes := #[] }, { accessFlags := 25, nameIndex := 599, descriptorIndex := 600, attributes := #[] }, { accessFlags := 24, nameIndex := 1125, descriptorIndex := 18, attributes := #[] }, { accessFlags := 24, nameIndex := 1127, descriptorIndex := 18, attributes := #[] }])
  fields := #[{ name := "value", type := (.array .byte), accessFlags := 18, slot := 0, constantValue := 0 }, { name := "coder", type := .byte, accessFlags := 18, slot := 1, constantValue := 0 }, { name := "hash", type := .int, accessFlags := 2, slot := 2, constantValue := 0 }, { name := "hashIsZero", type := .boolean, accessFlags := 2, slot := 3, constantValue := 0 }, { name := "serialVersionUID", type := .long, accessFlags := 26, slot := 0, constantValue := 0 }, { name := "COMPACT_STRINGS", type := .boolean, accessFlags := 24, slot := 1, constantValue := 0 }, { name := "serialPersistentFields", type := (.array (.object "java/io/ObjectStreamField")), accessFlags := 26, slot := 2, constantValue := 0 }, { name := "REPL", type := .char, accessFlags := 26, slot := 3, constantValue := 0 }, { name := "CASE_INSENSITIVE_ORDER", type := (.object "java/util/Comparator"), accessFlags := 25, slot := 4, constantValue := 0 }, { name := "LATIN1", type := .byte, accessFlags := 24, slot := 5, constantValue := 0 }, { name := "UTF16", type := .byte, accessFlags := 24, slot := 6, constantValue := 0 }]
  methods := #[k11m0]
  instanceTypes := #[(.array .byte), .byte, .int, .boolean]
  staticTypes := #[.long, .boolean, (.array (.object "java/io/ObjectStreamField")), .char, (.object "java/util/Comparator"), .byte, .byte]
  resolved := Array.replicate 1451 none
  statics := none }

def pool12 : Array CpInfo := pool [(2, .class_ 4), (1, u "java/lang/Object"), (0, u "<init>"), (0, u "()V"), (35, .class_ 44), (1, u "java/util/Objects"), (0, u "requireNonNull"), (48, u "(Ljava/lang/Object;Ljava/lang/String;)Ljava/lang/Object;")] 89

def k12m0 : Method := { name := "<init>", desc := "()V", sig := { parameters := [], returnType := none }, accessFlags := 2, code := none }
def k12c1 : Code := { maxStack := 3, maxLocals := 2, code := jdk_31_method_11_code, exceptionTable := #[], attributes := #[] }
def k12m1 : Method := { name := "requireNonNull", desc := "(Ljava/lang/Object;Ljava/lang/String;)Ljava/lang/Object;", sig := { parameters := [(.object "java/lang/Object"), (.object "java/lang/String")], returnType := some (.object "java/lang/Object") }, accessFlags := 9, code := some k12c1 }
/-- java/util/Objects -/
def k12 : Class := { plain "java/util/Objects" (some 0) with
  accessFlags := 49
  interfaces := #[]
  cf := some (fileOf pool12 42 #[] #[{ accessFlags := 2, nameIndex := 5, descriptorIndex := 6, attributes := #[] }, { accessFlags := 9, nameIndex := 45, descriptorIndex := 94, attributes := #[] }] 49 2 #[] #[])
  fields := #[]
  methods := #[k12m0, k12m1]
  instanceTypes := #[]
  staticTypes := #[]
  resolved := Array.replicate 184 none
  statics := none }

def pool13 : Array CpInfo := pool [(1, u "java/lang/Cloneable"), (0, .class_ 1), (0, u "java/lang/Object"), (0, .class_ 3)] 3

/-- java/lang/Cloneable -/
def k13 : Class := { plain "java/lang/Cloneable" (some 0) with
  accessFlags := 1537
  interfaces := #[]
  cf := some (fileOf pool13 2 #[] #[] 1537 4 #[] #[])
  fields := #[]
  methods := #[]
  instanceTypes := #[]
  staticTypes := #[]
  resolved := Array.replicate 8 none
  statics := none }

/-- the primitive byte -/
def k14 : Class := { plain "byte" none with kind := .primitive 'B', accessFlags := 0x411 }
/-- [B -/
def k15 : Class := { plain "[B" (some 0) with kind := .array 14 .byte, interfaces := #[13, 6], accessFlags := 1041 }

/-- the primitive int -/
def k16 : Class := { plain "int" none with kind := .primitive 'I', accessFlags := 0x411 }
/-- [I -/
def k17 : Class := { plain "[I" (some 0) with kind := .array 16 .int, interfaces := #[13, 6], accessFlags := 1041 }

def heap : Heap := #[{ cls := 3, slots := #[.int 0, .ref 3], vm := .statics 3 },
  { cls := 8, slots := #[.ref 2, .null, .null, .null, .null, .null], vm := .statics 8 },
  { cls := 8, slots := #[.null, .int 0, .int 0, .int 0], vm := .none },
  { cls := 15, slots := #[], vm := .none }]
def classes : Array Class := #[k0, k1, k2, k3, k4, k5, k6, k7, k8, k9, k10, k11, k12, k13, k14, k15, k16, k17]
def interned : List (Array UInt16 × Addr) := []
def slotsUsed : Nat := 12
def theMethod : MethodId := ⟨1, 1⟩
def args0 : Array Value := #[.long 5]
def aboutOver (below : List Frame) : State where
  vm := { classes := classes, interned := interned.toArray }
  heap := heap
  slotsUsed := slotsUsed
  threads := #[{ frames := .invoking theMethod args0 :: below }]
def below0 : List Frame := [.native { method := ⟨0, 0⟩, args := #[] }]
def about1 : State := aboutOver below0
def p0 : Program := .bare "" "" ""
def e0 : Env := launch0.env 0 0 0
theorem w_frames : about1.frames = Frame.invoking theMethod args0 :: below0 := rfl
set_option maxRecDepth 65536 in
theorem w_args : argsFit about1.vm theMethod args0 = true := by decide +kernel
set_option maxRecDepth 65536 in
theorem w_heap : heapFits about1 = true := by decide +kernel
set_option maxRecDepth 65536 in
theorem w_runnable : about1.curStatus? = some .runnable := by decide +kernel
set_option maxRecDepth 65536 in
theorem w_alone : about1.alone = true := by decide +kernel
set_option maxRecDepth 65536 in
theorem w_named : about1.methodNamed? x = some theMethod := by decide +kernel
set_option maxRecDepth 65536 in
theorem w_hears : about1.hears theMethod below0 = true := by decide +kernel
set_option maxRecDepth 65536 in
theorem w_ripe : about1.ripe theMethod args0 below0 = true := by decide +kernel
theorem w_running : about1.status = .running := rfl
set_option maxRecDepth 65536 in
theorem w_room : about1.hasRoom e0.platform room_1 = true :=
  launch0.hasRoom_least _ room_1 (by decide +kernel) (by decide +kernel) (by decide +kernel) (by decide +kernel) (by decide +kernel) (by decide +kernel)
theorem allAtoms_all (ts : List Jvm.Cond) (a : Array Jvm.Value) (st : Jvm.State) : (allAtoms ts).before a st = ts.all (fun c => c.before a st) := by
  induction ts with
  | nil => rfl
  | cons c t ih =>
    show (Jvm.Cond.and c (allAtoms t)).before a st = _
    rw [Jvm.Cond.before_and, ih, List.all_cons]
def words1 : List Jvm.Cond := Jvm.Cond.code x code maxLocals ret :: tables_1
/-- a 'code' word, met by the world's own term for the bytes: nothing is compared byte by byte -/
theorem code_word {y : MethodName} {bytes : ByteArray} {mx : Nat} {rt : Option FieldType} {a : Array Value} {s : State} {m : MethodId} {meth : Method} {c : Code} (h1 : s.methodNamed? y = some m) (h2 : s.vm.method? m = some meth) (h3 : meth.code = some c) (h4 : c.code = bytes)
    (h5 : (c.maxLocals == mx && c.exceptionTable.isEmpty && decide (c.maxStack ≤ mostOperands) && decide (meth.sig.returnType = rt) && !meth.locks && decide (parseMethodDescriptor y.desc = some meth.sig)) = true) : (Jvm.Cond.code y bytes mx rt).before a s = true := by
  simp only [Bool.and_eq_true, beq_iff_eq, Bool.not_eq_true', decide_eq_true_eq] at h5
  obtain ⟨⟨⟨⟨⟨g1, g2⟩, g3⟩, g4⟩, g5⟩, g6⟩ := h5
  simp [Cond.before, Cond.holds, Cond.value, h1, h2, h3, h4, g1, g2, g3, g4, g5, g6]
def isCode : Jvm.Cond → Bool
  | .code _ _ _ _ => true
  | _ => false
theorem all_split {L : List Jvm.Cond} {P : Jvm.Cond → Bool} (h1 : L.all (fun c => isCode c || P c) = true) (h2 : ∀ c ∈ L.filter isCode, P c = true) : L.all P = true := by
  refine List.all_eq_true.mpr fun c hc => ?_
  have h := List.all_eq_true.mp h1 c hc
  rcases Bool.eq_false_or_eq_true (isCode c) with hi | hi
  · exact h2 c (List.mem_filter.mpr ⟨hc, hi⟩)
  · simpa [hi] using h
set_option maxRecDepth 65536 in
theorem w_c0 : (Jvm.Cond.code x code maxLocals ret).before args0 about1 = true := code_word (m := ⟨1, 1⟩) (meth := k1m1) (c := k1c1) (by decide +kernel) rfl rfl rfl (by decide +kernel)
set_option maxRecDepth 65536 in
theorem w_c1 : (Jvm.Cond.code ({ cls := "com/example/state_over_wire/stateoverwire/core/Reply", name := "done", desc := "(J)Lcom/example/state_over_wire/stateoverwire/core/Reply;" } : Jvm.MethodName) prog_36_method_2_code (2 : Nat) (Option.some (Jvm.ClassFile.FieldType.object "com/example/state_over_wire/stateoverwire/core/Reply"))).before args0 about1 = true := code_word (m := ⟨3, 1⟩) (meth := k3m1) (c := k3c1) (by decide +kernel) rfl rfl rfl (by decide +kernel)
set_option maxRecDepth 65536 in
theorem w_c2 : (Jvm.Cond.code ({ cls := "com/example/state_over_wire/stateoverwire/core/Reply", name := "<init>", desc := "(Lcom/example/state_over_wire/stateoverwire/core/Reply$Status;J[B)V" } : Jvm.MethodName) prog_36_method_1_code (5 : Nat) (Option.none : Option Jvm.ClassFile.FieldType)).before args0 about1 = true := code_word (m := ⟨3, 0⟩) (meth := k3m0) (c := k3c0) (by decide +kernel) rfl rfl rfl (by decide +kernel)
set_option maxRecDepth 65536 in
theorem w_c3 : (Jvm.Cond.code ({ cls := "java/lang/Record", name := "<init>", desc := "()V" } : Jvm.MethodName) jdk_30_method_1_code (1 : Nat) (Option.none : Option Jvm.ClassFile.FieldType)).before args0 about1 = true := code_word (m := ⟨2, 0⟩) (meth := k2m0) (c := k2c0) (by decide +kernel) rfl rfl rfl (by decide +kernel)
set_option maxRecDepth 65536 in
theorem w_c4 : (Jvm.Cond.code ({ cls := "java/lang/Object", name := "<init>", desc := "()V" } : Jvm.MethodName) object_method_1_code (1 : Nat) (Option.none : Option Jvm.ClassFile.FieldType)).before args0 about1 = true := code_word (m := ⟨0, 0⟩) (meth := k0m0) (c := k0c0) (by decide +kernel) rfl rfl rfl (by decide +kernel)
set_option maxRecDepth 65536 in
theorem w_c5 : (Jvm.Cond.code ({ cls := "java/util/Objects", name := "requireNonNull", desc := "(Ljava/lang/Object;Ljava/lang/String;)Ljava/lang/Object;" } : Jvm.MethodName) jdk_31_method_11_code (2 : Nat) (Option.some (Jvm.ClassFile.FieldType.object "java/lang/Object"))).before args0 about1 = true := code_word (m := ⟨12, 1⟩) (meth := k12m1) (c := k12c1) (by decide +kernel) rfl rfl rfl (by decide +kernel)
set_option maxRecDepth 65536 in
theorem w_c6 : (Jvm.Cond.code ({ cls := "com/example/state_over_wire/stateoverwire/core/Reply", name := "status", desc := "()Lcom/example/state_over_wire/stateoverwire/core/Reply$Status;" } : Jvm.MethodName) prog_36_method_15_code (1 : Nat) (Option.some (Jvm.ClassFile.FieldType.object "com/example/state_over_wire/stateoverwire/core/Reply$Status"))).before args0 about1 = true := code_word (m := ⟨3, 2⟩) (meth := k3m2) (c := k3c2) (by decide +kernel) rfl rfl rfl (by decide +kernel)
set_option maxRecDepth 65536 in
theorem w_c7 : (Jvm.Cond.code ({ cls := "com/example/state_over_wire/stateoverwire/core/Reply", name := "version", desc := "()J" } : Jvm.MethodName) prog_36_method_16_code (1 : Nat) (Option.some Jvm.ClassFile.FieldType.long)).before args0 about1 = true := code_word (m := ⟨3, 3⟩) (meth := k3m3) (c := k3c3) (by decide +kernel) rfl rfl rfl (by decide +kernel)
set_option maxRecDepth 65536 in
theorem w_c8 : (Jvm.Cond.code ({ cls := "com/example/state_over_wire/stateoverwire/core/Reply", name := "payload", desc := "()[B" } : Jvm.MethodName) prog_36_method_17_code (1 : Nat) (Option.some (Jvm.ClassFile.FieldType.array Jvm.ClassFile.FieldType.byte))).before args0 about1 = true := code_word (m := ⟨3, 4⟩) (meth := k3m4) (c := k3c4) (by decide +kernel) rfl rfl rfl (by decide +kernel)
def codes1 : List Jvm.Cond := [Jvm.Cond.code x code maxLocals ret, Jvm.Cond.code ({ cls := "com/example/state_over_wire/stateoverwire/core/Reply", name := "done", desc := "(J)Lcom/example/state_over_wire/stateoverwire/core/Reply;" } : Jvm.MethodName) prog_36_method_2_code (2 : Nat) (Option.some (Jvm.ClassFile.FieldType.object "com/example/state_over_wire/stateoverwire/core/Reply")), Jvm.Cond.code ({ cls := "com/example/state_over_wire/stateoverwire/core/Reply", name := "<init>", desc := "(Lcom/example/state_over_wire/stateoverwire/core/Reply$Status;J[B)V" } : Jvm.MethodName) prog_36_method_1_code (5 : Nat) (Option.none : Option Jvm.ClassFile.FieldType), Jvm.Cond.code ({ cls := "java/lang/Record", name := "<init>", desc := "()V" } : Jvm.MethodName) jdk_30_method_1_code (1 : Nat) (Option.none : Option Jvm.ClassFile.FieldType), Jvm.Cond.code ({ cls := "java/lang/Object", name := "<init>", desc := "()V" } : Jvm.MethodName) object_method_1_code (1 : Nat) (Option.none : Option Jvm.ClassFile.FieldType), Jvm.Cond.code ({ cls := "java/util/Objects", name := "requireNonNull", desc := "(Ljava/lang/Object;Ljava/lang/String;)Ljava/lang/Object;" } : Jvm.MethodName) jdk_31_method_11_code (2 : Nat) (Option.some (Jvm.ClassFile.FieldType.object "java/lang/Object")), Jvm.Cond.code ({ cls := "com/example/state_over_wire/stateoverwire/core/Reply", name := "status", desc := "()Lcom/example/state_over_wire/stateoverwire/core/Reply$Status;" } : Jvm.MethodName) prog_36_method_15_code (1 : Nat) (Option.some (Jvm.ClassFile.FieldType.object "com/example/state_over_wire/stateoverwire/core/Reply$Status")), Jvm.Cond.code ({ cls := "com/example/state_over_wire/stateoverwire/core/Reply", name := "version", desc := "()J" } : Jvm.MethodName) prog_36_method_16_code (1 : Nat) (Option.some Jvm.ClassFile.FieldType.long), Jvm.Cond.code ({ cls := "com/example/state_over_wire/stateoverwire/core/Reply", name := "payload", desc := "()[B" } : Jvm.MethodName) prog_36_method_17_code (1 : Nat) (Option.some (Jvm.ClassFile.FieldType.array Jvm.ClassFile.FieldType.byte))]
set_option maxRecDepth 65536 in
theorem codes_eq : words1.filter isCode = codes1 := rfl
theorem w_codes : ∀ c ∈ words1.filter isCode, c.before args0 about1 = true := by
  rw [codes_eq]
  intro c hc
  simp only [codes1, List.mem_cons, List.not_mem_nil, or_false] at hc
  rcases hc with rfl | rfl | rfl | rfl | rfl | rfl | rfl | rfl | rfl
  · exact w_c0
  · exact w_c1
  · exact w_c2
  · exact w_c3
  · exact w_c4
  · exact w_c5
  · exact w_c6
  · exact w_c7
  · exact w_c8
set_option maxRecDepth 65536 in
theorem w_t1 : (words1.take 24).all (fun c => isCode c || c.before args0 about1) = true := by decide +kernel
set_option maxRecDepth 65536 in
theorem w_t2 : ((words1.drop 24).take 24).all (fun c => isCode c || c.before args0 about1) = true := by decide +kernel
set_option maxRecDepth 65536 in
theorem w_t3 : ((words1.drop 24).drop 24).all (fun c => isCode c || c.before args0 about1) = true := by decide +kernel
theorem w_tables : (allAtoms (Jvm.Cond.code x code maxLocals ret :: tables_1)).before args0 about1 = true := by
  rw [allAtoms_all]
  show words1.all (fun c => c.before args0 about1) = true
  refine all_split ?_ w_codes
  rw [← List.take_append_drop 24 words1, List.all_append, w_t1, ← List.take_append_drop 24 (words1.drop 24), List.all_append, w_t2, w_t3]
  rfl
set_option maxRecDepth 65536 in
theorem w_case : (Jvm.Cond.and given_1 narrow_1).before args0 about1 = true := by decide +kernel
theorem w_applies : (headSpec (Jvm.Cond.code x code maxLocals ret :: tables_1) room_1).applies x e0.platform about1 = true :=
  (Spec.applies_iff w_frames).mpr ⟨w_running, w_runnable, w_alone, w_named, w_hears, w_ripe, w_room, w_tables⟩
theorem atStart : AtStart classFile x code maxLocals ret World_1 tables_1 room_1 Calls_1 rest_1 Pre_1 launch0 p0 e0 about1 theMethod args0 below0 :=
  ⟨lists_1, trivial, launch0.admits_env _ _ _, launch0.least_env, fairChoices_fair.cas, fairChoices_fair.clock, w_frames, w_args, w_heap, w_applies, trivial, trivial, w_case⟩
end start1
theorem witness_1 : WitnessClaimed_1 := ⟨start1.p0, start1.e0, start1.about1, start1.theMethod, start1.args0, start1.below0, start1.atStart⟩
end Jvm.Pilot.@@N@@
