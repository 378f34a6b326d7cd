import JvmDerived
import JvmDerived.Pilot.@@N@@Statement
import JvmDerived.Pilot.@@N@@Code
set_option linter.unusedVariables false
set_option linter.unusedSimpArgs false
namespace Jvm.Pilot.@@N@@
open Jvm Jvm.ClassFile Sem Op Lib Jvm.Free Jvm.Stand Jvm.LawKit Jvm.RoadKit Bundle Jvm.Pilot.@@N@@.Jvm.D
/-- what is left of the run from here ends in a state and an outcome of which G holds -/
def own_Fin (tb : Tables) (e : Env) (below : List Frame) (G : State → Outcome → Prop) (st : State) : Prop :=
  ∃ s₂ o, Steps tb e below st s₂ ∧ s₂.status = .running ∧ Ended s₂ below o ∧ G s₂ o
theorem own_st {tb : Tables} {e : Env} {below : List Frame} {G : State → Outcome → Prop} {st st' : State} (k : ∀ t, Steps tb e below st' t → Steps tb e below st t) (h : own_Fin tb e below G st') : own_Fin tb e below G st := by
  obtain ⟨s₂, o, h1, h2⟩ := h
  exact ⟨s₂, o, k _ h1, h2⟩

theorem own_fi {Z : State} {args : Array Value} {t : Term} {a : Addr} {O n d : String} {k : Int32} (ev : t.eval args Z none [] Z = some (.ref a)) (h : (Jvm.Cond.eq (.field t O n d) (.int k)).value args Z none Z [] = some true) : Fld Z Z.heap a O n d (.int k) := by
  obtain ⟨x, y, e1, e2, -, -⟩ := cmp_v (Or.inl h)
  have e3 : (Term.int k).eval args Z none [] Z = some (.int k) := Term.int_eval k
  have e4 : x = .int k := by
    simp only [Jvm.Cond.value, e1, e3] at h
    cases x <;> simp at h
    rw [h]
  subst e4
  rw [fld_at ev] at e1
  exact Fld.start e1

theorem own_fn {Z : State} {args : Array Value} {t : Term} {a : Addr} {O n d : String} (ev : t.eval args Z none [] Z = some (.ref a)) (h : (Jvm.Cond.eq (.field t O n d) .null).value args Z none Z [] = some true) : Fld Z Z.heap a O n d .null := by
  have e1 := null_v h
  rw [fld_at ev] at e1
  exact Fld.start e1
theorem own_fx {Z : State} {args : Array Value} {t : Term} {a : Addr} {O n d K : String} (ev : t.eval args Z none [] Z = some (.ref a)) (h : (Jvm.Cond.exactly (.field t O n d) K).value args Z none Z [] = some true) : ∃ y, Fld Z Z.heap a O n d (.ref y) := by
  obtain ⟨y, e1⟩ := exa_v h
  rw [fld_at ev] at e1
  exact ⟨y, Fld.start e1⟩

theorem own_nar {d : String} {v : Value} (h : v.isRef = true) : narrow (.object d) v = v := by
  rcases ref_cases h with rfl | ⟨a, rfl⟩ <;> rfl
theorem own_fit {d : String} {v : Value} (h : v.isRef = true) : fits (.object d) v = true := by
  rcases ref_cases h with rfl | ⟨a, rfl⟩ <;> rfl

theorem pn_com_example_tallyhook_tallyhook_model_Reply : plainName "com/example/tallyhook/tallyhook/model/Reply" = true := by first | (simp [plainName, overriddenIn]; done) | decide +kernel
theorem pn_com_example_tallyhook_tallyhook_model_ReplyAcknowledgesPinLaw : plainName "com/example/tallyhook/tallyhook/model/ReplyAcknowledgesPinLaw" = true := by first | (simp [plainName, overriddenIn]; done) | decide +kernel
theorem d1_0 : decode method_2_code 0 = .ok (.iload_n 0, 1) := by decide +kernel
theorem d1_1 : decode method_2_code 1 = .ok (.ifCond .ne 7, 3) := by decide +kernel
theorem d1_4 : decode method_2_code 4 = .ok (.getstatic 7, 3) := by decide +kernel
theorem d1_7 : decode method_2_code 7 = .ok (.areturn, 1) := by decide +kernel
theorem d1_8 : decode method_2_code 8 = .ok (.iload_n 0, 1) := by decide +kernel
theorem d1_9 : decode method_2_code 9 = .ok (.iconst 1, 1) := by decide +kernel
theorem d1_10 : decode method_2_code 10 = .ok (.if_icmp .ne 7, 3) := by decide +kernel
theorem d1_13 : decode method_2_code 13 = .ok (.getstatic 13, 3) := by decide +kernel
theorem d1_16 : decode method_2_code 16 = .ok (.areturn, 1) := by decide +kernel
theorem d1_17 : decode method_2_code 17 = .ok (.iload_n 0, 1) := by decide +kernel
theorem d1_18 : decode method_2_code 18 = .ok (.iconst 2, 1) := by decide +kernel
theorem d1_19 : decode method_2_code 19 = .ok (.if_icmp .ne 7, 3) := by decide +kernel
theorem d1_22 : decode method_2_code 22 = .ok (.getstatic 16, 3) := by decide +kernel
theorem d1_25 : decode method_2_code 25 = .ok (.areturn, 1) := by decide +kernel
theorem d1_26 : decode method_2_code 26 = .ok (.iload_n 0, 1) := by decide +kernel
theorem d1_27 : decode method_2_code 27 = .ok (.iconst 3, 1) := by decide +kernel
theorem d1_28 : decode method_2_code 28 = .ok (.if_icmp .ne 7, 3) := by decide +kernel
theorem d1_31 : decode method_2_code 31 = .ok (.getstatic 19, 3) := by decide +kernel
theorem d1_34 : decode method_2_code 34 = .ok (.areturn, 1) := by decide +kernel
theorem d1_35 : decode method_2_code 35 = .ok (.iload_n 0, 1) := by decide +kernel
theorem d1_36 : decode method_2_code 36 = .ok (.iconst 4, 1) := by decide +kernel
theorem d1_37 : decode method_2_code 37 = .ok (.if_icmp .ne 7, 3) := by decide +kernel
theorem d1_40 : decode method_2_code 40 = .ok (.getstatic 22, 3) := by decide +kernel
theorem d1_43 : decode method_2_code 43 = .ok (.areturn, 1) := by decide +kernel
theorem d1_44 : decode method_2_code 44 = .ok (.iload_n 0, 1) := by decide +kernel
theorem d1_45 : decode method_2_code 45 = .ok (.iconst 5, 1) := by decide +kernel
theorem d1_46 : decode method_2_code 46 = .ok (.if_icmp .ne 7, 3) := by decide +kernel
theorem d1_49 : decode method_2_code 49 = .ok (.getstatic 25, 3) := by decide +kernel
theorem d1_52 : decode method_2_code 52 = .ok (.areturn, 1) := by decide +kernel
theorem d1_53 : decode method_2_code 53 = .ok (.iload_n 0, 1) := by decide +kernel
theorem d1_54 : decode method_2_code 54 = .ok (.bipush 6, 2) := by decide +kernel
theorem d1_56 : decode method_2_code 56 = .ok (.if_icmp .ne 7, 3) := by decide +kernel
theorem d1_59 : decode method_2_code 59 = .ok (.getstatic 28, 3) := by decide +kernel
theorem d1_62 : decode method_2_code 62 = .ok (.areturn, 1) := by decide +kernel
theorem d1_63 : decode method_2_code 63 = .ok (.iload_n 0, 1) := by decide +kernel
theorem d1_64 : decode method_2_code 64 = .ok (.bipush 7, 2) := by decide +kernel
theorem d1_66 : decode method_2_code 66 = .ok (.if_icmp .ne 7, 3) := by decide +kernel
theorem d1_69 : decode method_2_code 69 = .ok (.getstatic 31, 3) := by decide +kernel
theorem d1_72 : decode method_2_code 72 = .ok (.areturn, 1) := by decide +kernel
theorem d1_73 : decode method_2_code 73 = .ok (.iload_n 0, 1) := by decide +kernel
theorem d1_74 : decode method_2_code 74 = .ok (.bipush 8, 2) := by decide +kernel
theorem d1_76 : decode method_2_code 76 = .ok (.if_icmp .ne 7, 3) := by decide +kernel
theorem d1_79 : decode method_2_code 79 = .ok (.getstatic 34, 3) := by decide +kernel
theorem d1_82 : decode method_2_code 82 = .ok (.areturn, 1) := by decide +kernel
theorem d1_83 : decode method_2_code 83 = .ok (.iload_n 0, 1) := by decide +kernel
theorem d1_84 : decode method_2_code 84 = .ok (.bipush 9, 2) := by decide +kernel
theorem d1_86 : decode method_2_code 86 = .ok (.if_icmp .ne 7, 3) := by decide +kernel
theorem d1_89 : decode method_2_code 89 = .ok (.getstatic 37, 3) := by decide +kernel
theorem d1_92 : decode method_2_code 92 = .ok (.areturn, 1) := by decide +kernel
theorem d1_93 : decode method_2_code 93 = .ok (.iload_n 0, 1) := by decide +kernel
theorem d1_94 : decode method_2_code 94 = .ok (.bipush 10, 2) := by decide +kernel
theorem d1_96 : decode method_2_code 96 = .ok (.if_icmp .ne 7, 3) := by decide +kernel
theorem d1_99 : decode method_2_code 99 = .ok (.getstatic 40, 3) := by decide +kernel
theorem d1_102 : decode method_2_code 102 = .ok (.areturn, 1) := by decide +kernel
theorem d1_103 : decode method_2_code 103 = .ok (.getstatic 43, 3) := by decide +kernel
theorem d1_106 : decode method_2_code 106 = .ok (.areturn, 1) := by decide +kernel
theorem d2_0 : decode prog_55_method_6_code 0 = .ok (.aload_n 0, 1) := by decide +kernel
theorem d2_1 : decode prog_55_method_6_code 1 = .ok (.getfield 59, 3) := by decide +kernel
theorem d2_4 : decode prog_55_method_6_code 4 = .ok (.sipush 200, 3) := by decide +kernel
theorem d2_7 : decode prog_55_method_6_code 7 = .ok (.if_icmp .ne 7, 3) := by decide +kernel
theorem d2_10 : decode prog_55_method_6_code 10 = .ok (.iconst 1, 1) := by decide +kernel
theorem d2_11 : decode prog_55_method_6_code 11 = .ok (.goto 4, 3) := by decide +kernel
theorem d2_14 : decode prog_55_method_6_code 14 = .ok (.iconst 0, 1) := by decide +kernel
theorem d2_15 : decode prog_55_method_6_code 15 = .ok (.ireturn, 1) := by decide +kernel
theorem d3_0 : decode prog_55_method_4_code 0 = .ok (.aload_n 0, 1) := by decide +kernel
theorem d3_1 : decode prog_55_method_4_code 1 = .ok (.getfield 59, 3) := by decide +kernel
theorem d3_4 : decode prog_55_method_4_code 4 = .ok (.ireturn, 1) := by decide +kernel
theorem d4_0 : decode prog_55_method_5_code 0 = .ok (.aload_n 0, 1) := by decide +kernel
theorem d4_1 : decode prog_55_method_5_code 1 = .ok (.getfield 63, 3) := by decide +kernel
theorem d4_4 : decode prog_55_method_5_code 4 = .ok (.areturn, 1) := by decide +kernel
theorem own_k0 (x : Int32) : ¬ ((x &&& 2147483647) % 12 < 0) := by
  have h1 := c_and x 2147483647 (by decide)
  have h2 := (c_irem (x &&& 2147483647) 12 12 (by decide)).1 h1.1
  rw [Int32.lt_iff_toInt_lt, h2]
  have : (0 : Int32).toInt = 0 := by decide
  omega
theorem own_k2 {k : Int32} (h0 : ¬ k < 0) (h1 : ¬ k = 0) (h2 : ¬ k = 1) : ¬ k < 2 := by
  rw [Int32.lt_iff_toInt_lt] at h0 ⊢
  have e0 : (0 : Int32).toInt = 0 := by decide
  have e1 : (1 : Int32).toInt = 1 := by decide
  have e2 : (2 : Int32).toInt = 2 := by decide
  have n1 : k.toInt ≠ 0 := fun h => h1 (Int32.toInt_inj.mp (by rw [h, e0]))
  have n2 : k.toInt ≠ 1 := fun h => h2 (Int32.toInt_inj.mp (by rw [h, e1]))
  omega
def own_R (Z : State) (h : Heap) (f : String) (a : Addr) (st : Int32) (rs : Value) : Prop := Sta Z h "com/example/tallyhook/tallyhook/model/Reply" f "Lcom/example/tallyhook/tallyhook/model/Reply;" (.ref a) ∧ Exa Z h a "com/example/tallyhook/tallyhook/model/Reply" ∧ Fld Z h a "com/example/tallyhook/tallyhook/model/Reply" "status" "I" (.int st) ∧ Fld Z h a "com/example/tallyhook/tallyhook/model/Reply" "reason" "Ljava/lang/String;" rs
theorem pd__I_Lcom_example_tallyhook_tallyhook_model_Reply_ : parseMethodDescriptor "(I)Lcom/example/tallyhook/tallyhook/model/Reply;" = some ⟨[.int], some (.object "com/example/tallyhook/tallyhook/model/Reply")⟩ := by decide +kernel
theorem pd___Z : parseMethodDescriptor "()Z" = some ⟨[], some .boolean⟩ := by decide +kernel
theorem pd___I : parseMethodDescriptor "()I" = some ⟨[], some .int⟩ := by decide +kernel
theorem pd___Ljava_lang_String_ : parseMethodDescriptor "()Ljava/lang/String;" = some ⟨[], some (.object "java/lang/String")⟩ := by decide +kernel
def Q1 (Z : State) (k1 : Int32) (aKEPT : Addr) (aREDELIVERED : Addr) (aBAD_REQUEST : Addr) (aBAD_JSON : Addr) (aMISSING_SIGN : Addr) (aBAD_SIGN : Addr) (aEXPIRED : Addr) (aUNKNOWN_APP : Addr) (aNOT_FOUND : Addr) (aMETHOD : Addr) (aTOO_LARGE : Addr) (aINTERNAL : Addr) (yBAD_REQUEST : Addr) (yBAD_JSON : Addr) (yMISSING_SIGN : Addr) (yBAD_SIGN : Addr) (yEXPIRED : Addr) (yUNKNOWN_APP : Addr) (yNOT_FOUND : Addr) (yMETHOD : Addr) (yTOO_LARGE : Addr) (yINTERNAL : Addr) (h0 : Heap) (n0 : Nat) (v : Option Value) (h : Heap) (L : List Loc) : Prop := ∃ (r : Addr) (st : Int32) (rs : Value), v = some (.ref r) ∧ Exa Z h0 r "com/example/tallyhook/tallyhook/model/Reply" ∧ Fld Z h0 r "com/example/tallyhook/tallyhook/model/Reply" "status" "I" (.int st) ∧ Fld Z h0 r "com/example/tallyhook/tallyhook/model/Reply" "reason" "Ljava/lang/String;" rs ∧ ((k1 < 2 ∧ st = 200 ∧ rs = .null) ∨ (¬ k1 < 2 ∧ ¬ st = 200 ∧ ∃ y, rs = .ref y)) ∧ Fr n0 L ∧ h = h0
set_option maxRecDepth 65536 in
set_option maxHeartbeats 40000000 in
theorem rm1 (l : Launch) (Z : State) (a0 : Array Value) (hw : ∀ d ∈ tables_1, d.before a0 Z = true) (ws : List Jvm.Cond) (k1 : Int32) (aKEPT : Addr) (aREDELIVERED : Addr) (aBAD_REQUEST : Addr) (aBAD_JSON : Addr) (aMISSING_SIGN : Addr) (aBAD_SIGN : Addr) (aEXPIRED : Addr) (aUNKNOWN_APP : Addr) (aNOT_FOUND : Addr) (aMETHOD : Addr) (aTOO_LARGE : Addr) (aINTERNAL : Addr) (yBAD_REQUEST : Addr) (yBAD_JSON : Addr) (yMISSING_SIGN : Addr) (yBAD_SIGN : Addr) (yEXPIRED : Addr) (yUNKNOWN_APP : Addr) (yNOT_FOUND : Addr) (yMETHOD : Addr) (yTOO_LARGE : Addr) (yINTERNAL : Addr) (h0 : Heap) (n0 : Nat) (Z0 : n0 ≤ h0.size) (hk : ¬ k1 < 0) (R_KEPT : own_R Z h0 "KEPT" aKEPT 200 .null) (R_REDELIVERED : own_R Z h0 "REDELIVERED" aREDELIVERED 200 .null) (R_BAD_REQUEST : own_R Z h0 "BAD_REQUEST" aBAD_REQUEST 400 (.ref yBAD_REQUEST)) (R_BAD_JSON : own_R Z h0 "BAD_JSON" aBAD_JSON 400 (.ref yBAD_JSON)) (R_MISSING_SIGN : own_R Z h0 "MISSING_SIGN" aMISSING_SIGN 401 (.ref yMISSING_SIGN)) (R_BAD_SIGN : own_R Z h0 "BAD_SIGN" aBAD_SIGN 401 (.ref yBAD_SIGN)) (R_EXPIRED : own_R Z h0 "EXPIRED" aEXPIRED 401 (.ref yEXPIRED)) (R_UNKNOWN_APP : own_R Z h0 "UNKNOWN_APP" aUNKNOWN_APP 401 (.ref yUNKNOWN_APP)) (R_NOT_FOUND : own_R Z h0 "NOT_FOUND" aNOT_FOUND 404 (.ref yNOT_FOUND)) (R_METHOD : own_R Z h0 "METHOD" aMETHOD 405 (.ref yMETHOD)) (R_TOO_LARGE : own_R Z h0 "TOO_LARGE" aTOO_LARGE 413 (.ref yTOO_LARGE)) (R_INTERNAL : own_R Z h0 "INTERNAL" aINTERNAL 500 (.ref yINTERNAL)) :
    MetFree l (⟨"com/example/tallyhook/tallyhook/model/ReplyAcknowledgesPinLaw", "pick", "(I)Lcom/example/tallyhook/tallyhook/model/Reply;"⟩ : MethodName) (head1 (Jvm.Cond.code (⟨"com/example/tallyhook/tallyhook/model/ReplyAcknowledgesPinLaw", "pick", "(I)Lcom/example/tallyhook/tallyhook/model/Reply;"⟩ : MethodName) method_2_code 1 (some (.object "com/example/tallyhook/tallyhook/model/Reply")) :: ws) ({ frames := 1, cells := 0, slots := 0, locals := 12 } : Room)) (fun a U => a = #[(.int k1)] ∧ Z.Warmed39 U.vm ∧ U.heap = h0) (fun _ _ _ _ _ => True) (fun _ U o U' => ∃ v L, o = .returned v ∧ Q1 Z k1 aKEPT aREDELIVERED aBAD_REQUEST aBAD_JSON aMISSING_SIGN aBAD_SIGN aEXPIRED aUNKNOWN_APP aNOT_FOUND aMETHOD aTOO_LARGE aINTERNAL yBAD_REQUEST yBAD_JSON yMISSING_SIGN yBAD_SIGN yEXPIRED yUNKNOWN_APP yNOT_FOUND yMETHOD yTOO_LARGE yINTERNAL h0 n0 v U'.heap L ∧ FrameEnd U o U' L ({ frames := 1, cells := 0, slots := 0, locals := 12 } : Room).cells ({ frames := 1, cells := 0, slots := 0, locals := 12 } : Room).slots) := by
  refine MetFree.of_bodySF (plainFor_of_name pn_com_example_tallyhook_tallyhook_model_ReplyAcknowledgesPinLaw) hisR ?_
  intro p e s m args below meth c s₁ Bd hml0 hP hK
  obtain ⟨rfl, hZ, hh⟩ := hP
  have hx := Bd.exec
  have hby := Bd.bytes
  have hml : c.maxLocals = 1 := hml0
  have hown : s.vm.findClass "com/example/tallyhook/tallyhook/model/ReplyAcknowledgesPinLaw" = some m.cls := findClass_of_methodNamed Bd.named
  have hnm := (name_of_methodNamed Bd.named Bd.method).1
  have X0 : Stand p l e ({ frames := 1, cells := 0, slots := 0, locals := 12 } : Room) s m #[(.int k1)] below meth c s₁ [] 0 0 := Stand.of_body Bd
  have e0 : s₁.heap = h0 := by rw [← hh, Bd.state]; rfl
  have N0 := Fr.nil n0
  change own_Fin p.tables e below (fun s₂ o => ∃ v L, o = .returned v ∧ Q1 Z k1 aKEPT aREDELIVERED aBAD_REQUEST aBAD_JSON aMISSING_SIGN aBAD_SIGN aEXPIRED aUNKNOWN_APP aNOT_FOUND aMETHOD aTOO_LARGE aINTERNAL yBAD_REQUEST yBAD_JSON yMISSING_SIGN yBAD_SIGN yEXPIRED yUNKNOWN_APP yNOT_FOUND yMETHOD yTOO_LARGE yINTERNAL h0 n0 v s₂.heap L ∧ FrameEnd s o s₂ L ({ frames := 1, cells := 0, slots := 0, locals := 12 } : Room).cells ({ frames := 1, cells := 0, slots := 0, locals := 12 } : Room).slots) (s₁.setTop (entryFrame m #[(.int k1)] 1))
  refine own_st (fun t k => castTop (show entryFrame m #[(.int k1)] 1 = mkF m 0 #[.val (.int k1)] [] by first | (simp [entryFrame, mkF, argsToLocals, Value.category, maxLocals]; done) | rfl) k) ?_
  show own_Fin p.tables e below _ (s₁.setTop (mkF m 0 #[.val (.int k1)] []))
  refine own_st (fun t k => XS.iloadN X0.here hx rfl (hb hby d1_0) rfl k) ?_
  show own_Fin p.tables e below _ (s₁.setTop (mkF m 1 #[.val (.int k1)] [(.int k1)]))
  rcases Decidable.em (k1 = 0) with c0 | c0
  · have _ := c0
    refine own_st (fun t k => XS.ifNo X0.here hx rfl (hb hby d1_1) rfl (XT.i0_ne_f c0) k) ?_
    show own_Fin p.tables e below _ (s₁.setTop (mkF m 4 #[.val (.int k1)] []))
    obtain ⟨T1, X1, e1, st1⟩ := getS (host := "") X0 hx hZ hown (hw _ (List.mem_of_getElem? (i := 5) rfl)) Via.refl e0 R_KEPT.1 (g := (mkF m 4 #[.val (.int k1)] [])) rfl (hb hby d1_4)
    refine own_st st1 ?_
    show own_Fin p.tables e below _ (T1.setTop (mkF m 7 #[.val (.int k1)] [(.ref aKEPT)]))
    obtain ⟨fs, hr, hrun, hended, hW, hsame⟩ := X1.leave (v := (some (.ref aKEPT))) (fun h => by rw [Bd.returns] at h; cases h)
    refine ⟨_, _, retOut X1 hx (t := (.object "com/example/tallyhook/tallyhook/model/Reply")) Bd.returns rfl (Or.inr (Or.inr (Or.inr (Or.inr ⟨rfl, rfl, rfl⟩)))) (hb hby d1_7) hr, hrun, hended, _, _, rfl, ?_, ⟨_, rfl⟩, hW, hsame.mono (by decide) (by decide)⟩
    show Q1 Z k1 aKEPT aREDELIVERED aBAD_REQUEST aBAD_JSON aMISSING_SIGN aBAD_SIGN aEXPIRED aUNKNOWN_APP aNOT_FOUND aMETHOD aTOO_LARGE aINTERNAL yBAD_REQUEST yBAD_JSON yMISSING_SIGN yBAD_SIGN yEXPIRED yUNKNOWN_APP yNOT_FOUND yMETHOD yTOO_LARGE yINTERNAL h0 n0 _ T1.heap _
    rw [e1]
    exact ⟨aKEPT, 200, .null, rfl, R_KEPT.2.1, R_KEPT.2.2.1, R_KEPT.2.2.2, Or.inl ⟨by rw [c0]; decide, rfl, rfl⟩, N0, rfl⟩
  · have _ := c0
    refine own_st (fun t k => XS.ifYes X0.here hx rfl (pc0 := 1) (pc' := 8) rfl (hb hby d1_1) rfl (XT.i0_ne_t c0) (by decide) (by decide) k) ?_
    show own_Fin p.tables e below _ (s₁.setTop (mkF m 8 #[.val (.int k1)] []))
    refine own_st (fun t k => XS.iloadN X0.here hx rfl (hb hby d1_8) rfl k) ?_
    show own_Fin p.tables e below _ (s₁.setTop (mkF m 9 #[.val (.int k1)] [(.int k1)]))
    refine own_st (fun t k => XS.iconst X0.here hx rfl (hb hby d1_9) k) ?_
    show own_Fin p.tables e below _ (s₁.setTop (mkF m 10 #[.val (.int k1)] [(.int (1 : Int32)), (.int k1)]))
    rcases Decidable.em (k1 = (1 : Int32)) with c1 | c1
    · have _ := c1
      refine own_st (fun t k => XS.icmpNo X0.here hx rfl (hb hby d1_10) rfl (XT.ii_ne_f c1) k) ?_
      show own_Fin p.tables e below _ (s₁.setTop (mkF m 13 #[.val (.int k1)] []))
      obtain ⟨T2, X2, e2, st2⟩ := getS (host := "") X0 hx hZ hown (hw _ (List.mem_of_getElem? (i := 39) rfl)) Via.refl e0 R_REDELIVERED.1 (g := (mkF m 13 #[.val (.int k1)] [])) rfl (hb hby d1_13)
      refine own_st st2 ?_
      show own_Fin p.tables e below _ (T2.setTop (mkF m 16 #[.val (.int k1)] [(.ref aREDELIVERED)]))
      obtain ⟨fs, hr, hrun, hended, hW, hsame⟩ := X2.leave (v := (some (.ref aREDELIVERED))) (fun h => by rw [Bd.returns] at h; cases h)
      refine ⟨_, _, retOut X2 hx (t := (.object "com/example/tallyhook/tallyhook/model/Reply")) Bd.returns rfl (Or.inr (Or.inr (Or.inr (Or.inr ⟨rfl, rfl, rfl⟩)))) (hb hby d1_16) hr, hrun, hended, _, _, rfl, ?_, ⟨_, rfl⟩, hW, hsame.mono (by decide) (by decide)⟩
      show Q1 Z k1 aKEPT aREDELIVERED aBAD_REQUEST aBAD_JSON aMISSING_SIGN aBAD_SIGN aEXPIRED aUNKNOWN_APP aNOT_FOUND aMETHOD aTOO_LARGE aINTERNAL yBAD_REQUEST yBAD_JSON yMISSING_SIGN yBAD_SIGN yEXPIRED yUNKNOWN_APP yNOT_FOUND yMETHOD yTOO_LARGE yINTERNAL h0 n0 _ T2.heap _
      rw [e2]
      exact ⟨aREDELIVERED, 200, .null, rfl, R_REDELIVERED.2.1, R_REDELIVERED.2.2.1, R_REDELIVERED.2.2.2, Or.inl ⟨by rw [c1]; decide, rfl, rfl⟩, N0, rfl⟩
    · have _ := c1
      refine own_st (fun t k => XS.icmpYes X0.here hx rfl (pc0 := 10) (pc' := 17) rfl (hb hby d1_10) rfl (XT.ii_ne_t c1) (by decide) (by decide) k) ?_
      show own_Fin p.tables e below _ (s₁.setTop (mkF m 17 #[.val (.int k1)] []))
      refine own_st (fun t k => XS.iloadN X0.here hx rfl (hb hby d1_17) rfl k) ?_
      show own_Fin p.tables e below _ (s₁.setTop (mkF m 18 #[.val (.int k1)] [(.int k1)]))
      refine own_st (fun t k => XS.iconst X0.here hx rfl (hb hby d1_18) k) ?_
      show own_Fin p.tables e below _ (s₁.setTop (mkF m 19 #[.val (.int k1)] [(.int (2 : Int32)), (.int k1)]))
      rcases Decidable.em (k1 = (2 : Int32)) with c2 | c2
      · have _ := c2
        refine own_st (fun t k => XS.icmpNo X0.here hx rfl (hb hby d1_19) rfl (XT.ii_ne_f c2) k) ?_
        show own_Fin p.tables e below _ (s₁.setTop (mkF m 22 #[.val (.int k1)] []))
        obtain ⟨T3, X3, e3, st3⟩ := getS (host := "") X0 hx hZ hown (hw _ (List.mem_of_getElem? (i := 29) rfl)) Via.refl e0 R_BAD_REQUEST.1 (g := (mkF m 22 #[.val (.int k1)] [])) rfl (hb hby d1_22)
        refine own_st st3 ?_
        show own_Fin p.tables e below _ (T3.setTop (mkF m 25 #[.val (.int k1)] [(.ref aBAD_REQUEST)]))
        obtain ⟨fs, hr, hrun, hended, hW, hsame⟩ := X3.leave (v := (some (.ref aBAD_REQUEST))) (fun h => by rw [Bd.returns] at h; cases h)
        refine ⟨_, _, retOut X3 hx (t := (.object "com/example/tallyhook/tallyhook/model/Reply")) Bd.returns rfl (Or.inr (Or.inr (Or.inr (Or.inr ⟨rfl, rfl, rfl⟩)))) (hb hby d1_25) hr, hrun, hended, _, _, rfl, ?_, ⟨_, rfl⟩, hW, hsame.mono (by decide) (by decide)⟩
        show Q1 Z k1 aKEPT aREDELIVERED aBAD_REQUEST aBAD_JSON aMISSING_SIGN aBAD_SIGN aEXPIRED aUNKNOWN_APP aNOT_FOUND aMETHOD aTOO_LARGE aINTERNAL yBAD_REQUEST yBAD_JSON yMISSING_SIGN yBAD_SIGN yEXPIRED yUNKNOWN_APP yNOT_FOUND yMETHOD yTOO_LARGE yINTERNAL h0 n0 _ T3.heap _
        rw [e3]
        exact ⟨aBAD_REQUEST, 400, (.ref yBAD_REQUEST), rfl, R_BAD_REQUEST.2.1, R_BAD_REQUEST.2.2.1, R_BAD_REQUEST.2.2.2, Or.inr ⟨by rw [c2]; decide, by decide, _, rfl⟩, N0, rfl⟩
      · have _ := c2
        refine own_st (fun t k => XS.icmpYes X0.here hx rfl (pc0 := 19) (pc' := 26) rfl (hb hby d1_19) rfl (XT.ii_ne_t c2) (by decide) (by decide) k) ?_
        show own_Fin p.tables e below _ (s₁.setTop (mkF m 26 #[.val (.int k1)] []))
        refine own_st (fun t k => XS.iloadN X0.here hx rfl (hb hby d1_26) rfl k) ?_
        show own_Fin p.tables e below _ (s₁.setTop (mkF m 27 #[.val (.int k1)] [(.int k1)]))
        refine own_st (fun t k => XS.iconst X0.here hx rfl (hb hby d1_27) k) ?_
        show own_Fin p.tables e below _ (s₁.setTop (mkF m 28 #[.val (.int k1)] [(.int (3 : Int32)), (.int k1)]))
        rcases Decidable.em (k1 = (3 : Int32)) with c3 | c3
        · have _ := c3
          refine own_st (fun t k => XS.icmpNo X0.here hx rfl (hb hby d1_28) rfl (XT.ii_ne_f c3) k) ?_
          show own_Fin p.tables e below _ (s₁.setTop (mkF m 31 #[.val (.int k1)] []))
          obtain ⟨T4, X4, e4, st4⟩ := getS (host := "") X0 hx hZ hown (hw _ (List.mem_of_getElem? (i := 27) rfl)) Via.refl e0 R_BAD_JSON.1 (g := (mkF m 31 #[.val (.int k1)] [])) rfl (hb hby d1_31)
          refine own_st st4 ?_
          show own_Fin p.tables e below _ (T4.setTop (mkF m 34 #[.val (.int k1)] [(.ref aBAD_JSON)]))
          obtain ⟨fs, hr, hrun, hended, hW, hsame⟩ := X4.leave (v := (some (.ref aBAD_JSON))) (fun h => by rw [Bd.returns] at h; cases h)
          refine ⟨_, _, retOut X4 hx (t := (.object "com/example/tallyhook/tallyhook/model/Reply")) Bd.returns rfl (Or.inr (Or.inr (Or.inr (Or.inr ⟨rfl, rfl, rfl⟩)))) (hb hby d1_34) hr, hrun, hended, _, _, rfl, ?_, ⟨_, rfl⟩, hW, hsame.mono (by decide) (by decide)⟩
          show Q1 Z k1 aKEPT aREDELIVERED aBAD_REQUEST aBAD_JSON aMISSING_SIGN aBAD_SIGN aEXPIRED aUNKNOWN_APP aNOT_FOUND aMETHOD aTOO_LARGE aINTERNAL yBAD_REQUEST yBAD_JSON yMISSING_SIGN yBAD_SIGN yEXPIRED yUNKNOWN_APP yNOT_FOUND yMETHOD yTOO_LARGE yINTERNAL h0 n0 _ T4.heap _
          rw [e4]
          exact ⟨aBAD_JSON, 400, (.ref yBAD_JSON), rfl, R_BAD_JSON.2.1, R_BAD_JSON.2.2.1, R_BAD_JSON.2.2.2, Or.inr ⟨by rw [c3]; decide, by decide, _, rfl⟩, N0, rfl⟩
        · have _ := c3
          refine own_st (fun t k => XS.icmpYes X0.here hx rfl (pc0 := 28) (pc' := 35) rfl (hb hby d1_28) rfl (XT.ii_ne_t c3) (by decide) (by decide) k) ?_
          show own_Fin p.tables e below _ (s₁.setTop (mkF m 35 #[.val (.int k1)] []))
          refine own_st (fun t k => XS.iloadN X0.here hx rfl (hb hby d1_35) rfl k) ?_
          show own_Fin p.tables e below _ (s₁.setTop (mkF m 36 #[.val (.int k1)] [(.int k1)]))
          refine own_st (fun t k => XS.iconst X0.here hx rfl (hb hby d1_36) k) ?_
          show own_Fin p.tables e below _ (s₁.setTop (mkF m 37 #[.val (.int k1)] [(.int (4 : Int32)), (.int k1)]))
          rcases Decidable.em (k1 = (4 : Int32)) with c4 | c4
          · have _ := c4
            refine own_st (fun t k => XS.icmpNo X0.here hx rfl (hb hby d1_37) rfl (XT.ii_ne_f c4) k) ?_
            show own_Fin p.tables e below _ (s₁.setTop (mkF m 40 #[.val (.int k1)] []))
            obtain ⟨T5, X5, e5, st5⟩ := getS (host := "") X0 hx hZ hown (hw _ (List.mem_of_getElem? (i := 35) rfl)) Via.refl e0 R_MISSING_SIGN.1 (g := (mkF m 40 #[.val (.int k1)] [])) rfl (hb hby d1_40)
            refine own_st st5 ?_
            show own_Fin p.tables e below _ (T5.setTop (mkF m 43 #[.val (.int k1)] [(.ref aMISSING_SIGN)]))
            obtain ⟨fs, hr, hrun, hended, hW, hsame⟩ := X5.leave (v := (some (.ref aMISSING_SIGN))) (fun h => by rw [Bd.returns] at h; cases h)
            refine ⟨_, _, retOut X5 hx (t := (.object "com/example/tallyhook/tallyhook/model/Reply")) Bd.returns rfl (Or.inr (Or.inr (Or.inr (Or.inr ⟨rfl, rfl, rfl⟩)))) (hb hby d1_43) hr, hrun, hended, _, _, rfl, ?_, ⟨_, rfl⟩, hW, hsame.mono (by decide) (by decide)⟩
            show Q1 Z k1 aKEPT aREDELIVERED aBAD_REQUEST aBAD_JSON aMISSING_SIGN aBAD_SIGN aEXPIRED aUNKNOWN_APP aNOT_FOUND aMETHOD aTOO_LARGE aINTERNAL yBAD_REQUEST yBAD_JSON yMISSING_SIGN yBAD_SIGN yEXPIRED yUNKNOWN_APP yNOT_FOUND yMETHOD yTOO_LARGE yINTERNAL h0 n0 _ T5.heap _
            rw [e5]
            exact ⟨aMISSING_SIGN, 401, (.ref yMISSING_SIGN), rfl, R_MISSING_SIGN.2.1, R_MISSING_SIGN.2.2.1, R_MISSING_SIGN.2.2.2, Or.inr ⟨by rw [c4]; decide, by decide, _, rfl⟩, N0, rfl⟩
          · have _ := c4
            refine own_st (fun t k => XS.icmpYes X0.here hx rfl (pc0 := 37) (pc' := 44) rfl (hb hby d1_37) rfl (XT.ii_ne_t c4) (by decide) (by decide) k) ?_
            show own_Fin p.tables e below _ (s₁.setTop (mkF m 44 #[.val (.int k1)] []))
            refine own_st (fun t k => XS.iloadN X0.here hx rfl (hb hby d1_44) rfl k) ?_
            show own_Fin p.tables e below _ (s₁.setTop (mkF m 45 #[.val (.int k1)] [(.int k1)]))
            refine own_st (fun t k => XS.iconst X0.here hx rfl (hb hby d1_45) k) ?_
            show own_Fin p.tables e below _ (s₁.setTop (mkF m 46 #[.val (.int k1)] [(.int (5 : Int32)), (.int k1)]))
            rcases Decidable.em (k1 = (5 : Int32)) with c5 | c5
            · have _ := c5
              refine own_st (fun t k => XS.icmpNo X0.here hx rfl (hb hby d1_46) rfl (XT.ii_ne_f c5) k) ?_
              show own_Fin p.tables e below _ (s₁.setTop (mkF m 49 #[.val (.int k1)] []))
              obtain ⟨T6, X6, e6, st6⟩ := getS (host := "") X0 hx hZ hown (hw _ (List.mem_of_getElem? (i := 47) rfl)) Via.refl e0 R_BAD_SIGN.1 (g := (mkF m 49 #[.val (.int k1)] [])) rfl (hb hby d1_49)
              refine own_st st6 ?_
              show own_Fin p.tables e below _ (T6.setTop (mkF m 52 #[.val (.int k1)] [(.ref aBAD_SIGN)]))
              obtain ⟨fs, hr, hrun, hended, hW, hsame⟩ := X6.leave (v := (some (.ref aBAD_SIGN))) (fun h => by rw [Bd.returns] at h; cases h)
              refine ⟨_, _, retOut X6 hx (t := (.object "com/example/tallyhook/tallyhook/model/Reply")) Bd.returns rfl (Or.inr (Or.inr (Or.inr (Or.inr ⟨rfl, rfl, rfl⟩)))) (hb hby d1_52) hr, hrun, hended, _, _, rfl, ?_, ⟨_, rfl⟩, hW, hsame.mono (by decide) (by decide)⟩
              show Q1 Z k1 aKEPT aREDELIVERED aBAD_REQUEST aBAD_JSON aMISSING_SIGN aBAD_SIGN aEXPIRED aUNKNOWN_APP aNOT_FOUND aMETHOD aTOO_LARGE aINTERNAL yBAD_REQUEST yBAD_JSON yMISSING_SIGN yBAD_SIGN yEXPIRED yUNKNOWN_APP yNOT_FOUND yMETHOD yTOO_LARGE yINTERNAL h0 n0 _ T6.heap _
              rw [e6]
              exact ⟨aBAD_SIGN, 401, (.ref yBAD_SIGN), rfl, R_BAD_SIGN.2.1, R_BAD_SIGN.2.2.1, R_BAD_SIGN.2.2.2, Or.inr ⟨by rw [c5]; decide, by decide, _, rfl⟩, N0, rfl⟩
            · have _ := c5
              refine own_st (fun t k => XS.icmpYes X0.here hx rfl (pc0 := 46) (pc' := 53) rfl (hb hby d1_46) rfl (XT.ii_ne_t c5) (by decide) (by decide) k) ?_
              show own_Fin p.tables e below _ (s₁.setTop (mkF m 53 #[.val (.int k1)] []))
              refine own_st (fun t k => XS.iloadN X0.here hx rfl (hb hby d1_53) rfl k) ?_
              show own_Fin p.tables e below _ (s₁.setTop (mkF m 54 #[.val (.int k1)] [(.int k1)]))
              refine own_st (fun t k => XS.bipush X0.here hx rfl (hb hby d1_54) k) ?_
              show own_Fin p.tables e below _ (s₁.setTop (mkF m 56 #[.val (.int k1)] [(.int (6 : Int32)), (.int k1)]))
              rcases Decidable.em (k1 = (6 : Int32)) with c6 | c6
              · have _ := c6
                refine own_st (fun t k => XS.icmpNo X0.here hx rfl (hb hby d1_56) rfl (XT.ii_ne_f c6) k) ?_
                show own_Fin p.tables e below _ (s₁.setTop (mkF m 59 #[.val (.int k1)] []))
                obtain ⟨T7, X7, e7, st7⟩ := getS (host := "") X0 hx hZ hown (hw _ (List.mem_of_getElem? (i := 45) rfl)) Via.refl e0 R_EXPIRED.1 (g := (mkF m 59 #[.val (.int k1)] [])) rfl (hb hby d1_59)
                refine own_st st7 ?_
                show own_Fin p.tables e below _ (T7.setTop (mkF m 62 #[.val (.int k1)] [(.ref aEXPIRED)]))
                obtain ⟨fs, hr, hrun, hended, hW, hsame⟩ := X7.leave (v := (some (.ref aEXPIRED))) (fun h => by rw [Bd.returns] at h; cases h)
                refine ⟨_, _, retOut X7 hx (t := (.object "com/example/tallyhook/tallyhook/model/Reply")) Bd.returns rfl (Or.inr (Or.inr (Or.inr (Or.inr ⟨rfl, rfl, rfl⟩)))) (hb hby d1_62) hr, hrun, hended, _, _, rfl, ?_, ⟨_, rfl⟩, hW, hsame.mono (by decide) (by decide)⟩
                show Q1 Z k1 aKEPT aREDELIVERED aBAD_REQUEST aBAD_JSON aMISSING_SIGN aBAD_SIGN aEXPIRED aUNKNOWN_APP aNOT_FOUND aMETHOD aTOO_LARGE aINTERNAL yBAD_REQUEST yBAD_JSON yMISSING_SIGN yBAD_SIGN yEXPIRED yUNKNOWN_APP yNOT_FOUND yMETHOD yTOO_LARGE yINTERNAL h0 n0 _ T7.heap _
                rw [e7]
                exact ⟨aEXPIRED, 401, (.ref yEXPIRED), rfl, R_EXPIRED.2.1, R_EXPIRED.2.2.1, R_EXPIRED.2.2.2, Or.inr ⟨by rw [c6]; decide, by decide, _, rfl⟩, N0, rfl⟩
              · have _ := c6
                refine own_st (fun t k => XS.icmpYes X0.here hx rfl (pc0 := 56) (pc' := 63) rfl (hb hby d1_56) rfl (XT.ii_ne_t c6) (by decide) (by decide) k) ?_
                show own_Fin p.tables e below _ (s₁.setTop (mkF m 63 #[.val (.int k1)] []))
                refine own_st (fun t k => XS.iloadN X0.here hx rfl (hb hby d1_63) rfl k) ?_
                show own_Fin p.tables e below _ (s₁.setTop (mkF m 64 #[.val (.int k1)] [(.int k1)]))
                refine own_st (fun t k => XS.bipush X0.here hx rfl (hb hby d1_64) k) ?_
                show own_Fin p.tables e below _ (s₁.setTop (mkF m 66 #[.val (.int k1)] [(.int (7 : Int32)), (.int k1)]))
                rcases Decidable.em (k1 = (7 : Int32)) with c7 | c7
                · have _ := c7
                  refine own_st (fun t k => XS.icmpNo X0.here hx rfl (hb hby d1_66) rfl (XT.ii_ne_f c7) k) ?_
                  show own_Fin p.tables e below _ (s₁.setTop (mkF m 69 #[.val (.int k1)] []))
                  obtain ⟨T8, X8, e8, st8⟩ := getS (host := "") X0 hx hZ hown (hw _ (List.mem_of_getElem? (i := 31) rfl)) Via.refl e0 R_UNKNOWN_APP.1 (g := (mkF m 69 #[.val (.int k1)] [])) rfl (hb hby d1_69)
                  refine own_st st8 ?_
                  show own_Fin p.tables e below _ (T8.setTop (mkF m 72 #[.val (.int k1)] [(.ref aUNKNOWN_APP)]))
                  obtain ⟨fs, hr, hrun, hended, hW, hsame⟩ := X8.leave (v := (some (.ref aUNKNOWN_APP))) (fun h => by rw [Bd.returns] at h; cases h)
                  refine ⟨_, _, retOut X8 hx (t := (.object "com/example/tallyhook/tallyhook/model/Reply")) Bd.returns rfl (Or.inr (Or.inr (Or.inr (Or.inr ⟨rfl, rfl, rfl⟩)))) (hb hby d1_72) hr, hrun, hended, _, _, rfl, ?_, ⟨_, rfl⟩, hW, hsame.mono (by decide) (by decide)⟩
                  show Q1 Z k1 aKEPT aREDELIVERED aBAD_REQUEST aBAD_JSON aMISSING_SIGN aBAD_SIGN aEXPIRED aUNKNOWN_APP aNOT_FOUND aMETHOD aTOO_LARGE aINTERNAL yBAD_REQUEST yBAD_JSON yMISSING_SIGN yBAD_SIGN yEXPIRED yUNKNOWN_APP yNOT_FOUND yMETHOD yTOO_LARGE yINTERNAL h0 n0 _ T8.heap _
                  rw [e8]
                  exact ⟨aUNKNOWN_APP, 401, (.ref yUNKNOWN_APP), rfl, R_UNKNOWN_APP.2.1, R_UNKNOWN_APP.2.2.1, R_UNKNOWN_APP.2.2.2, Or.inr ⟨by rw [c7]; decide, by decide, _, rfl⟩, N0, rfl⟩
                · have _ := c7
                  refine own_st (fun t k => XS.icmpYes X0.here hx rfl (pc0 := 66) (pc' := 73) rfl (hb hby d1_66) rfl (XT.ii_ne_t c7) (by decide) (by decide) k) ?_
                  show own_Fin p.tables e below _ (s₁.setTop (mkF m 73 #[.val (.int k1)] []))
                  refine own_st (fun t k => XS.iloadN X0.here hx rfl (hb hby d1_73) rfl k) ?_
                  show own_Fin p.tables e below _ (s₁.setTop (mkF m 74 #[.val (.int k1)] [(.int k1)]))
                  refine own_st (fun t k => XS.bipush X0.here hx rfl (hb hby d1_74) k) ?_
                  show own_Fin p.tables e below _ (s₁.setTop (mkF m 76 #[.val (.int k1)] [(.int (8 : Int32)), (.int k1)]))
                  rcases Decidable.em (k1 = (8 : Int32)) with c8 | c8
                  · have _ := c8
                    refine own_st (fun t k => XS.icmpNo X0.here hx rfl (hb hby d1_76) rfl (XT.ii_ne_f c8) k) ?_
                    show own_Fin p.tables e below _ (s₁.setTop (mkF m 79 #[.val (.int k1)] []))
                    obtain ⟨T9, X9, e9, st9⟩ := getS (host := "") X0 hx hZ hown (hw _ (List.mem_of_getElem? (i := 37) rfl)) Via.refl e0 R_NOT_FOUND.1 (g := (mkF m 79 #[.val (.int k1)] [])) rfl (hb hby d1_79)
                    refine own_st st9 ?_
                    show own_Fin p.tables e below _ (T9.setTop (mkF m 82 #[.val (.int k1)] [(.ref aNOT_FOUND)]))
                    obtain ⟨fs, hr, hrun, hended, hW, hsame⟩ := X9.leave (v := (some (.ref aNOT_FOUND))) (fun h => by rw [Bd.returns] at h; cases h)
                    refine ⟨_, _, retOut X9 hx (t := (.object "com/example/tallyhook/tallyhook/model/Reply")) Bd.returns rfl (Or.inr (Or.inr (Or.inr (Or.inr ⟨rfl, rfl, rfl⟩)))) (hb hby d1_82) hr, hrun, hended, _, _, rfl, ?_, ⟨_, rfl⟩, hW, hsame.mono (by decide) (by decide)⟩
                    show Q1 Z k1 aKEPT aREDELIVERED aBAD_REQUEST aBAD_JSON aMISSING_SIGN aBAD_SIGN aEXPIRED aUNKNOWN_APP aNOT_FOUND aMETHOD aTOO_LARGE aINTERNAL yBAD_REQUEST yBAD_JSON yMISSING_SIGN yBAD_SIGN yEXPIRED yUNKNOWN_APP yNOT_FOUND yMETHOD yTOO_LARGE yINTERNAL h0 n0 _ T9.heap _
                    rw [e9]
                    exact ⟨aNOT_FOUND, 404, (.ref yNOT_FOUND), rfl, R_NOT_FOUND.2.1, R_NOT_FOUND.2.2.1, R_NOT_FOUND.2.2.2, Or.inr ⟨by rw [c8]; decide, by decide, _, rfl⟩, N0, rfl⟩
                  · have _ := c8
                    refine own_st (fun t k => XS.icmpYes X0.here hx rfl (pc0 := 76) (pc' := 83) rfl (hb hby d1_76) rfl (XT.ii_ne_t c8) (by decide) (by decide) k) ?_
                    show own_Fin p.tables e below _ (s₁.setTop (mkF m 83 #[.val (.int k1)] []))
                    refine own_st (fun t k => XS.iloadN X0.here hx rfl (hb hby d1_83) rfl k) ?_
                    show own_Fin p.tables e below _ (s₁.setTop (mkF m 84 #[.val (.int k1)] [(.int k1)]))
                    refine own_st (fun t k => XS.bipush X0.here hx rfl (hb hby d1_84) k) ?_
                    show own_Fin p.tables e below _ (s₁.setTop (mkF m 86 #[.val (.int k1)] [(.int (9 : Int32)), (.int k1)]))
                    rcases Decidable.em (k1 = (9 : Int32)) with c9 | c9
                    · have _ := c9
                      refine own_st (fun t k => XS.icmpNo X0.here hx rfl (hb hby d1_86) rfl (XT.ii_ne_f c9) k) ?_
                      show own_Fin p.tables e below _ (s₁.setTop (mkF m 89 #[.val (.int k1)] []))
                      obtain ⟨T10, X10, e10, st10⟩ := getS (host := "") X0 hx hZ hown (hw _ (List.mem_of_getElem? (i := 43) rfl)) Via.refl e0 R_METHOD.1 (g := (mkF m 89 #[.val (.int k1)] [])) rfl (hb hby d1_89)
                      refine own_st st10 ?_
                      show own_Fin p.tables e below _ (T10.setTop (mkF m 92 #[.val (.int k1)] [(.ref aMETHOD)]))
                      obtain ⟨fs, hr, hrun, hended, hW, hsame⟩ := X10.leave (v := (some (.ref aMETHOD))) (fun h => by rw [Bd.returns] at h; cases h)
                      refine ⟨_, _, retOut X10 hx (t := (.object "com/example/tallyhook/tallyhook/model/Reply")) Bd.returns rfl (Or.inr (Or.inr (Or.inr (Or.inr ⟨rfl, rfl, rfl⟩)))) (hb hby d1_92) hr, hrun, hended, _, _, rfl, ?_, ⟨_, rfl⟩, hW, hsame.mono (by decide) (by decide)⟩
                      show Q1 Z k1 aKEPT aREDELIVERED aBAD_REQUEST aBAD_JSON aMISSING_SIGN aBAD_SIGN aEXPIRED aUNKNOWN_APP aNOT_FOUND aMETHOD aTOO_LARGE aINTERNAL yBAD_REQUEST yBAD_JSON yMISSING_SIGN yBAD_SIGN yEXPIRED yUNKNOWN_APP yNOT_FOUND yMETHOD yTOO_LARGE yINTERNAL h0 n0 _ T10.heap _
                      rw [e10]
                      exact ⟨aMETHOD, 405, (.ref yMETHOD), rfl, R_METHOD.2.1, R_METHOD.2.2.1, R_METHOD.2.2.2, Or.inr ⟨by rw [c9]; decide, by decide, _, rfl⟩, N0, rfl⟩
                    · have _ := c9
                      refine own_st (fun t k => XS.icmpYes X0.here hx rfl (pc0 := 86) (pc' := 93) rfl (hb hby d1_86) rfl (XT.ii_ne_t c9) (by decide) (by decide) k) ?_
                      show own_Fin p.tables e below _ (s₁.setTop (mkF m 93 #[.val (.int k1)] []))
                      refine own_st (fun t k => XS.iloadN X0.here hx rfl (hb hby d1_93) rfl k) ?_
                      show own_Fin p.tables e below _ (s₁.setTop (mkF m 94 #[.val (.int k1)] [(.int k1)]))
                      refine own_st (fun t k => XS.bipush X0.here hx rfl (hb hby d1_94) k) ?_
                      show own_Fin p.tables e below _ (s₁.setTop (mkF m 96 #[.val (.int k1)] [(.int (10 : Int32)), (.int k1)]))
                      rcases Decidable.em (k1 = (10 : Int32)) with c10 | c10
                      · have _ := c10
                        refine own_st (fun t k => XS.icmpNo X0.here hx rfl (hb hby d1_96) rfl (XT.ii_ne_f c10) k) ?_
                        show own_Fin p.tables e below _ (s₁.setTop (mkF m 99 #[.val (.int k1)] []))
                        obtain ⟨T11, X11, e11, st11⟩ := getS (host := "") X0 hx hZ hown (hw _ (List.mem_of_getElem? (i := 41) rfl)) Via.refl e0 R_TOO_LARGE.1 (g := (mkF m 99 #[.val (.int k1)] [])) rfl (hb hby d1_99)
                        refine own_st st11 ?_
                        show own_Fin p.tables e below _ (T11.setTop (mkF m 102 #[.val (.int k1)] [(.ref aTOO_LARGE)]))
                        obtain ⟨fs, hr, hrun, hended, hW, hsame⟩ := X11.leave (v := (some (.ref aTOO_LARGE))) (fun h => by rw [Bd.returns] at h; cases h)
                        refine ⟨_, _, retOut X11 hx (t := (.object "com/example/tallyhook/tallyhook/model/Reply")) Bd.returns rfl (Or.inr (Or.inr (Or.inr (Or.inr ⟨rfl, rfl, rfl⟩)))) (hb hby d1_102) hr, hrun, hended, _, _, rfl, ?_, ⟨_, rfl⟩, hW, hsame.mono (by decide) (by decide)⟩
                        show Q1 Z k1 aKEPT aREDELIVERED aBAD_REQUEST aBAD_JSON aMISSING_SIGN aBAD_SIGN aEXPIRED aUNKNOWN_APP aNOT_FOUND aMETHOD aTOO_LARGE aINTERNAL yBAD_REQUEST yBAD_JSON yMISSING_SIGN yBAD_SIGN yEXPIRED yUNKNOWN_APP yNOT_FOUND yMETHOD yTOO_LARGE yINTERNAL h0 n0 _ T11.heap _
                        rw [e11]
                        exact ⟨aTOO_LARGE, 413, (.ref yTOO_LARGE), rfl, R_TOO_LARGE.2.1, R_TOO_LARGE.2.2.1, R_TOO_LARGE.2.2.2, Or.inr ⟨by rw [c10]; decide, by decide, _, rfl⟩, N0, rfl⟩
                      · have _ := c10
                        refine own_st (fun t k => XS.icmpYes X0.here hx rfl (pc0 := 96) (pc' := 103) rfl (hb hby d1_96) rfl (XT.ii_ne_t c10) (by decide) (by decide) k) ?_
                        show own_Fin p.tables e below _ (s₁.setTop (mkF m 103 #[.val (.int k1)] []))
                        obtain ⟨T12, X12, e12, st12⟩ := getS (host := "") X0 hx hZ hown (hw _ (List.mem_of_getElem? (i := 33) rfl)) Via.refl e0 R_INTERNAL.1 (g := (mkF m 103 #[.val (.int k1)] [])) rfl (hb hby d1_103)
                        refine own_st st12 ?_
                        show own_Fin p.tables e below _ (T12.setTop (mkF m 106 #[.val (.int k1)] [(.ref aINTERNAL)]))
                        obtain ⟨fs, hr, hrun, hended, hW, hsame⟩ := X12.leave (v := (some (.ref aINTERNAL))) (fun h => by rw [Bd.returns] at h; cases h)
                        refine ⟨_, _, retOut X12 hx (t := (.object "com/example/tallyhook/tallyhook/model/Reply")) Bd.returns rfl (Or.inr (Or.inr (Or.inr (Or.inr ⟨rfl, rfl, rfl⟩)))) (hb hby d1_106) hr, hrun, hended, _, _, rfl, ?_, ⟨_, rfl⟩, hW, hsame.mono (by decide) (by decide)⟩
                        show Q1 Z k1 aKEPT aREDELIVERED aBAD_REQUEST aBAD_JSON aMISSING_SIGN aBAD_SIGN aEXPIRED aUNKNOWN_APP aNOT_FOUND aMETHOD aTOO_LARGE aINTERNAL yBAD_REQUEST yBAD_JSON yMISSING_SIGN yBAD_SIGN yEXPIRED yUNKNOWN_APP yNOT_FOUND yMETHOD yTOO_LARGE yINTERNAL h0 n0 _ T12.heap _
                        rw [e12]
                        exact ⟨aINTERNAL, 500, (.ref yINTERNAL), rfl, R_INTERNAL.2.1, R_INTERNAL.2.2.1, R_INTERNAL.2.2.2, Or.inr ⟨own_k2 hk c0 c1, by decide, _, rfl⟩, N0, rfl⟩
def Q2 (Z : State) (a1 : Addr) (st : Int32) (z : Int32) (h0 : Heap) (n0 : Nat) (v : Option Value) (h : Heap) (L : List Loc) : Prop := v = some (.int z) ∧ Fr n0 L ∧ h = h0
set_option maxRecDepth 65536 in
set_option maxHeartbeats 40000000 in
theorem rm2 (l : Launch) (Z : State) (a0 : Array Value) (hw : ∀ d ∈ tables_1, d.before a0 Z = true) (ws : List Jvm.Cond) (a1 : Addr) (st : Int32) (z : Int32) (h0 : Heap) (n0 : Nat) (Z0 : n0 ≤ h0.size) (F_s : Fld Z h0 a1 "com/example/tallyhook/tallyhook/model/Reply" "status" "I" (.int st)) (hz : (st = 200 ∧ z = 1) ∨ (¬ st = 200 ∧ z = 0)) :
    MetFree l (⟨"com/example/tallyhook/tallyhook/model/Reply", "acknowledges", "()Z"⟩ : MethodName) (head1 (Jvm.Cond.code (⟨"com/example/tallyhook/tallyhook/model/Reply", "acknowledges", "()Z"⟩ : MethodName) prog_55_method_6_code 1 (some .boolean) :: ws) ({ frames := 1, cells := 0, slots := 0, locals := 12 } : Room)) (fun a U => a = #[(.ref a1)] ∧ Z.Warmed39 U.vm ∧ U.heap = h0) (fun _ _ _ _ _ => True) (fun _ U o U' => ∃ v L, o = .returned v ∧ Q2 Z a1 st z h0 n0 v U'.heap L ∧ FrameEnd U o U' L ({ frames := 1, cells := 0, slots := 0, locals := 12 } : Room).cells ({ frames := 1, cells := 0, slots := 0, locals := 12 } : Room).slots) := by
  refine MetFree.of_bodySF (plainFor_of_name pn_com_example_tallyhook_tallyhook_model_Reply) hisR ?_
  intro p e s m args below meth c s₁ Bd hml0 hP hK
  obtain ⟨rfl, hZ, hh⟩ := hP
  have hx := Bd.exec
  have hby := Bd.bytes
  have hml : c.maxLocals = 1 := hml0
  have hown : s.vm.findClass "com/example/tallyhook/tallyhook/model/Reply" = some m.cls := findClass_of_methodNamed Bd.named
  have hnm := (name_of_methodNamed Bd.named Bd.method).1
  have X0 : Stand p l e ({ frames := 1, cells := 0, slots := 0, locals := 12 } : Room) s m #[(.ref a1)] below meth c s₁ [] 0 0 := Stand.of_body Bd
  have e0 : s₁.heap = h0 := by rw [← hh, Bd.state]; rfl
  have N0 := Fr.nil n0
  change own_Fin p.tables e below (fun s₂ o => ∃ v L, o = .returned v ∧ Q2 Z a1 st z h0 n0 v s₂.heap L ∧ FrameEnd s o s₂ L ({ frames := 1, cells := 0, slots := 0, locals := 12 } : Room).cells ({ frames := 1, cells := 0, slots := 0, locals := 12 } : Room).slots) (s₁.setTop (entryFrame m #[(.ref a1)] 1))
  refine own_st (fun t k => castTop (show entryFrame m #[(.ref a1)] 1 = mkF m 0 #[.val (.ref a1)] [] by first | (simp [entryFrame, mkF, argsToLocals, Value.category, maxLocals]; done) | rfl) k) ?_
  show own_Fin p.tables e below _ (s₁.setTop (mkF m 0 #[.val (.ref a1)] []))
  refine own_st (fun t k => XS.aloadN X0.here hx rfl (hb hby d2_0) rfl rfl k) ?_
  show own_Fin p.tables e below _ (s₁.setTop (mkF m 1 #[.val (.ref a1)] [(.ref a1)]))
  obtain ⟨T1, X1, e1, st1⟩ := getF X0 hx hZ hown (host := "") (Or.inl (hw _ (List.mem_of_getElem? (i := 13) rfl))) Via.refl e0 F_s (g := (mkF m 1 #[.val (.ref a1)] [(.ref a1)])) rfl rfl (hb hby d2_1)
  refine own_st st1 ?_
  show own_Fin p.tables e below _ (T1.setTop (mkF m 4 #[.val (.ref a1)] [(.int st)]))
  refine own_st (fun t k => XS.sipush X1.here hx rfl (hb hby d2_4) k) ?_
  show own_Fin p.tables e below _ (T1.setTop (mkF m 7 #[.val (.ref a1)] [(.int (200 : Int32)), (.int st)]))
  rcases Decidable.em (st = (200 : Int32)) with cs | cs
  · have _ := cs
    refine own_st (fun t k => XS.icmpNo X1.here hx rfl (hb hby d2_7) rfl (XT.ii_ne_f cs) k) ?_
    show own_Fin p.tables e below _ (T1.setTop (mkF m 10 #[.val (.ref a1)] []))
    refine own_st (fun t k => XS.iconst X1.here hx rfl (hb hby d2_10) k) ?_
    show own_Fin p.tables e below _ (T1.setTop (mkF m 11 #[.val (.ref a1)] [(.int (1 : Int32))]))
    refine own_st (fun t k => XS.goto X1.here hx rfl (pc0 := 11) (pc' := 15) rfl (hb hby d2_11) (by decide) (by decide) k) ?_
    show own_Fin p.tables e below _ (T1.setTop (mkF m 15 #[.val (.ref a1)] [(.int (1 : Int32))]))
    obtain ⟨fs, hr, hrun, hended, hW, hsame⟩ := X1.leave (v := (some (.int (1 : Int32)))) (fun h => by rw [Bd.returns] at h; cases h)
    refine ⟨_, _, retN X1 hx (t := .boolean) Bd.returns (by simp) (hb hby d2_15) hr, hrun, hended, _, _, rfl, ?_, ⟨_, rfl⟩, hW, hsame.mono (by decide) (by decide)⟩
    show Q2 Z a1 st z h0 n0 _ T1.heap _
    rw [e1]
    exact ⟨by rcases hz with ⟨-, rfl⟩ | ⟨h, -⟩; rfl; exact absurd cs h, N0, rfl⟩
  · have _ := cs
    refine own_st (fun t k => XS.icmpYes X1.here hx rfl (pc0 := 7) (pc' := 14) rfl (hb hby d2_7) rfl (XT.ii_ne_t cs) (by decide) (by decide) k) ?_
    show own_Fin p.tables e below _ (T1.setTop (mkF m 14 #[.val (.ref a1)] []))
    refine own_st (fun t k => XS.iconst X1.here hx rfl (hb hby d2_14) k) ?_
    show own_Fin p.tables e below _ (T1.setTop (mkF m 15 #[.val (.ref a1)] [(.int (0 : Int32))]))
    obtain ⟨fs, hr, hrun, hended, hW, hsame⟩ := X1.leave (v := (some (.int (0 : Int32)))) (fun h => by rw [Bd.returns] at h; cases h)
    refine ⟨_, _, retN X1 hx (t := .boolean) Bd.returns (by simp) (hb hby d2_15) hr, hrun, hended, _, _, rfl, ?_, ⟨_, rfl⟩, hW, hsame.mono (by decide) (by decide)⟩
    show Q2 Z a1 st z h0 n0 _ T1.heap _
    rw [e1]
    exact ⟨by rcases hz with ⟨h, -⟩ | ⟨-, rfl⟩; exact absurd h cs; rfl, N0, rfl⟩
def Q3 (Z : State) (a1 : Addr) (st : Int32) (h0 : Heap) (n0 : Nat) (v : Option Value) (h : Heap) (L : List Loc) : Prop := v = some (.int st) ∧ Fr n0 L ∧ h = h0
set_option maxRecDepth 65536 in
set_option maxHeartbeats 40000000 in
theorem rm3 (l : Launch) (Z : State) (a0 : Array Value) (hw : ∀ d ∈ tables_1, d.before a0 Z = true) (ws : List Jvm.Cond) (a1 : Addr) (st : Int32) (h0 : Heap) (n0 : Nat) (Z0 : n0 ≤ h0.size) (F_s : Fld Z h0 a1 "com/example/tallyhook/tallyhook/model/Reply" "status" "I" (.int st)) :
    MetFree l (⟨"com/example/tallyhook/tallyhook/model/Reply", "status", "()I"⟩ : MethodName) (head1 (Jvm.Cond.code (⟨"com/example/tallyhook/tallyhook/model/Reply", "status", "()I"⟩ : MethodName) prog_55_method_4_code 1 (some .int) :: ws) ({ frames := 1, cells := 0, slots := 0, locals := 12 } : Room)) (fun a U => a = #[(.ref a1)] ∧ Z.Warmed39 U.vm ∧ U.heap = h0) (fun _ _ _ _ _ => True) (fun _ U o U' => ∃ v L, o = .returned v ∧ Q3 Z a1 st h0 n0 v U'.heap L ∧ FrameEnd U o U' L ({ frames := 1, cells := 0, slots := 0, locals := 12 } : Room).cells ({ frames := 1, cells := 0, slots := 0, locals := 12 } : Room).slots) := by
  refine MetFree.of_bodySF (plainFor_of_name pn_com_example_tallyhook_tallyhook_model_Reply) hisR ?_
  intro p e s m args below meth c s₁ Bd hml0 hP hK
  obtain ⟨rfl, hZ, hh⟩ := hP
  have hx := Bd.exec
  have hby := Bd.bytes
  have hml : c.maxLocals = 1 := hml0
  have hown : s.vm.findClass "com/example/tallyhook/tallyhook/model/Reply" = some m.cls := findClass_of_methodNamed Bd.named
  have hnm := (name_of_methodNamed Bd.named Bd.method).1
  have X0 : Stand p l e ({ frames := 1, cells := 0, slots := 0, locals := 12 } : Room) s m #[(.ref a1)] below meth c s₁ [] 0 0 := Stand.of_body Bd
  have e0 : s₁.heap = h0 := by rw [← hh, Bd.state]; rfl
  have N0 := Fr.nil n0
  change own_Fin p.tables e below (fun s₂ o => ∃ v L, o = .returned v ∧ Q3 Z a1 st h0 n0 v s₂.heap L ∧ FrameEnd s o s₂ L ({ frames := 1, cells := 0, slots := 0, locals := 12 } : Room).cells ({ frames := 1, cells := 0, slots := 0, locals := 12 } : Room).slots) (s₁.setTop (entryFrame m #[(.ref a1)] 1))
  refine own_st (fun t k => castTop (show entryFrame m #[(.ref a1)] 1 = mkF m 0 #[.val (.ref a1)] [] by first | (simp [entryFrame, mkF, argsToLocals, Value.category, maxLocals]; done) | rfl) k) ?_
  show own_Fin p.tables e below _ (s₁.setTop (mkF m 0 #[.val (.ref a1)] []))
  refine own_st (fun t k => XS.aloadN X0.here hx rfl (hb hby d3_0) rfl rfl k) ?_
  show own_Fin p.tables e below _ (s₁.setTop (mkF m 1 #[.val (.ref a1)] [(.ref a1)]))
  obtain ⟨T1, X1, e1, st1⟩ := getF X0 hx hZ hown (host := "") (Or.inl (hw _ (List.mem_of_getElem? (i := 13) rfl))) Via.refl e0 F_s (g := (mkF m 1 #[.val (.ref a1)] [(.ref a1)])) rfl rfl (hb hby d3_1)
  refine own_st st1 ?_
  show own_Fin p.tables e below _ (T1.setTop (mkF m 4 #[.val (.ref a1)] [(.int st)]))
  obtain ⟨fs, hr, hrun, hended, hW, hsame⟩ := X1.leave (v := (some (.int st))) (fun h => by rw [Bd.returns] at h; cases h)
  refine ⟨_, _, retOut X1 hx (t := .int) Bd.returns rfl (Or.inl ⟨rfl, Or.inl rfl, _, rfl⟩) (hb hby d3_4) hr, hrun, hended, _, _, rfl, ?_, ⟨_, rfl⟩, hW, hsame.mono (by decide) (by decide)⟩
  show Q3 Z a1 st h0 n0 _ T1.heap _
  rw [e1]
  exact ⟨rfl, N0, rfl⟩
def Q4 (Z : State) (a1 : Addr) (rs : Value) (h0 : Heap) (n0 : Nat) (v : Option Value) (h : Heap) (L : List Loc) : Prop := v = some rs ∧ Fr n0 L ∧ h = h0
set_option maxRecDepth 65536 in
set_option maxHeartbeats 40000000 in
theorem rm4 (l : Launch) (Z : State) (a0 : Array Value) (hw : ∀ d ∈ tables_1, d.before a0 Z = true) (ws : List Jvm.Cond) (a1 : Addr) (rs : Value) (h0 : Heap) (n0 : Nat) (Z0 : n0 ≤ h0.size) (F_r : Fld Z h0 a1 "com/example/tallyhook/tallyhook/model/Reply" "reason" "Ljava/lang/String;" rs) (hr0 : rs.isRef = true) :
    MetFree l (⟨"com/example/tallyhook/tallyhook/model/Reply", "reason", "()Ljava/lang/String;"⟩ : MethodName) (head1 (Jvm.Cond.code (⟨"com/example/tallyhook/tallyhook/model/Reply", "reason", "()Ljava/lang/String;"⟩ : MethodName) prog_55_method_5_code 1 (some (.object "java/lang/String")) :: ws) ({ frames := 1, cells := 0, slots := 0, locals := 12 } : Room)) (fun a U => a = #[(.ref a1)] ∧ Z.Warmed39 U.vm ∧ U.heap = h0) (fun _ _ _ _ _ => True) (fun _ U o U' => ∃ v L, o = .returned v ∧ Q4 Z a1 rs h0 n0 v U'.heap L ∧ FrameEnd U o U' L ({ frames := 1, cells := 0, slots := 0, locals := 12 } : Room).cells ({ frames := 1, cells := 0, slots := 0, locals := 12 } : Room).slots) := by
  refine MetFree.of_bodySF (plainFor_of_name pn_com_example_tallyhook_tallyhook_model_Reply) hisR ?_
  intro p e s m args below meth c s₁ Bd hml0 hP hK
  obtain ⟨rfl, hZ, hh⟩ := hP
  have hx := Bd.exec
  have hby := Bd.bytes
  have hml : c.maxLocals = 1 := hml0
  have hown : s.vm.findClass "com/example/tallyhook/tallyhook/model/Reply" = some m.cls := findClass_of_methodNamed Bd.named
  have hnm := (name_of_methodNamed Bd.named Bd.method).1
  have X0 : Stand p l e ({ frames := 1, cells := 0, slots := 0, locals := 12 } : Room) s m #[(.ref a1)] below meth c s₁ [] 0 0 := Stand.of_body Bd
  have e0 : s₁.heap = h0 := by rw [← hh, Bd.state]; rfl
  have N0 := Fr.nil n0
  change own_Fin p.tables e below (fun s₂ o => ∃ v L, o = .returned v ∧ Q4 Z a1 rs h0 n0 v s₂.heap L ∧ FrameEnd s o s₂ L ({ frames := 1, cells := 0, slots := 0, locals := 12 } : Room).cells ({ frames := 1, cells := 0, slots := 0, locals := 12 } : Room).slots) (s₁.setTop (entryFrame m #[(.ref a1)] 1))
  refine own_st (fun t k => castTop (show entryFrame m #[(.ref a1)] 1 = mkF m 0 #[.val (.ref a1)] [] by first | (simp [entryFrame, mkF, argsToLocals, Value.category, maxLocals]; done) | rfl) k) ?_
  show own_Fin p.tables e below _ (s₁.setTop (mkF m 0 #[.val (.ref a1)] []))
  refine own_st (fun t k => XS.aloadN X0.here hx rfl (hb hby d4_0) rfl rfl k) ?_
  show own_Fin p.tables e below _ (s₁.setTop (mkF m 1 #[.val (.ref a1)] [(.ref a1)]))
  obtain ⟨T1, X1, e1, st1⟩ := getF X0 hx hZ hown (host := "") (Or.inl (hw _ (List.mem_of_getElem? (i := 25) rfl))) Via.refl e0 F_r (g := (mkF m 1 #[.val (.ref a1)] [(.ref a1)])) rfl rfl (hb hby d4_1)
  refine own_st st1 ?_
  show own_Fin p.tables e below _ (T1.setTop (mkF m 4 #[.val (.ref a1)] [rs]))
  obtain ⟨fs, hr, hrun, hended, hW, hsame⟩ := X1.leave (v := (some rs)) (fun h => by rw [Bd.returns] at h; cases h)
  refine ⟨_, _, retOut X1 hx (t := (.object "java/lang/String")) Bd.returns (own_nar hr0) (Or.inr (Or.inr (Or.inr (Or.inr ⟨rfl, rfl, hr0⟩)))) (hb hby d4_4) hr, hrun, hended, _, _, rfl, ?_, ⟨_, rfl⟩, hW, hsame.mono (by decide) (by decide)⟩
  show Q4 Z a1 rs h0 n0 _ T1.heap _
  rw [e1]
  exact ⟨rfl, N0, rfl⟩
def Q0 (Z : State) (p1 : Int32) (aKEPT : Addr) (aREDELIVERED : Addr) (aBAD_REQUEST : Addr) (aBAD_JSON : Addr) (aMISSING_SIGN : Addr) (aBAD_SIGN : Addr) (aEXPIRED : Addr) (aUNKNOWN_APP : Addr) (aNOT_FOUND : Addr) (aMETHOD : Addr) (aTOO_LARGE : Addr) (aINTERNAL : Addr) (yBAD_REQUEST : Addr) (yBAD_JSON : Addr) (yMISSING_SIGN : Addr) (yBAD_SIGN : Addr) (yEXPIRED : Addr) (yUNKNOWN_APP : Addr) (yNOT_FOUND : Addr) (yMETHOD : Addr) (yTOO_LARGE : Addr) (yINTERNAL : Addr) (h0 : Heap) (n0 : Nat) (v : Option Value) (h : Heap) (L : List Loc) : Prop := v = some (.int 1) ∧ Fr n0 L
set_option maxRecDepth 65536 in
set_option maxHeartbeats 40000000 in
theorem rm0 (l : Launch) (Z : State) (a0 : Array Value) (hw : ∀ d ∈ tables_1, d.before a0 Z = true) (ws : List Jvm.Cond) (p1 : Int32) (aKEPT : Addr) (aREDELIVERED : Addr) (aBAD_REQUEST : Addr) (aBAD_JSON : Addr) (aMISSING_SIGN : Addr) (aBAD_SIGN : Addr) (aEXPIRED : Addr) (aUNKNOWN_APP : Addr) (aNOT_FOUND : Addr) (aMETHOD : Addr) (aTOO_LARGE : Addr) (aINTERNAL : Addr) (yBAD_REQUEST : Addr) (yBAD_JSON : Addr) (yMISSING_SIGN : Addr) (yBAD_SIGN : Addr) (yEXPIRED : Addr) (yUNKNOWN_APP : Addr) (yNOT_FOUND : Addr) (yMETHOD : Addr) (yTOO_LARGE : Addr) (yINTERNAL : Addr) (h0 : Heap) (n0 : Nat) (Z0 : n0 ≤ h0.size) (R_KEPT : own_R Z h0 "KEPT" aKEPT 200 .null) (R_REDELIVERED : own_R Z h0 "REDELIVERED" aREDELIVERED 200 .null) (R_BAD_REQUEST : own_R Z h0 "BAD_REQUEST" aBAD_REQUEST 400 (.ref yBAD_REQUEST)) (R_BAD_JSON : own_R Z h0 "BAD_JSON" aBAD_JSON 400 (.ref yBAD_JSON)) (R_MISSING_SIGN : own_R Z h0 "MISSING_SIGN" aMISSING_SIGN 401 (.ref yMISSING_SIGN)) (R_BAD_SIGN : own_R Z h0 "BAD_SIGN" aBAD_SIGN 401 (.ref yBAD_SIGN)) (R_EXPIRED : own_R Z h0 "EXPIRED" aEXPIRED 401 (.ref yEXPIRED)) (R_UNKNOWN_APP : own_R Z h0 "UNKNOWN_APP" aUNKNOWN_APP 401 (.ref yUNKNOWN_APP)) (R_NOT_FOUND : own_R Z h0 "NOT_FOUND" aNOT_FOUND 404 (.ref yNOT_FOUND)) (R_METHOD : own_R Z h0 "METHOD" aMETHOD 405 (.ref yMETHOD)) (R_TOO_LARGE : own_R Z h0 "TOO_LARGE" aTOO_LARGE 413 (.ref yTOO_LARGE)) (R_INTERNAL : own_R Z h0 "INTERNAL" aINTERNAL 500 (.ref yINTERNAL)) :
    MetFree l x (head1 (Jvm.Cond.code x code maxLocals ret :: ws) room_1) (fun a U => a = #[(.int p1)] ∧ Z.Warmed39 U.vm ∧ U.heap = h0) (fun _ _ _ _ _ => True) (fun _ U o U' => ∃ v L, o = .returned v ∧ Q0 Z p1 aKEPT aREDELIVERED aBAD_REQUEST aBAD_JSON aMISSING_SIGN aBAD_SIGN aEXPIRED aUNKNOWN_APP aNOT_FOUND aMETHOD aTOO_LARGE aINTERNAL yBAD_REQUEST yBAD_JSON yMISSING_SIGN yBAD_SIGN yEXPIRED yUNKNOWN_APP yNOT_FOUND yMETHOD yTOO_LARGE yINTERNAL h0 n0 v U'.heap L ∧ FrameEnd U o U' L room_1.cells room_1.slots) := by
  refine MetFree.of_bodySF (plainFor_of_name pn_com_example_tallyhook_tallyhook_model_ReplyAcknowledgesPinLaw) hisR ?_
  intro p e s m args below meth c s₁ Bd hml0 hP hK
  obtain ⟨rfl, hZ, hh⟩ := hP
  have hx := Bd.exec
  have hby := Bd.bytes
  have hml : c.maxLocals = 5 := hml0
  have hown : s.vm.findClass "com/example/tallyhook/tallyhook/model/ReplyAcknowledgesPinLaw" = some m.cls := findClass_of_methodNamed Bd.named
  have hnm := (name_of_methodNamed Bd.named Bd.method).1
  have X0 : Stand p l e room_1 s m #[(.int p1)] below meth c s₁ [] 0 0 := Stand.of_body Bd
  have e0 : s₁.heap = h0 := by rw [← hh, Bd.state]; rfl
  have N0 := Fr.nil n0
  change own_Fin p.tables e below (fun s₂ o => ∃ v L, o = .returned v ∧ Q0 Z p1 aKEPT aREDELIVERED aBAD_REQUEST aBAD_JSON aMISSING_SIGN aBAD_SIGN aEXPIRED aUNKNOWN_APP aNOT_FOUND aMETHOD aTOO_LARGE aINTERNAL yBAD_REQUEST yBAD_JSON yMISSING_SIGN yBAD_SIGN yEXPIRED yUNKNOWN_APP yNOT_FOUND yMETHOD yTOO_LARGE yINTERNAL h0 n0 v s₂.heap L ∧ FrameEnd s o s₂ L room_1.cells room_1.slots) (s₁.setTop (entryFrame m #[(.int p1)] maxLocals))
  refine own_st (fun t k => castTop (show entryFrame m #[(.int p1)] maxLocals = mkF m 0 #[.val (.int p1), .unset, .unset, .unset, .unset] [] by first | (simp [entryFrame, mkF, argsToLocals, Value.category, maxLocals]; done) | rfl) k) ?_
  show own_Fin p.tables e below _ (s₁.setTop (mkF m 0 #[.val (.int p1), .unset, .unset, .unset, .unset] []))
  refine own_st (fun t k => XS.iloadN X0.here hx rfl (hb hby at_0) rfl k) ?_
  show own_Fin p.tables e below _ (s₁.setTop (mkF m 1 #[.val (.int p1), .unset, .unset, .unset, .unset] [(.int p1)]))
  refine own_st (fun t k => X0.ldcI hx hown (mvT hZ (hw _ (List.mem_of_getElem? (i := 0) rfl))) rfl (hb hby at_1) k) ?_
  show own_Fin p.tables e below _ (s₁.setTop (mkF m 3 #[.val (.int p1), .unset, .unset, .unset, .unset] [(.int (2147483647 : Int32)), (.int p1)]))
  refine own_st (fun t k => XS.iand X0.here hx rfl (hb hby at_3) rfl k) ?_
  show own_Fin p.tables e below _ (s₁.setTop (mkF m 4 #[.val (.int p1), .unset, .unset, .unset, .unset] [(.int (p1 &&& (2147483647 : Int32)))]))
  refine own_st (fun t k => XS.bipush X0.here hx rfl (hb hby at_4) k) ?_
  show own_Fin p.tables e below _ (s₁.setTop (mkF m 6 #[.val (.int p1), .unset, .unset, .unset, .unset] [(.int (12 : Int32)), (.int (p1 &&& (2147483647 : Int32)))]))
  refine own_st (fun t k => iremM X0 hx rfl (hb hby at_6) rfl (by decide) k) ?_
  show own_Fin p.tables e below _ (s₁.setTop (mkF m 7 #[.val (.int p1), .unset, .unset, .unset, .unset] [(.int ((p1 &&& (2147483647 : Int32)) % (12 : Int32)))]))
  refine own_st (fun t k => XS.istoreN X0.here hx rfl (hb hby at_7) rfl (l' := #[.val (.int p1), .val (.int ((p1 &&& (2147483647 : Int32)) % (12 : Int32))), .unset, .unset, .unset]) rfl k) ?_
  show own_Fin p.tables e below _ (s₁.setTop (mkF m 8 #[.val (.int p1), .val (.int ((p1 &&& (2147483647 : Int32)) % (12 : Int32))), .unset, .unset, .unset] []))
  refine own_st (fun t k => XS.iloadN X0.here hx rfl (hb hby at_8) rfl k) ?_
  show own_Fin p.tables e below _ (s₁.setTop (mkF m 9 #[.val (.int p1), .val (.int ((p1 &&& (2147483647 : Int32)) % (12 : Int32))), .unset, .unset, .unset] [(.int ((p1 &&& (2147483647 : Int32)) % (12 : Int32)))]))
  obtain ⟨_, _, ⟨T1, L1, k1, n1⟩, -, X1, ⟨Lc1, hQ1, l1, y1, z1⟩, st1⟩ := Jvm.LawKit.callS X0 hx (y := (⟨"com/example/tallyhook/tallyhook/model/ReplyAcknowledgesPinLaw", "pick", "(I)Lcom/example/tallyhook/tallyhook/model/Reply;"⟩ : MethodName)) hown (mvT hZ (hw _ (List.mem_of_getElem? (i := 1) rfl))) (mvT hZ (hw _ (List.mem_of_getElem? (i := 2) rfl))) (mvT hZ (hw _ (List.mem_of_getElem? (i := 3) rfl))) (mvT hZ (hw _ (List.mem_of_getElem? (i := 4) rfl))) (by decide) (backOf (W := 0) (rm1 l Z a0 hw [] ((p1 &&& (2147483647 : Int32)) % (12 : Int32)) aKEPT aREDELIVERED aBAD_REQUEST aBAD_JSON aMISSING_SIGN aBAD_SIGN aEXPIRED aUNKNOWN_APP aNOT_FOUND aMETHOD aTOO_LARGE aINTERNAL yBAD_REQUEST yBAD_JSON yMISSING_SIGN yBAD_SIGN yEXPIRED yUNKNOWN_APP yNOT_FOUND yMETHOD yTOO_LARGE yINTERNAL h0 n0 Z0 (own_k0 p1) R_KEPT R_REDELIVERED R_BAD_REQUEST R_BAD_JSON R_MISSING_SIGN R_BAD_SIGN R_EXPIRED R_UNKNOWN_APP R_NOT_FOUND R_METHOD R_TOO_LARGE R_INTERNAL) hZ (hw _ (List.mem_of_getElem? (i := 4) rfl)) (hw _ (List.mem_of_getElem? (i := 3) rfl)) (by decide) (by decide)) (g := (mkF m 9 #[.val (.int p1), .val (.int ((p1 &&& (2147483647 : Int32)) % (12 : Int32))), .unset, .unset, .unset] [(.int ((p1 &&& (2147483647 : Int32)) % (12 : Int32)))])) rfl (by rw [hml]; rfl) (argsL := [(.int ((p1 &&& (2147483647 : Int32)) % (12 : Int32)))]) (rest := []) (lenOf pd__I_Lcom_example_tallyhook_tallyhook_model_Reply_ rfl) rfl (by show 2 * 0 + _ ≤ _; exact Nat.le_of_eq rfl) (hb hby at_9) (fun _ _ => ⟨rfl, e0, (by decide : 0 + 0 ≤ _), (by decide : 0 + 0 ≤ _)⟩)
  dsimp only [Pt.U, Pt.locs, Pt.cells, Pt.slots] at X1 l1 y1 z1 st1 hQ1
  subst l1 y1 z1
  obtain ⟨r, st, rs, rfl, E_r, F_s, F_r, hcase, N1, q1⟩ := hQ1
  refine own_st (st1) ?_
  have N1a := Fr.app N0 N1
  show own_Fin p.tables e below _ (T1.setTop (mkF m 12 #[.val (.int p1), .val (.int ((p1 &&& (2147483647 : Int32)) % (12 : Int32))), .unset, .unset, .unset] [(.ref r)]))
  rcases hcase with ⟨hlt, rfl, rfl⟩ | ⟨hlt, hst, y, rfl⟩
  · have _ := hlt
    refine own_st (fun t k => XS.astoreN X1.here hx rfl (hb hby at_12) rfl rfl (l' := #[.val (.int p1), .val (.int ((p1 &&& (2147483647 : Int32)) % (12 : Int32))), .val (.ref r), .unset, .unset]) rfl k) ?_
    show own_Fin p.tables e below _ (T1.setTop (mkF m 13 #[.val (.int p1), .val (.int ((p1 &&& (2147483647 : Int32)) % (12 : Int32))), .val (.ref r), .unset, .unset] []))
    refine own_st (fun t k => XS.aloadN X1.here hx rfl (hb hby at_13) rfl rfl k) ?_
    show own_Fin p.tables e below _ (T1.setTop (mkF m 14 #[.val (.int p1), .val (.int ((p1 &&& (2147483647 : Int32)) % (12 : Int32))), .val (.ref r), .unset, .unset] [(.ref r)]))
    obtain ⟨cq2, kq2, qa2, qb2, qc2⟩ := isOf hZ q1 E_r
    obtain ⟨_, _, ⟨T2, L2, k2, n2⟩, -, X2, ⟨Lc2, hQ2, l2, y2, z2⟩, st2⟩ := X1.virtualBack hx (y := (⟨"com/example/tallyhook/tallyhook/model/Reply", "acknowledges", "()Z"⟩ : MethodName)) (z := (⟨"com/example/tallyhook/tallyhook/model/Reply", "acknowledges", "()Z"⟩ : MethodName)) hown (mvT hZ (hw _ (List.mem_of_getElem? (i := 8) rfl))) (mvT hZ (hw _ (List.mem_of_getElem? (i := 9) rfl))) (notFace_of_selects (args := #[]) (mvT hZ (hw _ (List.mem_of_getElem? (i := 11) rfl)))) (mvT hZ (hw _ (List.mem_of_getElem? (i := 11) rfl))) (mvT hZ (hw _ (List.mem_of_getElem? (i := 10) rfl))) (by decide) (backOf (W := 0) (rm2 l Z a0 hw [] r 200 1 h0 n0 Z0 F_s (Or.inl ⟨rfl, rfl⟩)) hZ (hw _ (List.mem_of_getElem? (i := 12) rfl)) (hw _ (List.mem_of_getElem? (i := 6) rfl)) (by decide) (by decide)) qa2 qc2 (g := (mkF m 14 #[.val (.int p1), .val (.int ((p1 &&& (2147483647 : Int32)) % (12 : Int32))), .val (.ref r), .unset, .unset] [(.ref r)])) rfl (by rw [hml]; rfl) (Steps.refl _) (argsL := []) (rest := []) (lenOf pd___Z rfl) rfl (by show 2 * 0 + _ ≤ _; exact Nat.le_of_eq rfl) (hb hby at_14) (fun _ _ => ⟨rfl, q1, (by decide : 0 + 0 ≤ _), (by decide : 0 + 0 ≤ _)⟩)
    dsimp only [Pt.U, Pt.locs, Pt.cells, Pt.slots] at X2 l2 y2 z2 st2 hQ2
    subst l2 y2 z2
    obtain ⟨rfl, N2, q2⟩ := hQ2
    refine own_st (fun t k => st2.trans k) ?_
    have N2a := Fr.app N1a N2
    show own_Fin p.tables e below _ (T2.setTop (mkF m 17 #[.val (.int p1), .val (.int ((p1 &&& (2147483647 : Int32)) % (12 : Int32))), .val (.ref r), .unset, .unset] [(.int (1 : Int32))]))
    refine own_st (fun t k => XS.istoreN X2.here hx rfl (hb hby at_17) rfl (l' := #[.val (.int p1), .val (.int ((p1 &&& (2147483647 : Int32)) % (12 : Int32))), .val (.ref r), .val (.int (1 : Int32)), .unset]) rfl k) ?_
    show own_Fin p.tables e below _ (T2.setTop (mkF m 18 #[.val (.int p1), .val (.int ((p1 &&& (2147483647 : Int32)) % (12 : Int32))), .val (.ref r), .val (.int (1 : Int32)), .unset] []))
    refine own_st (fun t k => XS.iloadN X2.here hx rfl (hb hby at_18) rfl k) ?_
    show own_Fin p.tables e below _ (T2.setTop (mkF m 19 #[.val (.int p1), .val (.int ((p1 &&& (2147483647 : Int32)) % (12 : Int32))), .val (.ref r), .val (.int (1 : Int32)), .unset] [(.int ((p1 &&& (2147483647 : Int32)) % (12 : Int32)))]))
    refine own_st (fun t k => XS.iconst X2.here hx rfl (hb hby at_19) k) ?_
    show own_Fin p.tables e below _ (T2.setTop (mkF m 20 #[.val (.int p1), .val (.int ((p1 &&& (2147483647 : Int32)) % (12 : Int32))), .val (.ref r), .val (.int (1 : Int32)), .unset] [(.int (2 : Int32)), (.int ((p1 &&& (2147483647 : Int32)) % (12 : Int32)))]))
    refine own_st (fun t k => XS.icmpNo X2.here hx rfl (hb hby at_20) rfl (XT.ii_ge_f hlt) k) ?_
    show own_Fin p.tables e below _ (T2.setTop (mkF m 23 #[.val (.int p1), .val (.int ((p1 &&& (2147483647 : Int32)) % (12 : Int32))), .val (.ref r), .val (.int (1 : Int32)), .unset] []))
    refine own_st (fun t k => XS.iconst X2.here hx rfl (hb hby at_23) k) ?_
    show own_Fin p.tables e below _ (T2.setTop (mkF m 24 #[.val (.int p1), .val (.int ((p1 &&& (2147483647 : Int32)) % (12 : Int32))), .val (.ref r), .val (.int (1 : Int32)), .unset] [(.int (1 : Int32))]))
    refine own_st (fun t k => XS.goto X2.here hx rfl (pc0 := 24) (pc' := 28) rfl (hb hby at_24) (by decide) (by decide) k) ?_
    show own_Fin p.tables e below _ (T2.setTop (mkF m 28 #[.val (.int p1), .val (.int ((p1 &&& (2147483647 : Int32)) % (12 : Int32))), .val (.ref r), .val (.int (1 : Int32)), .unset] [(.int (1 : Int32))]))
    refine own_st (fun t k => XS.istore X2.here hx rfl (hb hby at_28) rfl (l' := #[.val (.int p1), .val (.int ((p1 &&& (2147483647 : Int32)) % (12 : Int32))), .val (.ref r), .val (.int (1 : Int32)), .val (.int (1 : Int32))]) rfl k) ?_
    show own_Fin p.tables e below _ (T2.setTop (mkF m 30 #[.val (.int p1), .val (.int ((p1 &&& (2147483647 : Int32)) % (12 : Int32))), .val (.ref r), .val (.int (1 : Int32)), .val (.int (1 : Int32))] []))
    refine own_st (fun t k => XS.iloadN X2.here hx rfl (hb hby at_30) rfl k) ?_
    show own_Fin p.tables e below _ (T2.setTop (mkF m 31 #[.val (.int p1), .val (.int ((p1 &&& (2147483647 : Int32)) % (12 : Int32))), .val (.ref r), .val (.int (1 : Int32)), .val (.int (1 : Int32))] [(.int (1 : Int32))]))
    refine own_st (fun t k => XS.iload X2.here hx rfl (hb hby at_31) rfl k) ?_
    show own_Fin p.tables e below _ (T2.setTop (mkF m 33 #[.val (.int p1), .val (.int ((p1 &&& (2147483647 : Int32)) % (12 : Int32))), .val (.ref r), .val (.int (1 : Int32)), .val (.int (1 : Int32))] [(.int (1 : Int32)), (.int (1 : Int32))]))
    refine own_st (fun t k => XS.icmpNo X2.here hx rfl (hb hby at_33) rfl (XT.ii_ne_f (by decide)) k) ?_
    show own_Fin p.tables e below _ (T2.setTop (mkF m 36 #[.val (.int p1), .val (.int ((p1 &&& (2147483647 : Int32)) % (12 : Int32))), .val (.ref r), .val (.int (1 : Int32)), .val (.int (1 : Int32))] []))
    refine own_st (fun t k => XS.iloadN X2.here hx rfl (hb hby at_36) rfl k) ?_
    show own_Fin p.tables e below _ (T2.setTop (mkF m 37 #[.val (.int p1), .val (.int ((p1 &&& (2147483647 : Int32)) % (12 : Int32))), .val (.ref r), .val (.int (1 : Int32)), .val (.int (1 : Int32))] [(.int (1 : Int32))]))
    refine own_st (fun t k => XS.aloadN X2.here hx rfl (hb hby at_37) rfl rfl k) ?_
    show own_Fin p.tables e below _ (T2.setTop (mkF m 38 #[.val (.int p1), .val (.int ((p1 &&& (2147483647 : Int32)) % (12 : Int32))), .val (.ref r), .val (.int (1 : Int32)), .val (.int (1 : Int32))] [(.ref r), (.int (1 : Int32))]))
    obtain ⟨cq3, kq3, qa3, qb3, qc3⟩ := isOf hZ q2 E_r
    obtain ⟨_, _, ⟨T3, L3, k3, n3⟩, -, X3, ⟨Lc3, hQ3, l3, y3, z3⟩, st3⟩ := X2.virtualBack hx (y := (⟨"com/example/tallyhook/tallyhook/model/Reply", "status", "()I"⟩ : MethodName)) (z := (⟨"com/example/tallyhook/tallyhook/model/Reply", "status", "()I"⟩ : MethodName)) hown (mvT hZ (hw _ (List.mem_of_getElem? (i := 15) rfl))) (mvT hZ (hw _ (List.mem_of_getElem? (i := 16) rfl))) (notFace_of_selects (args := #[]) (mvT hZ (hw _ (List.mem_of_getElem? (i := 18) rfl)))) (mvT hZ (hw _ (List.mem_of_getElem? (i := 18) rfl))) (mvT hZ (hw _ (List.mem_of_getElem? (i := 17) rfl))) (by decide) (backOf (W := 1) (rm3 l Z a0 hw [] r 200 h0 n0 Z0 F_s) hZ (hw _ (List.mem_of_getElem? (i := 19) rfl)) (hw _ (List.mem_of_getElem? (i := 6) rfl)) (by decide) (by decide)) qa3 qc3 (g := (mkF m 38 #[.val (.int p1), .val (.int ((p1 &&& (2147483647 : Int32)) % (12 : Int32))), .val (.ref r), .val (.int (1 : Int32)), .val (.int (1 : Int32))] [(.ref r), (.int (1 : Int32))])) rfl (by rw [hml]; rfl) (Steps.refl _) (argsL := []) (rest := [(.int (1 : Int32))]) (lenOf pd___I rfl) rfl (by show 2 * 0 + _ ≤ _; exact Nat.le_of_eq rfl) (hb hby at_38) (fun _ _ => ⟨rfl, q2, (by decide : 0 + 0 ≤ _), (by decide : 0 + 0 ≤ _)⟩)
    dsimp only [Pt.U, Pt.locs, Pt.cells, Pt.slots] at X3 l3 y3 z3 st3 hQ3
    subst l3 y3 z3
    obtain ⟨rfl, N3, q3⟩ := hQ3
    refine own_st (fun t k => st3.trans k) ?_
    have N3a := Fr.app N2a N3
    show own_Fin p.tables e below _ (T3.setTop (mkF m 41 #[.val (.int p1), .val (.int ((p1 &&& (2147483647 : Int32)) % (12 : Int32))), .val (.ref r), .val (.int (1 : Int32)), .val (.int (1 : Int32))] [(.int (200 : Int32)), (.int (1 : Int32))]))
    refine own_st (fun t k => XS.sipush X3.here hx rfl (hb hby at_41) k) ?_
    show own_Fin p.tables e below _ (T3.setTop (mkF m 44 #[.val (.int p1), .val (.int ((p1 &&& (2147483647 : Int32)) % (12 : Int32))), .val (.ref r), .val (.int (1 : Int32)), .val (.int (1 : Int32))] [(.int (200 : Int32)), (.int (200 : Int32)), (.int (1 : Int32))]))
    refine own_st (fun t k => XS.icmpNo X3.here hx rfl (hb hby at_44) rfl (XT.ii_ne_f (by decide)) k) ?_
    show own_Fin p.tables e below _ (T3.setTop (mkF m 47 #[.val (.int p1), .val (.int ((p1 &&& (2147483647 : Int32)) % (12 : Int32))), .val (.ref r), .val (.int (1 : Int32)), .val (.int (1 : Int32))] [(.int (1 : Int32))]))
    refine own_st (fun t k => XS.iconst X3.here hx rfl (hb hby at_47) k) ?_
    show own_Fin p.tables e below _ (T3.setTop (mkF m 48 #[.val (.int p1), .val (.int ((p1 &&& (2147483647 : Int32)) % (12 : Int32))), .val (.ref r), .val (.int (1 : Int32)), .val (.int (1 : Int32))] [(.int (1 : Int32)), (.int (1 : Int32))]))
    refine own_st (fun t k => XS.goto X3.here hx rfl (pc0 := 48) (pc' := 52) rfl (hb hby at_48) (by decide) (by decide) k) ?_
    show own_Fin p.tables e below _ (T3.setTop (mkF m 52 #[.val (.int p1), .val (.int ((p1 &&& (2147483647 : Int32)) % (12 : Int32))), .val (.ref r), .val (.int (1 : Int32)), .val (.int (1 : Int32))] [(.int (1 : Int32)), (.int (1 : Int32))]))
    refine own_st (fun t k => XS.icmpNo X3.here hx rfl (hb hby at_52) rfl (XT.ii_ne_f (by decide)) k) ?_
    show own_Fin p.tables e below _ (T3.setTop (mkF m 55 #[.val (.int p1), .val (.int ((p1 &&& (2147483647 : Int32)) % (12 : Int32))), .val (.ref r), .val (.int (1 : Int32)), .val (.int (1 : Int32))] []))
    refine own_st (fun t k => XS.iloadN X3.here hx rfl (hb hby at_55) rfl k) ?_
    show own_Fin p.tables e below _ (T3.setTop (mkF m 56 #[.val (.int p1), .val (.int ((p1 &&& (2147483647 : Int32)) % (12 : Int32))), .val (.ref r), .val (.int (1 : Int32)), .val (.int (1 : Int32))] [(.int (1 : Int32))]))
    refine own_st (fun t k => XS.aloadN X3.here hx rfl (hb hby at_56) rfl rfl k) ?_
    show own_Fin p.tables e below _ (T3.setTop (mkF m 57 #[.val (.int p1), .val (.int ((p1 &&& (2147483647 : Int32)) % (12 : Int32))), .val (.ref r), .val (.int (1 : Int32)), .val (.int (1 : Int32))] [(.ref r), (.int (1 : Int32))]))
    obtain ⟨cq4, kq4, qa4, qb4, qc4⟩ := isOf hZ q3 E_r
    obtain ⟨_, _, ⟨T4, L4, k4, n4⟩, -, X4, ⟨Lc4, hQ4, l4, y4, z4⟩, st4⟩ := X3.virtualBack hx (y := (⟨"com/example/tallyhook/tallyhook/model/Reply", "reason", "()Ljava/lang/String;"⟩ : MethodName)) (z := (⟨"com/example/tallyhook/tallyhook/model/Reply", "reason", "()Ljava/lang/String;"⟩ : MethodName)) hown (mvT hZ (hw _ (List.mem_of_getElem? (i := 20) rfl))) (mvT hZ (hw _ (List.mem_of_getElem? (i := 21) rfl))) (notFace_of_selects (args := #[]) (mvT hZ (hw _ (List.mem_of_getElem? (i := 23) rfl)))) (mvT hZ (hw _ (List.mem_of_getElem? (i := 23) rfl))) (mvT hZ (hw _ (List.mem_of_getElem? (i := 22) rfl))) (by decide) (backOf (W := 1) (rm4 l Z a0 hw [] r .null h0 n0 Z0 F_r rfl) hZ (hw _ (List.mem_of_getElem? (i := 24) rfl)) (hw _ (List.mem_of_getElem? (i := 6) rfl)) (by decide) (by decide)) qa4 qc4 (g := (mkF m 57 #[.val (.int p1), .val (.int ((p1 &&& (2147483647 : Int32)) % (12 : Int32))), .val (.ref r), .val (.int (1 : Int32)), .val (.int (1 : Int32))] [(.ref r), (.int (1 : Int32))])) rfl (by rw [hml]; rfl) (Steps.refl _) (argsL := []) (rest := [(.int (1 : Int32))]) (lenOf pd___Ljava_lang_String_ rfl) rfl (by show 2 * 0 + _ ≤ _; exact Nat.le_of_eq rfl) (hb hby at_57) (fun _ _ => ⟨rfl, q3, (by decide : 0 + 0 ≤ _), (by decide : 0 + 0 ≤ _)⟩)
    dsimp only [Pt.U, Pt.locs, Pt.cells, Pt.slots] at X4 l4 y4 z4 st4 hQ4
    subst l4 y4 z4
    obtain ⟨rfl, N4, q4⟩ := hQ4
    refine own_st (fun t k => st4.trans k) ?_
    have N4a := Fr.app N3a N4
    show own_Fin p.tables e below _ (T4.setTop (mkF m 60 #[.val (.int p1), .val (.int ((p1 &&& (2147483647 : Int32)) % (12 : Int32))), .val (.ref r), .val (.int (1 : Int32)), .val (.int (1 : Int32))] [.null, (.int (1 : Int32))]))
    refine own_st (fun t k => XS.ifnonnullNo X4.here hx rfl (hb hby at_60) rfl k) ?_
    show own_Fin p.tables e below _ (T4.setTop (mkF m 63 #[.val (.int p1), .val (.int ((p1 &&& (2147483647 : Int32)) % (12 : Int32))), .val (.ref r), .val (.int (1 : Int32)), .val (.int (1 : Int32))] [(.int (1 : Int32))]))
    refine own_st (fun t k => XS.iconst X4.here hx rfl (hb hby at_63) k) ?_
    show own_Fin p.tables e below _ (T4.setTop (mkF m 64 #[.val (.int p1), .val (.int ((p1 &&& (2147483647 : Int32)) % (12 : Int32))), .val (.ref r), .val (.int (1 : Int32)), .val (.int (1 : Int32))] [(.int (1 : Int32)), (.int (1 : Int32))]))
    refine own_st (fun t k => XS.goto X4.here hx rfl (pc0 := 64) (pc' := 68) rfl (hb hby at_64) (by decide) (by decide) k) ?_
    show own_Fin p.tables e below _ (T4.setTop (mkF m 68 #[.val (.int p1), .val (.int ((p1 &&& (2147483647 : Int32)) % (12 : Int32))), .val (.ref r), .val (.int (1 : Int32)), .val (.int (1 : Int32))] [(.int (1 : Int32)), (.int (1 : Int32))]))
    refine own_st (fun t k => XS.icmpNo X4.here hx rfl (hb hby at_68) rfl (XT.ii_ne_f (by decide)) k) ?_
    show own_Fin p.tables e below _ (T4.setTop (mkF m 71 #[.val (.int p1), .val (.int ((p1 &&& (2147483647 : Int32)) % (12 : Int32))), .val (.ref r), .val (.int (1 : Int32)), .val (.int (1 : Int32))] []))
    refine own_st (fun t k => XS.iconst X4.here hx rfl (hb hby at_71) k) ?_
    show own_Fin p.tables e below _ (T4.setTop (mkF m 72 #[.val (.int p1), .val (.int ((p1 &&& (2147483647 : Int32)) % (12 : Int32))), .val (.ref r), .val (.int (1 : Int32)), .val (.int (1 : Int32))] [(.int (1 : Int32))]))
    refine own_st (fun t k => XS.goto X4.here hx rfl (pc0 := 72) (pc' := 76) rfl (hb hby at_72) (by decide) (by decide) k) ?_
    show own_Fin p.tables e below _ (T4.setTop (mkF m 76 #[.val (.int p1), .val (.int ((p1 &&& (2147483647 : Int32)) % (12 : Int32))), .val (.ref r), .val (.int (1 : Int32)), .val (.int (1 : Int32))] [(.int (1 : Int32))]))
    obtain ⟨fs, hr, hrun, hended, hW, hsame⟩ := X4.leave (v := (some (.int (1 : Int32)))) (fun h => by rw [Bd.returns] at h; cases h)
    refine ⟨_, _, retN X4 hx (t := .boolean) Bd.returns (by simp) (hb hby at_76) hr, hrun, hended, _, _, rfl, ?_, ⟨_, rfl⟩, hW, hsame.mono (by decide) (by decide)⟩
    show Q0 Z p1 aKEPT aREDELIVERED aBAD_REQUEST aBAD_JSON aMISSING_SIGN aBAD_SIGN aEXPIRED aUNKNOWN_APP aNOT_FOUND aMETHOD aTOO_LARGE aINTERNAL yBAD_REQUEST yBAD_JSON yMISSING_SIGN yBAD_SIGN yEXPIRED yUNKNOWN_APP yNOT_FOUND yMETHOD yTOO_LARGE yINTERNAL h0 n0 _ T4.heap _
    rw [q4]
    exact ⟨rfl, N4a⟩
  · have _ := hlt
    refine own_st (fun t k => XS.astoreN X1.here hx rfl (hb hby at_12) rfl rfl (l' := #[.val (.int p1), .val (.int ((p1 &&& (2147483647 : Int32)) % (12 : Int32))), .val (.ref r), .unset, .unset]) rfl k) ?_
    show own_Fin p.tables e below _ (T1.setTop (mkF m 13 #[.val (.int p1), .val (.int ((p1 &&& (2147483647 : Int32)) % (12 : Int32))), .val (.ref r), .unset, .unset] []))
    refine own_st (fun t k => XS.aloadN X1.here hx rfl (hb hby at_13) rfl rfl k) ?_
    show own_Fin p.tables e below _ (T1.setTop (mkF m 14 #[.val (.int p1), .val (.int ((p1 &&& (2147483647 : Int32)) % (12 : Int32))), .val (.ref r), .unset, .unset] [(.ref r)]))
    obtain ⟨cq5, kq5, qa5, qb5, qc5⟩ := isOf hZ q1 E_r
    obtain ⟨_, _, ⟨T5, L5, k5, n5⟩, -, X5, ⟨Lc5, hQ5, l5, y5, z5⟩, st5⟩ := X1.virtualBack hx (y := (⟨"com/example/tallyhook/tallyhook/model/Reply", "acknowledges", "()Z"⟩ : MethodName)) (z := (⟨"com/example/tallyhook/tallyhook/model/Reply", "acknowledges", "()Z"⟩ : MethodName)) hown (mvT hZ (hw _ (List.mem_of_getElem? (i := 8) rfl))) (mvT hZ (hw _ (List.mem_of_getElem? (i := 9) rfl))) (notFace_of_selects (args := #[]) (mvT hZ (hw _ (List.mem_of_getElem? (i := 11) rfl)))) (mvT hZ (hw _ (List.mem_of_getElem? (i := 11) rfl))) (mvT hZ (hw _ (List.mem_of_getElem? (i := 10) rfl))) (by decide) (backOf (W := 0) (rm2 l Z a0 hw [] r st 0 h0 n0 Z0 F_s (Or.inr ⟨hst, rfl⟩)) hZ (hw _ (List.mem_of_getElem? (i := 12) rfl)) (hw _ (List.mem_of_getElem? (i := 6) rfl)) (by decide) (by decide)) qa5 qc5 (g := (mkF m 14 #[.val (.int p1), .val (.int ((p1 &&& (2147483647 : Int32)) % (12 : Int32))), .val (.ref r), .unset, .unset] [(.ref r)])) rfl (by rw [hml]; rfl) (Steps.refl _) (argsL := []) (rest := []) (lenOf pd___Z rfl) rfl (by show 2 * 0 + _ ≤ _; exact Nat.le_of_eq rfl) (hb hby at_14) (fun _ _ => ⟨rfl, q1, (by decide : 0 + 0 ≤ _), (by decide : 0 + 0 ≤ _)⟩)
    dsimp only [Pt.U, Pt.locs, Pt.cells, Pt.slots] at X5 l5 y5 z5 st5 hQ5
    subst l5 y5 z5
    obtain ⟨rfl, N5, q5⟩ := hQ5
    refine own_st (fun t k => st5.trans k) ?_
    have N5a := Fr.app N1a N5
    show own_Fin p.tables e below _ (T5.setTop (mkF m 17 #[.val (.int p1), .val (.int ((p1 &&& (2147483647 : Int32)) % (12 : Int32))), .val (.ref r), .unset, .unset] [(.int (0 : Int32))]))
    refine own_st (fun t k => XS.istoreN X5.here hx rfl (hb hby at_17) rfl (l' := #[.val (.int p1), .val (.int ((p1 &&& (2147483647 : Int32)) % (12 : Int32))), .val (.ref r), .val (.int (0 : Int32)), .unset]) rfl k) ?_
    show own_Fin p.tables e below _ (T5.setTop (mkF m 18 #[.val (.int p1), .val (.int ((p1 &&& (2147483647 : Int32)) % (12 : Int32))), .val (.ref r), .val (.int (0 : Int32)), .unset] []))
    refine own_st (fun t k => XS.iloadN X5.here hx rfl (hb hby at_18) rfl k) ?_
    show own_Fin p.tables e below _ (T5.setTop (mkF m 19 #[.val (.int p1), .val (.int ((p1 &&& (2147483647 : Int32)) % (12 : Int32))), .val (.ref r), .val (.int (0 : Int32)), .unset] [(.int ((p1 &&& (2147483647 : Int32)) % (12 : Int32)))]))
    refine own_st (fun t k => XS.iconst X5.here hx rfl (hb hby at_19) k) ?_
    show own_Fin p.tables e below _ (T5.setTop (mkF m 20 #[.val (.int p1), .val (.int ((p1 &&& (2147483647 : Int32)) % (12 : Int32))), .val (.ref r), .val (.int (0 : Int32)), .unset] [(.int (2 : Int32)), (.int ((p1 &&& (2147483647 : Int32)) % (12 : Int32)))]))
    refine own_st (fun t k => XS.icmpYes X5.here hx rfl (pc0 := 20) (pc' := 27) rfl (hb hby at_20) rfl (XT.ii_ge_t hlt) (by decide) (by decide) k) ?_
    show own_Fin p.tables e below _ (T5.setTop (mkF m 27 #[.val (.int p1), .val (.int ((p1 &&& (2147483647 : Int32)) % (12 : Int32))), .val (.ref r), .val (.int (0 : Int32)), .unset] []))
    refine own_st (fun t k => XS.iconst X5.here hx rfl (hb hby at_27) k) ?_
    show own_Fin p.tables e below _ (T5.setTop (mkF m 28 #[.val (.int p1), .val (.int ((p1 &&& (2147483647 : Int32)) % (12 : Int32))), .val (.ref r), .val (.int (0 : Int32)), .unset] [(.int (0 : Int32))]))
    refine own_st (fun t k => XS.istore X5.here hx rfl (hb hby at_28) rfl (l' := #[.val (.int p1), .val (.int ((p1 &&& (2147483647 : Int32)) % (12 : Int32))), .val (.ref r), .val (.int (0 : Int32)), .val (.int (0 : Int32))]) rfl k) ?_
    show own_Fin p.tables e below _ (T5.setTop (mkF m 30 #[.val (.int p1), .val (.int ((p1 &&& (2147483647 : Int32)) % (12 : Int32))), .val (.ref r), .val (.int (0 : Int32)), .val (.int (0 : Int32))] []))
    refine own_st (fun t k => XS.iloadN X5.here hx rfl (hb hby at_30) rfl k) ?_
    show own_Fin p.tables e below _ (T5.setTop (mkF m 31 #[.val (.int p1), .val (.int ((p1 &&& (2147483647 : Int32)) % (12 : Int32))), .val (.ref r), .val (.int (0 : Int32)), .val (.int (0 : Int32))] [(.int (0 : Int32))]))
    refine own_st (fun t k => XS.iload X5.here hx rfl (hb hby at_31) rfl k) ?_
    show own_Fin p.tables e below _ (T5.setTop (mkF m 33 #[.val (.int p1), .val (.int ((p1 &&& (2147483647 : Int32)) % (12 : Int32))), .val (.ref r), .val (.int (0 : Int32)), .val (.int (0 : Int32))] [(.int (0 : Int32)), (.int (0 : Int32))]))
    refine own_st (fun t k => XS.icmpNo X5.here hx rfl (hb hby at_33) rfl (XT.ii_ne_f (by decide)) k) ?_
    show own_Fin p.tables e below _ (T5.setTop (mkF m 36 #[.val (.int p1), .val (.int ((p1 &&& (2147483647 : Int32)) % (12 : Int32))), .val (.ref r), .val (.int (0 : Int32)), .val (.int (0 : Int32))] []))
    refine own_st (fun t k => XS.iloadN X5.here hx rfl (hb hby at_36) rfl k) ?_
    show own_Fin p.tables e below _ (T5.setTop (mkF m 37 #[.val (.int p1), .val (.int ((p1 &&& (2147483647 : Int32)) % (12 : Int32))), .val (.ref r), .val (.int (0 : Int32)), .val (.int (0 : Int32))] [(.int (0 : Int32))]))
    refine own_st (fun t k => XS.aloadN X5.here hx rfl (hb hby at_37) rfl rfl k) ?_
    show own_Fin p.tables e below _ (T5.setTop (mkF m 38 #[.val (.int p1), .val (.int ((p1 &&& (2147483647 : Int32)) % (12 : Int32))), .val (.ref r), .val (.int (0 : Int32)), .val (.int (0 : Int32))] [(.ref r), (.int (0 : Int32))]))
    obtain ⟨cq6, kq6, qa6, qb6, qc6⟩ := isOf hZ q5 E_r
    obtain ⟨_, _, ⟨T6, L6, k6, n6⟩, -, X6, ⟨Lc6, hQ6, l6, y6, z6⟩, st6⟩ := X5.virtualBack hx (y := (⟨"com/example/tallyhook/tallyhook/model/Reply", "status", "()I"⟩ : MethodName)) (z := (⟨"com/example/tallyhook/tallyhook/model/Reply", "status", "()I"⟩ : MethodName)) hown (mvT hZ (hw _ (List.mem_of_getElem? (i := 15) rfl))) (mvT hZ (hw _ (List.mem_of_getElem? (i := 16) rfl))) (notFace_of_selects (args := #[]) (mvT hZ (hw _ (List.mem_of_getElem? (i := 18) rfl)))) (mvT hZ (hw _ (List.mem_of_getElem? (i := 18) rfl))) (mvT hZ (hw _ (List.mem_of_getElem? (i := 17) rfl))) (by decide) (backOf (W := 1) (rm3 l Z a0 hw [] r st h0 n0 Z0 F_s) hZ (hw _ (List.mem_of_getElem? (i := 19) rfl)) (hw _ (List.mem_of_getElem? (i := 6) rfl)) (by decide) (by decide)) qa6 qc6 (g := (mkF m 38 #[.val (.int p1), .val (.int ((p1 &&& (2147483647 : Int32)) % (12 : Int32))), .val (.ref r), .val (.int (0 : Int32)), .val (.int (0 : Int32))] [(.ref r), (.int (0 : Int32))])) rfl (by rw [hml]; rfl) (Steps.refl _) (argsL := []) (rest := [(.int (0 : Int32))]) (lenOf pd___I rfl) rfl (by show 2 * 0 + _ ≤ _; exact Nat.le_of_eq rfl) (hb hby at_38) (fun _ _ => ⟨rfl, q5, (by decide : 0 + 0 ≤ _), (by decide : 0 + 0 ≤ _)⟩)
    dsimp only [Pt.U, Pt.locs, Pt.cells, Pt.slots] at X6 l6 y6 z6 st6 hQ6
    subst l6 y6 z6
    obtain ⟨rfl, N6, q6⟩ := hQ6
    refine own_st (fun t k => st6.trans k) ?_
    have N6a := Fr.app N5a N6
    show own_Fin p.tables e below _ (T6.setTop (mkF m 41 #[.val (.int p1), .val (.int ((p1 &&& (2147483647 : Int32)) % (12 : Int32))), .val (.ref r), .val (.int (0 : Int32)), .val (.int (0 : Int32))] [(.int st), (.int (0 : Int32))]))
    refine own_st (fun t k => XS.sipush X6.here hx rfl (hb hby at_41) k) ?_
    show own_Fin p.tables e below _ (T6.setTop (mkF m 44 #[.val (.int p1), .val (.int ((p1 &&& (2147483647 : Int32)) % (12 : Int32))), .val (.ref r), .val (.int (0 : Int32)), .val (.int (0 : Int32))] [(.int (200 : Int32)), (.int st), (.int (0 : Int32))]))
    refine own_st (fun t k => XS.icmpYes X6.here hx rfl (pc0 := 44) (pc' := 51) rfl (hb hby at_44) rfl (XT.ii_ne_t hst) (by decide) (by decide) k) ?_
    show own_Fin p.tables e below _ (T6.setTop (mkF m 51 #[.val (.int p1), .val (.int ((p1 &&& (2147483647 : Int32)) % (12 : Int32))), .val (.ref r), .val (.int (0 : Int32)), .val (.int (0 : Int32))] [(.int (0 : Int32))]))
    refine own_st (fun t k => XS.iconst X6.here hx rfl (hb hby at_51) k) ?_
    show own_Fin p.tables e below _ (T6.setTop (mkF m 52 #[.val (.int p1), .val (.int ((p1 &&& (2147483647 : Int32)) % (12 : Int32))), .val (.ref r), .val (.int (0 : Int32)), .val (.int (0 : Int32))] [(.int (0 : Int32)), (.int (0 : Int32))]))
    refine own_st (fun t k => XS.icmpNo X6.here hx rfl (hb hby at_52) rfl (XT.ii_ne_f (by decide)) k) ?_
    show own_Fin p.tables e below _ (T6.setTop (mkF m 55 #[.val (.int p1), .val (.int ((p1 &&& (2147483647 : Int32)) % (12 : Int32))), .val (.ref r), .val (.int (0 : Int32)), .val (.int (0 : Int32))] []))
    refine own_st (fun t k => XS.iloadN X6.here hx rfl (hb hby at_55) rfl k) ?_
    show own_Fin p.tables e below _ (T6.setTop (mkF m 56 #[.val (.int p1), .val (.int ((p1 &&& (2147483647 : Int32)) % (12 : Int32))), .val (.ref r), .val (.int (0 : Int32)), .val (.int (0 : Int32))] [(.int (0 : Int32))]))
    refine own_st (fun t k => XS.aloadN X6.here hx rfl (hb hby at_56) rfl rfl k) ?_
    show own_Fin p.tables e below _ (T6.setTop (mkF m 57 #[.val (.int p1), .val (.int ((p1 &&& (2147483647 : Int32)) % (12 : Int32))), .val (.ref r), .val (.int (0 : Int32)), .val (.int (0 : Int32))] [(.ref r), (.int (0 : Int32))]))
    obtain ⟨cq7, kq7, qa7, qb7, qc7⟩ := isOf hZ q6 E_r
    obtain ⟨_, _, ⟨T7, L7, k7, n7⟩, -, X7, ⟨Lc7, hQ7, l7, y7, z7⟩, st7⟩ := X6.virtualBack hx (y := (⟨"com/example/tallyhook/tallyhook/model/Reply", "reason", "()Ljava/lang/String;"⟩ : MethodName)) (z := (⟨"com/example/tallyhook/tallyhook/model/Reply", "reason", "()Ljava/lang/String;"⟩ : MethodName)) hown (mvT hZ (hw _ (List.mem_of_getElem? (i := 20) rfl))) (mvT hZ (hw _ (List.mem_of_getElem? (i := 21) rfl))) (notFace_of_selects (args := #[]) (mvT hZ (hw _ (List.mem_of_getElem? (i := 23) rfl)))) (mvT hZ (hw _ (List.mem_of_getElem? (i := 23) rfl))) (mvT hZ (hw _ (List.mem_of_getElem? (i := 22) rfl))) (by decide) (backOf (W := 1) (rm4 l Z a0 hw [] r (.ref y) h0 n0 Z0 F_r rfl) hZ (hw _ (List.mem_of_getElem? (i := 24) rfl)) (hw _ (List.mem_of_getElem? (i := 6) rfl)) (by decide) (by decide)) qa7 qc7 (g := (mkF m 57 #[.val (.int p1), .val (.int ((p1 &&& (2147483647 : Int32)) % (12 : Int32))), .val (.ref r), .val (.int (0 : Int32)), .val (.int (0 : Int32))] [(.ref r), (.int (0 : Int32))])) rfl (by rw [hml]; rfl) (Steps.refl _) (argsL := []) (rest := [(.int (0 : Int32))]) (lenOf pd___Ljava_lang_String_ rfl) rfl (by show 2 * 0 + _ ≤ _; exact Nat.le_of_eq rfl) (hb hby at_57) (fun _ _ => ⟨rfl, q6, (by decide : 0 + 0 ≤ _), (by decide : 0 + 0 ≤ _)⟩)
    dsimp only [Pt.U, Pt.locs, Pt.cells, Pt.slots] at X7 l7 y7 z7 st7 hQ7
    subst l7 y7 z7
    obtain ⟨rfl, N7, q7⟩ := hQ7
    refine own_st (fun t k => st7.trans k) ?_
    have N7a := Fr.app N6a N7
    show own_Fin p.tables e below _ (T7.setTop (mkF m 60 #[.val (.int p1), .val (.int ((p1 &&& (2147483647 : Int32)) % (12 : Int32))), .val (.ref r), .val (.int (0 : Int32)), .val (.int (0 : Int32))] [(.ref y), (.int (0 : Int32))]))
    refine own_st (fun t k => XS.ifnonnullYes X7.here hx rfl (pc0 := 60) (pc' := 67) rfl (hb hby at_60) rfl (by decide) (by decide) k) ?_
    show own_Fin p.tables e below _ (T7.setTop (mkF m 67 #[.val (.int p1), .val (.int ((p1 &&& (2147483647 : Int32)) % (12 : Int32))), .val (.ref r), .val (.int (0 : Int32)), .val (.int (0 : Int32))] [(.int (0 : Int32))]))
    refine own_st (fun t k => XS.iconst X7.here hx rfl (hb hby at_67) k) ?_
    show own_Fin p.tables e below _ (T7.setTop (mkF m 68 #[.val (.int p1), .val (.int ((p1 &&& (2147483647 : Int32)) % (12 : Int32))), .val (.ref r), .val (.int (0 : Int32)), .val (.int (0 : Int32))] [(.int (0 : Int32)), (.int (0 : Int32))]))
    refine own_st (fun t k => XS.icmpNo X7.here hx rfl (hb hby at_68) rfl (XT.ii_ne_f (by decide)) k) ?_
    show own_Fin p.tables e below _ (T7.setTop (mkF m 71 #[.val (.int p1), .val (.int ((p1 &&& (2147483647 : Int32)) % (12 : Int32))), .val (.ref r), .val (.int (0 : Int32)), .val (.int (0 : Int32))] []))
    refine own_st (fun t k => XS.iconst X7.here hx rfl (hb hby at_71) k) ?_
    show own_Fin p.tables e below _ (T7.setTop (mkF m 72 #[.val (.int p1), .val (.int ((p1 &&& (2147483647 : Int32)) % (12 : Int32))), .val (.ref r), .val (.int (0 : Int32)), .val (.int (0 : Int32))] [(.int (1 : Int32))]))
    refine own_st (fun t k => XS.goto X7.here hx rfl (pc0 := 72) (pc' := 76) rfl (hb hby at_72) (by decide) (by decide) k) ?_
    show own_Fin p.tables e below _ (T7.setTop (mkF m 76 #[.val (.int p1), .val (.int ((p1 &&& (2147483647 : Int32)) % (12 : Int32))), .val (.ref r), .val (.int (0 : Int32)), .val (.int (0 : Int32))] [(.int (1 : Int32))]))
    obtain ⟨fs, hr, hrun, hended, hW, hsame⟩ := X7.leave (v := (some (.int (1 : Int32)))) (fun h => by rw [Bd.returns] at h; cases h)
    refine ⟨_, _, retN X7 hx (t := .boolean) Bd.returns (by simp) (hb hby at_76) hr, hrun, hended, _, _, rfl, ?_, ⟨_, rfl⟩, hW, hsame.mono (by decide) (by decide)⟩
    show Q0 Z p1 aKEPT aREDELIVERED aBAD_REQUEST aBAD_JSON aMISSING_SIGN aBAD_SIGN aEXPIRED aUNKNOWN_APP aNOT_FOUND aMETHOD aTOO_LARGE aINTERNAL yBAD_REQUEST yBAD_JSON yMISSING_SIGN yBAD_SIGN yEXPIRED yUNKNOWN_APP yNOT_FOUND yMETHOD yTOO_LARGE yINTERNAL h0 n0 _ T7.heap _
    rw [q7]
    exact ⟨rfl, N7a⟩
set_option maxRecDepth 65536 in
set_option maxHeartbeats 40000000 in
theorem comes_1 {Post : Tables → Env → Array Value → State → Outcome → State → Prop} (hpost : ∀ tb e args s v u, (limb_1_1.after args s (.returned v) u = true ∧ limb_1_2.after args s (.returned v) u = true ∧ True) → FrameEnd s (.returned v) u (Jvm.fieldLocs frame_1_writes args s ++ Jvm.arrayLocs frame_1_arrays args s ++ Jvm.staticLocs frame_1_statics s) 0 0 → Post tb e args s (.returned v) u) :
    ArmFor flags0 classFile x code maxLocals ret World_1 tables_1 room_1 Calls_1 rest_1 Pre_1 Post := by
  intro l hfl _ _ p e ha hc hk s m args below hf hA hF happ hP
  obtain ⟨hcalls, hrest, hpre⟩ := hP
  obtain ⟨-, -, -, hnamed, -, -, -, hat⟩ := (Spec.applies_iff hf).mp happ
  obtain ⟨hg, hn⟩ := and_e (Cond.before_iff.mp (show (Jvm.Cond.and given_1 narrow_1).before args s = true from hpre))
  obtain ⟨g0, gr0⟩ := and_e hg
  obtain ⟨w0, rfl⟩ : ∃ w0 : Value, args = #[w0] := by
    have hs : args.size = 1 := by simpa [Cond.value, given_1] using g0
    obtain ⟨L⟩ := args
    match L, hs with
    | [w0], _ => exact ⟨w0, rfl⟩
  have hw := fun d (hd : d ∈ tables_1) => atoms_spec (ws := Jvm.Cond.code x code maxLocals ret :: tables_1) hat d (List.mem_cons_of_mem _ hd)
  have hfit : Fit s := fun {y c} hc i hi => by
    obtain ⟨ha, rfl⟩ := Array.getElem?_eq_some_iff.mp hc
    have q := List.all_eq_true.mp ((Array.all_eq_true_iff_forall_mem.mp hF) _ (Array.getElem_mem ha)) i (List.mem_range.mpr hi)
    simpa [Array.getElem?_eq_getElem hi] using q
  obtain ⟨i0, ei0⟩ := is_v gr0
  obtain rfl : w0 = (.int i0) := Option.some.inj ei0
  obtain ⟨x_KEPT, hn_r0⟩ := and_e hn
  obtain ⟨s_KEPT, hn_r1⟩ := and_e hn_r0
  obtain ⟨r_KEPT, hn_r2⟩ := and_e hn_r1
  obtain ⟨x_BAD_JSON, hn_r3⟩ := and_e hn_r2
  obtain ⟨s_BAD_JSON, hn_r4⟩ := and_e hn_r3
  obtain ⟨r_BAD_JSON, hn_r5⟩ := and_e hn_r4
  obtain ⟨x_BAD_REQUEST, hn_r6⟩ := and_e hn_r5
  obtain ⟨s_BAD_REQUEST, hn_r7⟩ := and_e hn_r6
  obtain ⟨r_BAD_REQUEST, hn_r8⟩ := and_e hn_r7
  obtain ⟨x_UNKNOWN_APP, hn_r9⟩ := and_e hn_r8
  obtain ⟨s_UNKNOWN_APP, hn_r10⟩ := and_e hn_r9
  obtain ⟨r_UNKNOWN_APP, hn_r11⟩ := and_e hn_r10
  obtain ⟨x_INTERNAL, hn_r12⟩ := and_e hn_r11
  obtain ⟨s_INTERNAL, hn_r13⟩ := and_e hn_r12
  obtain ⟨r_INTERNAL, hn_r14⟩ := and_e hn_r13
  obtain ⟨x_MISSING_SIGN, hn_r15⟩ := and_e hn_r14
  obtain ⟨s_MISSING_SIGN, hn_r16⟩ := and_e hn_r15
  obtain ⟨r_MISSING_SIGN, hn_r17⟩ := and_e hn_r16
  obtain ⟨x_NOT_FOUND, hn_r18⟩ := and_e hn_r17
  obtain ⟨s_NOT_FOUND, hn_r19⟩ := and_e hn_r18
  obtain ⟨r_NOT_FOUND, hn_r20⟩ := and_e hn_r19
  obtain ⟨x_REDELIVERED, hn_r21⟩ := and_e hn_r20
  obtain ⟨s_REDELIVERED, hn_r22⟩ := and_e hn_r21
  obtain ⟨r_REDELIVERED, hn_r23⟩ := and_e hn_r22
  obtain ⟨x_TOO_LARGE, hn_r24⟩ := and_e hn_r23
  obtain ⟨s_TOO_LARGE, hn_r25⟩ := and_e hn_r24
  obtain ⟨r_TOO_LARGE, hn_r26⟩ := and_e hn_r25
  obtain ⟨x_METHOD, hn_r27⟩ := and_e hn_r26
  obtain ⟨s_METHOD, hn_r28⟩ := and_e hn_r27
  obtain ⟨r_METHOD, hn_r29⟩ := and_e hn_r28
  obtain ⟨x_EXPIRED, hn_r30⟩ := and_e hn_r29
  obtain ⟨s_EXPIRED, hn_r31⟩ := and_e hn_r30
  obtain ⟨r_EXPIRED, hn_r32⟩ := and_e hn_r31
  obtain ⟨x_BAD_SIGN, hn_r33⟩ := and_e hn_r32
  obtain ⟨s_BAD_SIGN, r_BAD_SIGN⟩ := and_e hn_r33
  obtain ⟨aKEPT, ev_KEPT⟩ := exa_v x_KEPT
  have R_KEPT : own_R s s.heap "KEPT" aKEPT 200 .null := ⟨Sta.start ev_KEPT (Or.inr ⟨(hw _ (List.mem_of_getElem? (i := 6) rfl)), (hw _ (List.mem_of_getElem? (i := 7) rfl))⟩), Exa.start ev_KEPT x_KEPT, own_fi ev_KEPT s_KEPT, own_fn ev_KEPT r_KEPT⟩
  obtain ⟨aREDELIVERED, ev_REDELIVERED⟩ := exa_v x_REDELIVERED
  have R_REDELIVERED : own_R s s.heap "REDELIVERED" aREDELIVERED 200 .null := ⟨Sta.start ev_REDELIVERED (Or.inr ⟨(hw _ (List.mem_of_getElem? (i := 6) rfl)), (hw _ (List.mem_of_getElem? (i := 40) rfl))⟩), Exa.start ev_REDELIVERED x_REDELIVERED, own_fi ev_REDELIVERED s_REDELIVERED, own_fn ev_REDELIVERED r_REDELIVERED⟩
  obtain ⟨aBAD_REQUEST, ev_BAD_REQUEST⟩ := exa_v x_BAD_REQUEST
  obtain ⟨yBAD_REQUEST, z_BAD_REQUEST⟩ := own_fx ev_BAD_REQUEST r_BAD_REQUEST
  have R_BAD_REQUEST : own_R s s.heap "BAD_REQUEST" aBAD_REQUEST 400 (.ref yBAD_REQUEST) := ⟨Sta.start ev_BAD_REQUEST (Or.inr ⟨(hw _ (List.mem_of_getElem? (i := 6) rfl)), (hw _ (List.mem_of_getElem? (i := 30) rfl))⟩), Exa.start ev_BAD_REQUEST x_BAD_REQUEST, own_fi ev_BAD_REQUEST s_BAD_REQUEST, z_BAD_REQUEST⟩
  obtain ⟨aBAD_JSON, ev_BAD_JSON⟩ := exa_v x_BAD_JSON
  obtain ⟨yBAD_JSON, z_BAD_JSON⟩ := own_fx ev_BAD_JSON r_BAD_JSON
  have R_BAD_JSON : own_R s s.heap "BAD_JSON" aBAD_JSON 400 (.ref yBAD_JSON) := ⟨Sta.start ev_BAD_JSON (Or.inr ⟨(hw _ (List.mem_of_getElem? (i := 6) rfl)), (hw _ (List.mem_of_getElem? (i := 28) rfl))⟩), Exa.start ev_BAD_JSON x_BAD_JSON, own_fi ev_BAD_JSON s_BAD_JSON, z_BAD_JSON⟩
  obtain ⟨aMISSING_SIGN, ev_MISSING_SIGN⟩ := exa_v x_MISSING_SIGN
  obtain ⟨yMISSING_SIGN, z_MISSING_SIGN⟩ := own_fx ev_MISSING_SIGN r_MISSING_SIGN
  have R_MISSING_SIGN : own_R s s.heap "MISSING_SIGN" aMISSING_SIGN 401 (.ref yMISSING_SIGN) := ⟨Sta.start ev_MISSING_SIGN (Or.inr ⟨(hw _ (List.mem_of_getElem? (i := 6) rfl)), (hw _ (List.mem_of_getElem? (i := 36) rfl))⟩), Exa.start ev_MISSING_SIGN x_MISSING_SIGN, own_fi ev_MISSING_SIGN s_MISSING_SIGN, z_MISSING_SIGN⟩
  obtain ⟨aBAD_SIGN, ev_BAD_SIGN⟩ := exa_v x_BAD_SIGN
  obtain ⟨yBAD_SIGN, z_BAD_SIGN⟩ := own_fx ev_BAD_SIGN r_BAD_SIGN
  have R_BAD_SIGN : own_R s s.heap "BAD_SIGN" aBAD_SIGN 401 (.ref yBAD_SIGN) := ⟨Sta.start ev_BAD_SIGN (Or.inr ⟨(hw _ (List.mem_of_getElem? (i := 6) rfl)), (hw _ (List.mem_of_getElem? (i := 48) rfl))⟩), Exa.start ev_BAD_SIGN x_BAD_SIGN, own_fi ev_BAD_SIGN s_BAD_SIGN, z_BAD_SIGN⟩
  obtain ⟨aEXPIRED, ev_EXPIRED⟩ := exa_v x_EXPIRED
  obtain ⟨yEXPIRED, z_EXPIRED⟩ := own_fx ev_EXPIRED r_EXPIRED
  have R_EXPIRED : own_R s s.heap "EXPIRED" aEXPIRED 401 (.ref yEXPIRED) := ⟨Sta.start ev_EXPIRED (Or.inr ⟨(hw _ (List.mem_of_getElem? (i := 6) rfl)), (hw _ (List.mem_of_getElem? (i := 46) rfl))⟩), Exa.start ev_EXPIRED x_EXPIRED, own_fi ev_EXPIRED s_EXPIRED, z_EXPIRED⟩
  obtain ⟨aUNKNOWN_APP, ev_UNKNOWN_APP⟩ := exa_v x_UNKNOWN_APP
  obtain ⟨yUNKNOWN_APP, z_UNKNOWN_APP⟩ := own_fx ev_UNKNOWN_APP r_UNKNOWN_APP
  have R_UNKNOWN_APP : own_R s s.heap "UNKNOWN_APP" aUNKNOWN_APP 401 (.ref yUNKNOWN_APP) := ⟨Sta.start ev_UNKNOWN_APP (Or.inr ⟨(hw _ (List.mem_of_getElem? (i := 6) rfl)), (hw _ (List.mem_of_getElem? (i := 32) rfl))⟩), Exa.start ev_UNKNOWN_APP x_UNKNOWN_APP, own_fi ev_UNKNOWN_APP s_UNKNOWN_APP, z_UNKNOWN_APP⟩
  obtain ⟨aNOT_FOUND, ev_NOT_FOUND⟩ := exa_v x_NOT_FOUND
  obtain ⟨yNOT_FOUND, z_NOT_FOUND⟩ := own_fx ev_NOT_FOUND r_NOT_FOUND
  have R_NOT_FOUND : own_R s s.heap "NOT_FOUND" aNOT_FOUND 404 (.ref yNOT_FOUND) := ⟨Sta.start ev_NOT_FOUND (Or.inr ⟨(hw _ (List.mem_of_getElem? (i := 6) rfl)), (hw _ (List.mem_of_getElem? (i := 38) rfl))⟩), Exa.start ev_NOT_FOUND x_NOT_FOUND, own_fi ev_NOT_FOUND s_NOT_FOUND, z_NOT_FOUND⟩
  obtain ⟨aMETHOD, ev_METHOD⟩ := exa_v x_METHOD
  obtain ⟨yMETHOD, z_METHOD⟩ := own_fx ev_METHOD r_METHOD
  have R_METHOD : own_R s s.heap "METHOD" aMETHOD 405 (.ref yMETHOD) := ⟨Sta.start ev_METHOD (Or.inr ⟨(hw _ (List.mem_of_getElem? (i := 6) rfl)), (hw _ (List.mem_of_getElem? (i := 44) rfl))⟩), Exa.start ev_METHOD x_METHOD, own_fi ev_METHOD s_METHOD, z_METHOD⟩
  obtain ⟨aTOO_LARGE, ev_TOO_LARGE⟩ := exa_v x_TOO_LARGE
  obtain ⟨yTOO_LARGE, z_TOO_LARGE⟩ := own_fx ev_TOO_LARGE r_TOO_LARGE
  have R_TOO_LARGE : own_R s s.heap "TOO_LARGE" aTOO_LARGE 413 (.ref yTOO_LARGE) := ⟨Sta.start ev_TOO_LARGE (Or.inr ⟨(hw _ (List.mem_of_getElem? (i := 6) rfl)), (hw _ (List.mem_of_getElem? (i := 42) rfl))⟩), Exa.start ev_TOO_LARGE x_TOO_LARGE, own_fi ev_TOO_LARGE s_TOO_LARGE, z_TOO_LARGE⟩
  obtain ⟨aINTERNAL, ev_INTERNAL⟩ := exa_v x_INTERNAL
  obtain ⟨yINTERNAL, z_INTERNAL⟩ := own_fx ev_INTERNAL r_INTERNAL
  have R_INTERNAL : own_R s s.heap "INTERNAL" aINTERNAL 500 (.ref yINTERNAL) := ⟨Sta.start ev_INTERNAL (Or.inr ⟨(hw _ (List.mem_of_getElem? (i := 6) rfl)), (hw _ (List.mem_of_getElem? (i := 34) rfl))⟩), Exa.start ev_INTERNAL x_INTERNAL, own_fi ev_INTERNAL s_INTERNAL, z_INTERNAL⟩
  obtain ⟨n, o, h1, h2, h3, _, L, rfl, ⟨rfl, N⟩, hq⟩ := rm0 l s _ hw tables_1 i0 aKEPT aREDELIVERED aBAD_REQUEST aBAD_JSON aMISSING_SIGN aBAD_SIGN aEXPIRED aUNKNOWN_APP aNOT_FOUND aMETHOD aTOO_LARGE aINTERNAL yBAD_REQUEST yBAD_JSON yMISSING_SIGN yBAD_SIGN yEXPIRED yUNKNOWN_APP yNOT_FOUND yMETHOD yTOO_LARGE yINTERNAL s.heap s.heap.size (Nat.le_refl _) R_KEPT R_REDELIVERED R_BAD_REQUEST R_BAD_JSON R_MISSING_SIGN R_BAD_SIGN R_EXPIRED R_UNKNOWN_APP R_NOT_FOUND R_METHOD R_TOO_LARGE R_INTERNAL p e ha hc hk s m _ below hf ((Spec.applies_iff_loose hf).mp happ).1 ⟨rfl, State.Warmed39.refl s, rfl⟩ trivial
  refine ⟨n, _, h1, h2, h3, hpost _ _ _ _ _ _ ⟨Cond.after_iff.mpr rfl, Cond.after_iff.mpr (eq_i res_at (Term.int_eval (1)) rfl), trivial⟩ ⟨hq.1, hq.2.1, (hq.2.2.sift fun y hy => Or.inr (N y hy)).mono (by decide) (by decide)⟩⟩
theorem main_1_1 : Claimed_1_1 := comes_1 fun _ _ _ _ _ _ h hF => ⟨h.1, hF⟩
theorem main_1_2 : Claimed_1_2 := comes_1 fun _ _ _ _ _ _ h hF => ⟨h.2.1, hF⟩
end Jvm.Pilot.@@N@@
namespace Jvm.Pilot.@@N@@
open Jvm Jvm.ClassFile Sem Op Lib Jvm.Free Jvm.Stand Jvm.Pilot.@@N@@.Jvm.D
/-! MADE BY PROGRAM (witnessworld.py) out of the Statement's table words and the real class files: 15 classes; the members and pool entries that the words name. The judged class is class 1, her method 2. -/
namespace start1
open Jvm.ClassFile
def u (s : String) : CpInfo := .utf8 (stringToUtf16 s)
/-- a pool by its gaps: so many unusable entries, then the entry; so many at the end -/
def gap : Nat → List CpInfo → List CpInfo
  | 0, r => r
  | n + 1, r => .unusable :: gap n r
def poolList (es : List (Nat × CpInfo)) (last : Nat) : List CpInfo := es.foldr (fun e r => gap e.1 (e.2 :: r)) (gap last [])
def pool (es : List (Nat × CpInfo)) (last : Nat) : Array CpInfo := ⟨poolList es last⟩
def fileOf (pool : Array CpInfo) (this : Nat) (attrs : Array Attribute := #[]) (ms : Array MethodInfo := #[]) (fl : Nat := 33) (sup : Nat := 0) (ifs : Array Nat := #[]) (fds : Array FieldInfo := #[]) : ClassFile where
  minorVersion := 0
  majorVersion := 65
  constantPool := pool
  accessFlags := fl
  thisClass := this
  superClass := sup
  interfaces := ifs
  fields := fds
  methods := ms
  attributes := attrs
def plain (name : String) (sup : Option ClassId) : Class where
  name := name
  kind := .ordinary
  loader := none
  accessFlags := 33
  super := sup
  interfaces := #[]
  cf := none
  fields := #[]
  methods := #[]
  instanceTypes := #[]
  staticTypes := #[]
  resolved := #[]
  callSites := []
  init := .initialized
  statics := none
  mirror := none

def pool0 : Array CpInfo := pool [(5, u "<init>"), (0, u "()V"), (1, .class_ 10), (1, u "java/lang/Object")] 113

def k0m0 : Method := { name := "<init>", desc := "()V", sig := { parameters := [], returnType := none }, accessFlags := 1, code := none }
/-- java/lang/Object -/
def k0 : Class := { plain "java/lang/Object" none with
  accessFlags := 33
  interfaces := #[]
  cf := some (fileOf pool0 8 #[] #[{ accessFlags := 1, nameIndex := 5, descriptorIndex := 6, attributes := #[] }] 33 0 #[] #[])
  fields := #[]
  methods := #[k0m0]
  instanceTypes := #[]
  staticTypes := #[]
  resolved := Array.replicate 124 none
  statics := none }

def pool1 : Array CpInfo := pool [(2, .class_ 4), (1, u "java/lang/Object"), (0, u "<init>"), (0, u "()V"), (0, .fieldref 8 9), (0, .class_ 10), (0, .nameAndType 11 12), (0, u "com/example/tallyhook/tallyhook/model/Reply"), (0, u "KEPT"), (0, u "Lcom/example/tallyhook/tallyhook/model/Reply;"), (0, .fieldref 8 14), (0, .nameAndType 15 12), (0, u "REDELIVERED"), (0, .fieldref 8 17), (0, .nameAndType 18 12), (0, u "BAD_REQUEST"), (0, .fieldref 8 20), (0, .nameAndType 21 12), (0, u "BAD_JSON"), (0, .fieldref 8 23), (0, .nameAndType 24 12), (0, u "MISSING_SIGN"), (0, .fieldref 8 26), (0, .nameAndType 27 12), (0, u "BAD_SIGN"), (0, .fieldref 8 29), (0, .nameAndType 30 12), (0, u "EXPIRED"), (0, .fieldref 8 32), (0, .nameAndType 33 12), (0, u "UNKNOWN_APP"), (0, .fieldref 8 35), (0, .nameAndType 36 12), (0, u "NOT_FOUND"), (0, .fieldref 8 38), (0, .nameAndType 39 12), (0, u "METHOD"), (0, .fieldref 8 41), (0, .nameAndType 42 12), (0, u "TOO_LARGE"), (0, .fieldref 8 44), (0, .nameAndType 45 12), (0, u "INTERNAL"), (0, .integer 2147483647), (0, .methodref 48 49), (0, .class_ 50), (0, .nameAndType 51 52), (0, u "com/example/tallyhook/tallyhook/model/ReplyAcknowledgesPinLaw"), (0, u "pick"), (0, u "(I)Lcom/example/tallyhook/tallyhook/model/Reply;"), (0, .methodref 8 54), (0, .nameAndType 55 56), (0, u "acknowledges"), (0, u "()Z"), (0, .methodref 8 58), (0, .nameAndType 59 60), (0, u "status"), (0, u "()I"), (0, .methodref 8 62), (0, .nameAndType 63 64), (0, u "reason"), (0, u "()Ljava/lang/String;"), (3, u "law"), (0, u "(I)Z")] 2

def k1m0 : Method := { name := "<init>", desc := "()V", sig := { parameters := [], returnType := none }, accessFlags := 2, code := none }
def k1c1 : Code := { maxStack := 2, maxLocals := 1, code := method_2_code, exceptionTable := #[], attributes := #[] }
def k1m1 : Method := { name := "pick", desc := "(I)Lcom/example/tallyhook/tallyhook/model/Reply;", sig := { parameters := [.int], returnType := some (.object "com/example/tallyhook/tallyhook/model/Reply") }, accessFlags := 10, code := some k1c1 }
def k1c2 : Code := { maxStack := 3, maxLocals := 5, code := code, exceptionTable := #[], attributes := #[] }
def k1m2 : Method := { name := "law", desc := "(I)Z", sig := { parameters := [.int], returnType := some .boolean }, accessFlags := 9, code := some k1c2 }
/-- com/example/tallyhook/tallyhook/model/ReplyAcknowledgesPinLaw -/
def k1 : Class := { plain "com/example/tallyhook/tallyhook/model/ReplyAcknowledgesPinLaw" (some 0) with
  accessFlags := 49
  interfaces := #[]
  cf := some (fileOf pool1 48 #[] #[{ accessFlags := 2, nameIndex := 5, descriptorIndex := 6, attributes := #[] }, { accessFlags := 10, nameIndex := 51, descriptorIndex := 52, attributes := #[] }, { accessFlags := 9, nameIndex := 68, descriptorIndex := 69, attributes := #[] }] 49 2 #[] #[])
  fields := #[]
  methods := #[k1m0, k1m1, k1m2]
  instanceTypes := #[]
  staticTypes := #[]
  resolved := Array.replicate 72 none
  statics := none }

def pool2 : Array CpInfo := pool [(1, .class_ 2), (0, u "java/lang/constant/Constable"), (0, .class_ 4), (0, u "java/lang/Object")] 6

/-- java/lang/constant/Constable -/
def k2 : Class := { plain "java/lang/constant/Constable" (some 0) with
  accessFlags := 1537
  interfaces := #[]
  cf := some (fileOf pool2 1 #[] #[] 1537 3 #[] #[])
  fields := #[]
  methods := #[]
  instanceTypes := #[]
  staticTypes := #[]
  resolved := Array.replicate 11 none
  statics := none }

def pool3 : Array CpInfo := pool [(1, .class_ 2), (0, u "java/lang/Comparable"), (0, .class_ 4), (0, u "java/lang/Object")] 7

/-- java/lang/Comparable -/
def k3 : Class := { plain "java/lang/Comparable" (some 0) with
  accessFlags := 1537
  interfaces := #[]
  cf := some (fileOf pool3 1 #[] #[] 1537 3 #[] #[])
  fields := #[]
  methods := #[]
  instanceTypes := #[]
  staticTypes := #[]
  resolved := Array.replicate 12 none
  statics := none }

def pool4 : Array CpInfo := pool [(1, .class_ 2), (0, u "java/io/Serializable"), (0, .class_ 4), (0, u "java/lang/Object")] 2

/-- java/io/Serializable -/
def k4 : Class := { plain "java/io/Serializable" (some 0) with
  accessFlags := 1537
  interfaces := #[]
  cf := some (fileOf pool4 1 #[] #[] 1537 3 #[] #[])
  fields := #[]
  methods := #[]
  instanceTypes := #[]
  staticTypes := #[]
  resolved := Array.replicate 7 none
  statics := none }

def pool5 : Array CpInfo := pool [(2, .class_ 4), (1, u "java/lang/Enum"), (0, u "name"), (0, u "Ljava/lang/String;"), (2, u "ordinal"), (0, u "I"), (1, .class_ 14), (1, u "java/lang/Object"), (4, u "hash"), (86, .class_ 108), (1, u "java/lang/Enum$EnumDesc"), (2, .class_ 112), (0, u "java/lang/constant/Constable"), (0, .class_ 114), (0, u "java/lang/Comparable"), (0, .class_ 116), (0, u "java/io/Serializable")] 87

/-- java/lang/Enum -/
def k5 : Class := { plain "java/lang/Enum" (some 0) with
  accessFlags := 1057
  interfaces := #[2, 3, 4]
  cf := some (fileOf pool5 2 #[.nestMembers #[106]] #[] 1057 12 #[111, 113, 115] #[{ accessFlags := 18, nameIndex := 5, descriptorIndex := 6, attributes := #[] }, { accessFlags := 18, nameIndex := 9, descriptorIndex := 10, attributes := #[] }, { accessFlags := 2, nameIndex := 19, descriptorIndex := 10, attributes := #[] }])
  fields := #[{ name := "name", type := (.object "java/lang/String"), accessFlags := 18, slot := 0, constantValue := 0 }, { name := "ordinal", type := .int, accessFlags := 18, slot := 1, constantValue := 0 }, { name := "hash", type := .int, accessFlags := 2, slot := 2, constantValue := 0 }]
  methods := #[]
  instanceTypes := #[(.object "java/lang/String"), .int, .int]
  staticTypes := #[]
  resolved := Array.replicate 204 none
  statics := none }

def pool6 : Array CpInfo := pool [(1, .class_ 2), (0, u "com/example/tallyhook/tallyhook/model/Reply"), (2, u "KEPT"), (0, u "Lcom/example/tallyhook/tallyhook/model/Reply;"), (2, u "REDELIVERED"), (2, u "BAD_REQUEST"), (2, u "BAD_JSON"), (2, u "MISSING_SIGN"), (2, u "BAD_SIGN"), (2, u "EXPIRED"), (2, u "UNKNOWN_APP"), (2, u "NOT_FOUND"), (2, u "METHOD"), (2, u "TOO_LARGE"), (2, u "INTERNAL"), (2, u "$VALUES"), (0, u "[Lcom/example/tallyhook/tallyhook/model/Reply;"), (6, .class_ 52), (1, u "java/lang/Enum"), (6, .fieldref 1 60), (0, .nameAndType 61 62), (0, u "status"), (0, u "I"), (0, .fieldref 1 64), (0, .nameAndType 65 66), (0, u "reason"), (0, u "Ljava/lang/String;"), (46, u "()I"), (0, u "()Ljava/lang/String;"), (0, u "acknowledges"), (0, u "()Z")] 6

def k6c0 : Code := { maxStack := 1, maxLocals := 1, code := prog_55_method_4_code, exceptionTable := #[], attributes := #[] }
def k6m0 : Method := { name := "status", desc := "()I", sig := { parameters := [], returnType := some .int }, accessFlags := 1, code := some k6c0 }
def k6c1 : Code := { maxStack := 1, maxLocals := 1, code := prog_55_method_5_code, exceptionTable := #[], attributes := #[] }
def k6m1 : Method := { name := "reason", desc := "()Ljava/lang/String;", sig := { parameters := [], returnType := some (.object "java/lang/String") }, accessFlags := 1, code := some k6c1 }
def k6c2 : Code := { maxStack := 2, maxLocals := 1, code := prog_55_method_6_code, exceptionTable := #[], attributes := #[] }
def k6m2 : Method := { name := "acknowledges", desc := "()Z", sig := { parameters := [], returnType := some .boolean }, accessFlags := 1, code := some k6c2 }
/-- com/example/tallyhook/tallyhook/model/Reply -/
def k6 : Class := { plain "com/example/tallyhook/tallyhook/model/Reply" (some 5) with
  accessFlags := 16433
  interfaces := #[]
  cf := some (fileOf pool6 1 #[] #[{ accessFlags := 1, nameIndex := 61, descriptorIndex := 113, attributes := #[] }, { accessFlags := 1, nameIndex := 65, descriptorIndex := 114, attributes := #[] }, { accessFlags := 1, nameIndex := 115, descriptorIndex := 116, attributes := #[] }] 16433 50 #[] #[{ accessFlags := 16409, nameIndex := 5, descriptorIndex := 6, attributes := #[] }, { accessFlags := 16409, nameIndex := 9, descriptorIndex := 6, attributes := #[] }, { accessFlags := 16409, nameIndex := 12, descriptorIndex := 6, attributes := #[] }, { accessFlags := 16409, nameIndex := 15, descriptorIndex := 6, attributes := #[] }, { accessFlags := 16409, nameIndex := 18, descriptorIndex := 6, attributes := #[] }, { accessFlags := 16409, nameIndex := 21, descriptorIndex := 6, attributes := #[] }, { accessFlags := 16409, nameIndex := 24, descriptorIndex := 6, attributes := #[] }, { accessFlags := 16409, nameIndex := 27, descriptorIndex := 6, attributes := #[] }, { accessFlags := 16409, nameIndex := 30, descriptorIndex := 6, attributes := #[] }, { accessFlags := 16409, nameIndex := 33, descriptorIndex := 6, attributes := #[] }, { accessFlags := 16409, nameIndex := 36, descriptorIndex := 6, attributes := #[] }, { accessFlags := 16409, nameIndex := 39, descriptorIndex := 6, attributes := #[] }, { accessFlags := 18, nameIndex := 61, descriptorIndex := 62, attributes := #[] }, { accessFlags := 18, nameIndex := 65, descriptorIndex := 66, attributes := #[] }, { accessFlags := 4122, nameIndex := 42, descriptorIndex := 43, attributes := #[] }])
  fields := #[{ name := "KEPT", type := (.object "com/example/tallyhook/tallyhook/model/Reply"), accessFlags := 16409, slot := 0, constantValue := 0 }, { name := "REDELIVERED", type := (.object "com/example/tallyhook/tallyhook/model/Reply"), accessFlags := 16409, slot := 1, constantValue := 0 }, { name := "BAD_REQUEST", type := (.object "com/example/tallyhook/tallyhook/model/Reply"), accessFlags := 16409, slot := 2, constantValue := 0 }, { name := "BAD_JSON", type := (.object "com/example/tallyhook/tallyhook/model/Reply"), accessFlags := 16409, slot := 3, constantValue := 0 }, { name := "MISSING_SIGN", type := (.object "com/example/tallyhook/tallyhook/model/Reply"), accessFlags := 16409, slot := 4, constantValue := 0 }, { name := "BAD_SIGN", type := (.object "com/example/tallyhook/tallyhook/model/Reply"), accessFlags := 16409, slot := 5, constantValue := 0 }, { name := "EXPIRED", type := (.object "com/example/tallyhook/tallyhook/model/Reply"), accessFlags := 16409, slot := 6, constantValue := 0 }, { name := "UNKNOWN_APP", type := (.object "com/example/tallyhook/tallyhook/model/Reply"), accessFlags := 16409, slot := 7, constantValue := 0 }, { name := "NOT_FOUND", type := (.object "com/example/tallyhook/tallyhook/model/Reply"), accessFlags := 16409, slot := 8, constantValue := 0 }, { name := "METHOD", type := (.object "com/example/tallyhook/tallyhook/model/Reply"), accessFlags := 16409, slot := 9, constantValue := 0 }, { name := "TOO_LARGE", type := (.object "com/example/tallyhook/tallyhook/model/Reply"), accessFlags := 16409, slot := 10, constantValue := 0 }, { name := "INTERNAL", type := (.object "com/example/tallyhook/tallyhook/model/Reply"), accessFlags := 16409, slot := 11, constantValue := 0 }, { name := "status", type := .int, accessFlags := 18, slot := 3, constantValue := 0 }, { name := "reason", type := (.object "java/lang/String"), accessFlags := 18, slot := 4, constantValue := 0 }, { name := "$VALUES", type := (.array (.object "com/example/tallyhook/tallyhook/model/Reply")), accessFlags := 4122, slot := 12, constantValue := 0 }]
  methods := #[k6m0, k6m1, k6m2]
  instanceTypes := #[(.object "java/lang/String"), .int, .int, .int, (.object "java/lang/String")]
  staticTypes := #[(.object "com/example/tallyhook/tallyhook/model/Reply"), (.object "com/example/tallyhook/tallyhook/model/Reply"), (.object "com/example/tallyhook/tallyhook/model/Reply"), (.object "com/example/tallyhook/tallyhook/model/Reply"), (.object "com/example/tallyhook/tallyhook/model/Reply"), (.object "com/example/tallyhook/tallyhook/model/Reply"), (.object "com/example/tallyhook/tallyhook/model/Reply"), (.object "com/example/tallyhook/tallyhook/model/Reply"), (.object "com/example/tallyhook/tallyhook/model/Reply"), (.object "com/example/tallyhook/tallyhook/model/Reply"), (.object "com/example/tallyhook/tallyhook/model/Reply"), (.object "com/example/tallyhook/tallyhook/model/Reply"), (.array (.object "com/example/tallyhook/tallyhook/model/Reply"))]
  resolved := Array.replicate 123 none
  statics := some 0 }

def pool7 : Array CpInfo := pool [(2, .class_ 4), (1, u "java/lang/CharSequence"), (42, .class_ 48), (0, u "java/lang/CharSequence$1CodePointIterator"), (10, .class_ 60), (0, u "java/lang/CharSequence$1CharIterator"), (5, .class_ 67), (0, u "java/lang/Object")] 63

/-- java/lang/CharSequence -/
def k7 : Class := { plain "java/lang/CharSequence" (some 0) with
  accessFlags := 1537
  interfaces := #[]
  cf := some (fileOf pool7 2 #[.nestMembers #[47, 59]] #[] 1537 66 #[] #[])
  fields := #[]
  methods := #[]
  instanceTypes := #[]
  staticTypes := #[]
  resolved := Array.replicate 131 none
  statics := none }

def pool8 : Array CpInfo := pool [(1, .class_ 2), (0, u "java/lang/constant/ConstantDesc"), (0, .class_ 4), (0, u "java/lang/Object")] 32

/-- java/lang/constant/ConstantDesc -/
def k8 : Class := { plain "java/lang/constant/ConstantDesc" (some 0) with
  accessFlags := 1537
  interfaces := #[]
  cf := some (fileOf pool8 1 #[] #[] 1537 3 #[] #[])
  fields := #[]
  methods := #[]
  instanceTypes := #[]
  staticTypes := #[]
  resolved := Array.replicate 37 none
  statics := none }

def pool9 : Array CpInfo := pool [(2, .class_ 4), (1, u "java/lang/Object"), (0, u "<init>"), (0, u "()V"), (3, .class_ 12), (1, u "java/lang/String"), (0, u "value"), (0, u "[B"), (2, u "coder"), (0, u "B"), (2, u "hash"), (0, u "I"), (2, u "hashIsZero"), (0, u "Z"), (13, u "COMPACT_STRINGS"), (534, .class_ 576), (0, u "java/lang/CharSequence"), (22, u "CASE_INSENSITIVE_ORDER"), (0, u "Ljava/util/Comparator;"), (500, u "serialPersistentFields"), (0, u "[Ljava/io/ObjectStreamField;"), (0, .class_ 1104), (0, u "java/lang/String$CaseInsensitiveComparator"), (1, .class_ 1107), (0, u "java/io/Serializable"), (0, .class_ 1109), (0, u "java/lang/Comparable"), (0, .class_ 1111), (0, u "java/lang/constant/Constable"), (0, .class_ 1113), (0, u "java/lang/constant/ConstantDesc"), (2, u "serialVersionUID"), (0, u "J"), (3, u "REPL"), (0, u "C"), (2, u "LATIN1"), (1, u "UTF16")] 323

def k9m0 : Method := { name := "<init>", desc := "()V", sig := { parameters := [], returnType := none }, accessFlags := 1, code := none }
/-- java/lang/String -/
def k9 : Class := { plain "java/lang/String" (some 0) with
  accessFlags := 49
  interfaces := #[4, 3, 7, 2, 8]
  cf := some (fileOf pool9 10 #[.nestMembers #[1103]] #[{ accessFlags := 1, nameIndex := 5, descriptorIndex := 6, attributes := #[] }] 49 2 #[1106, 1108, 575, 1110, 1112] #[{ accessFlags := 18, nameIndex := 13, descriptorIndex := 14, attributes := #[] }, { accessFlags := 18, nameIndex := 17, descriptorIndex := 18, attributes := #[] }, { accessFlags := 2, nameIndex := 21, descriptorIndex := 22, attributes := #[] }, { accessFlags := 2, nameIndex := 25, descriptorIndex := 26, attributes := #[] }, { accessFlags := 26, nameIndex := 1116, descriptorIndex := 1117, attributes := #[] }, { accessFlags := 24, nameIndex := 40, descriptorIndex := 26, attributes := #[] }, { accessFlags := 26, nameIndex := 1101, descriptorIndex := 1102, attributes := #[] }, { accessFlags := 26, nameIndex := 1121, descriptorIndex := 1122, attributes := #[] }, { accessFlags := 25, nameIndex := 599, descriptorIndex := 600, attributes := #[] }, { accessFlags := 24, nameIndex := 1125, descriptorIndex := 18, attributes := #[] }, { accessFlags := 24, nameIndex := 1127, descriptorIndex := 18, attributes := #[] }])
  fields := #[{ name := "value", type := (.array .byte), accessFlags := 18, slot := 0, constantValue := 0 }, { name := "coder", type := .byte, accessFlags := 18, slot := 1, constantValue := 0 }, { name := "hash", type := .int, accessFlags := 2, slot := 2, constantValue := 0 }, { name := "hashIsZero", type := .boolean, accessFlags := 2, slot := 3, constantValue := 0 }, { name := "serialVersionUID", type := .long, accessFlags := 26, slot := 0, constantValue := 0 }, { name := "COMPACT_STRINGS", type := .boolean, accessFlags := 24, slot := 1, constantValue := 0 }, { name := "serialPersistentFields", type := (.array (.object "java/io/ObjectStreamField")), accessFlags := 26, slot := 2, constantValue := 0 }, { name := "REPL", type := .char, accessFlags := 26, slot := 3, constantValue := 0 }, { name := "CASE_INSENSITIVE_ORDER", type := (.object "java/util/Comparator"), accessFlags := 25, slot := 4, constantValue := 0 }, { name := "LATIN1", type := .byte, accessFlags := 24, slot := 5, constantValue := 0 }, { name := "UTF16", type := .byte, accessFlags := 24, slot := 6, constantValue := 0 }]
  methods := #[k9m0]
  instanceTypes := #[(.array .byte), .byte, .int, .boolean]
  staticTypes := #[.long, .boolean, (.array (.object "java/io/ObjectStreamField")), .char, (.object "java/util/Comparator"), .byte, .byte]
  resolved := Array.replicate 1451 none
  statics := none }

def pool10 : Array CpInfo := pool [(1, u "java/lang/Cloneable"), (0, .class_ 1), (0, u "java/lang/Object"), (0, .class_ 3)] 3

/-- java/lang/Cloneable -/
def k10 : Class := { plain "java/lang/Cloneable" (some 0) with
  accessFlags := 1537
  interfaces := #[]
  cf := some (fileOf pool10 2 #[] #[] 1537 4 #[] #[])
  fields := #[]
  methods := #[]
  instanceTypes := #[]
  staticTypes := #[]
  resolved := Array.replicate 8 none
  statics := none }

/-- the primitive byte -/
def k11 : Class := { plain "byte" none with kind := .primitive 'B', accessFlags := 0x411 }
/-- [B -/
def k12 : Class := { plain "[B" (some 0) with kind := .array 11 .byte, interfaces := #[10, 4], accessFlags := 1041 }

/-- the primitive int -/
def k13 : Class := { plain "int" none with kind := .primitive 'I', accessFlags := 0x411 }
/-- [I -/
def k14 : Class := { plain "[I" (some 0) with kind := .array 13 .int, interfaces := #[10, 4], accessFlags := 1041 }

def heap : Heap := #[{ cls := 6, slots := #[.ref 1, .ref 2, .ref 3, .ref 4, .ref 5, .ref 6, .ref 7, .ref 8, .ref 9, .ref 10, .ref 11, .ref 12, .null], vm := .statics 6 },
  { cls := 6, slots := #[.null, .int 0, .int 0, .int 200, .null], vm := .none },
  { cls := 6, slots := #[.null, .int 1, .int 0, .int 200, .null], vm := .none },
  { cls := 6, slots := #[.null, .int 2, .int 0, .int 400, .ref 13], vm := .none },
  { cls := 6, slots := #[.null, .int 3, .int 0, .int 400, .ref 13], vm := .none },
  { cls := 6, slots := #[.null, .int 4, .int 0, .int 401, .ref 13], vm := .none },
  { cls := 6, slots := #[.null, .int 5, .int 0, .int 401, .ref 13], vm := .none },
  { cls := 6, slots := #[.null, .int 6, .int 0, .int 401, .ref 13], vm := .none },
  { cls := 6, slots := #[.null, .int 7, .int 0, .int 401, .ref 13], vm := .none },
  { cls := 6, slots := #[.null, .int 8, .int 0, .int 404, .ref 13], vm := .none },
  { cls := 6, slots := #[.null, .int 9, .int 0, .int 405, .ref 13], vm := .none },
  { cls := 6, slots := #[.null, .int 10, .int 0, .int 413, .ref 13], vm := .none },
  { cls := 6, slots := #[.null, .int 11, .int 0, .int 500, .ref 13], vm := .none },
  { cls := 9, slots := #[.null, .int 0, .int 0, .int 0], vm := .none }]
def classes : Array Class := #[k0, k1, k2, k3, k4, k5, k6, k7, k8, k9, k10, k11, k12, k13, k14]
def interned : List (Array UInt16 × Addr) := []
def slotsUsed : Nat := 77
def theMethod : MethodId := ⟨1, 2⟩
def args0 : Array Value := #[.int 5]
def aboutOver (below : List Frame) : State where
  vm := { classes := classes, interned := interned.toArray }
  heap := heap
  slotsUsed := slotsUsed
  threads := #[{ frames := .invoking theMethod args0 :: below }]
def below0 : List Frame := [.native { method := ⟨0, 0⟩, args := #[] }]
def about1 : State := aboutOver below0
def p0 : Program := .bare "" "" ""
def e0 : Env := launch0.env 0 0 0
theorem w_frames : about1.frames = Frame.invoking theMethod args0 :: below0 := rfl
set_option maxRecDepth 65536 in
theorem w_args : argsFit about1.vm theMethod args0 = true := by decide +kernel
set_option maxRecDepth 65536 in
theorem w_heap : heapFits about1 = true := by decide +kernel
set_option maxRecDepth 65536 in
theorem w_runnable : about1.curStatus? = some .runnable := by decide +kernel
set_option maxRecDepth 65536 in
theorem w_alone : about1.alone = true := by decide +kernel
set_option maxRecDepth 65536 in
theorem w_named : about1.methodNamed? x = some theMethod := by decide +kernel
set_option maxRecDepth 65536 in
theorem w_hears : about1.hears theMethod below0 = true := by decide +kernel
set_option maxRecDepth 65536 in
theorem w_ripe : about1.ripe theMethod args0 below0 = true := by decide +kernel
theorem w_running : about1.status = .running := rfl
set_option maxRecDepth 65536 in
theorem w_room : about1.hasRoom e0.platform room_1 = true :=
  launch0.hasRoom_least _ room_1 (by decide +kernel) (by decide +kernel) (by decide +kernel) (by decide +kernel) (by decide +kernel) (by decide +kernel)
theorem allAtoms_all (ts : List Jvm.Cond) (a : Array Jvm.Value) (st : Jvm.State) : (allAtoms ts).before a st = ts.all (fun c => c.before a st) := by
  induction ts with
  | nil => rfl
  | cons c t ih =>
    show (Jvm.Cond.and c (allAtoms t)).before a st = _
    rw [Jvm.Cond.before_and, ih, List.all_cons]
def words1 : List Jvm.Cond := Jvm.Cond.code x code maxLocals ret :: tables_1
/-- a 'code' word, met by the world's own term for the bytes: nothing is compared byte by byte -/
theorem code_word {y : MethodName} {bytes : ByteArray} {mx : Nat} {rt : Option FieldType} {a : Array Value} {s : State} {m : MethodId} {meth : Method} {c : Code} (h1 : s.methodNamed? y = some m) (h2 : s.vm.method? m = some meth) (h3 : meth.code = some c) (h4 : c.code = bytes)
    (h5 : (c.maxLocals == mx && c.exceptionTable.isEmpty && decide (c.maxStack ≤ mostOperands) && decide (meth.sig.returnType = rt) && !meth.locks && decide (parseMethodDescriptor y.desc = some meth.sig)) = true) : (Jvm.Cond.code y bytes mx rt).before a s = true := by
  simp only [Bool.and_eq_true, beq_iff_eq, Bool.not_eq_true', decide_eq_true_eq] at h5
  obtain ⟨⟨⟨⟨⟨g1, g2⟩, g3⟩, g4⟩, g5⟩, g6⟩ := h5
  simp [Cond.before, Cond.holds, Cond.value, h1, h2, h3, h4, g1, g2, g3, g4, g5, g6]
def isCode : Jvm.Cond → Bool
  | .code _ _ _ _ => true
  | _ => false
theorem all_split {L : List Jvm.Cond} {P : Jvm.Cond → Bool} (h1 : L.all (fun c => isCode c || P c) = true) (h2 : ∀ c ∈ L.filter isCode, P c = true) : L.all P = true := by
  refine List.all_eq_true.mpr fun c hc => ?_
  have h := List.all_eq_true.mp h1 c hc
  rcases Bool.eq_false_or_eq_true (isCode c) with hi | hi
  · exact h2 c (List.mem_filter.mpr ⟨hc, hi⟩)
  · simpa [hi] using h
set_option maxRecDepth 65536 in
theorem w_c0 : (Jvm.Cond.code x code maxLocals ret).before args0 about1 = true := code_word (m := ⟨1, 2⟩) (meth := k1m2) (c := k1c2) (by decide +kernel) rfl rfl rfl (by decide +kernel)
set_option maxRecDepth 65536 in
theorem w_c1 : (Jvm.Cond.code ({ cls := "com/example/tallyhook/tallyhook/model/ReplyAcknowledgesPinLaw", name := "pick", desc := "(I)Lcom/example/tallyhook/tallyhook/model/Reply;" } : Jvm.MethodName) method_2_code (1 : Nat) (Option.some (Jvm.ClassFile.FieldType.object "com/example/tallyhook/tallyhook/model/Reply"))).before args0 about1 = true := code_word (m := ⟨1, 1⟩) (meth := k1m1) (c := k1c1) (by decide +kernel) rfl rfl rfl (by decide +kernel)
set_option maxRecDepth 65536 in
theorem w_c2 : (Jvm.Cond.code ({ cls := "com/example/tallyhook/tallyhook/model/Reply", name := "acknowledges", desc := "()Z" } : Jvm.MethodName) prog_55_method_6_code (1 : Nat) (Option.some Jvm.ClassFile.FieldType.boolean)).before args0 about1 = true := code_word (m := ⟨6, 2⟩) (meth := k6m2) (c := k6c2) (by decide +kernel) rfl rfl rfl (by decide +kernel)
set_option maxRecDepth 65536 in
theorem w_c3 : (Jvm.Cond.code ({ cls := "com/example/tallyhook/tallyhook/model/Reply", name := "status", desc := "()I" } : Jvm.MethodName) prog_55_method_4_code (1 : Nat) (Option.some Jvm.ClassFile.FieldType.int)).before args0 about1 = true := code_word (m := ⟨6, 0⟩) (meth := k6m0) (c := k6c0) (by decide +kernel) rfl rfl rfl (by decide +kernel)
set_option maxRecDepth 65536 in
theorem w_c4 : (Jvm.Cond.code ({ cls := "com/example/tallyhook/tallyhook/model/Reply", name := "reason", desc := "()Ljava/lang/String;" } : Jvm.MethodName) prog_55_method_5_code (1 : Nat) (Option.some (Jvm.ClassFile.FieldType.object "java/lang/String"))).before args0 about1 = true := code_word (m := ⟨6, 1⟩) (meth := k6m1) (c := k6c1) (by decide +kernel) rfl rfl rfl (by decide +kernel)
def codes1 : List Jvm.Cond := [Jvm.Cond.code x code maxLocals ret, Jvm.Cond.code ({ cls := "com/example/tallyhook/tallyhook/model/ReplyAcknowledgesPinLaw", name := "pick", desc := "(I)Lcom/example/tallyhook/tallyhook/model/Reply;" } : Jvm.MethodName) method_2_code (1 : Nat) (Option.some (Jvm.ClassFile.FieldType.object "com/example/tallyhook/tallyhook/model/Reply")), Jvm.Cond.code ({ cls := "com/example/tallyhook/tallyhook/model/Reply", name := "acknowledges", desc := "()Z" } : Jvm.MethodName) prog_55_method_6_code (1 : Nat) (Option.some Jvm.ClassFile.FieldType.boolean), Jvm.Cond.code ({ cls := "com/example/tallyhook/tallyhook/model/Reply", name := "status", desc := "()I" } : Jvm.MethodName) prog_55_method_4_code (1 : Nat) (Option.some Jvm.ClassFile.FieldType.int), Jvm.Cond.code ({ cls := "com/example/tallyhook/tallyhook/model/Reply", name := "reason", desc := "()Ljava/lang/String;" } : Jvm.MethodName) prog_55_method_5_code (1 : Nat) (Option.some (Jvm.ClassFile.FieldType.object "java/lang/String"))]
set_option maxRecDepth 65536 in
theorem codes_eq : words1.filter isCode = codes1 := rfl
theorem w_codes : ∀ c ∈ words1.filter isCode, c.before args0 about1 = true := by
  rw [codes_eq]
  intro c hc
  simp only [codes1, List.mem_cons, List.not_mem_nil, or_false] at hc
  rcases hc with rfl | rfl | rfl | rfl | rfl
  · exact w_c0
  · exact w_c1
  · exact w_c2
  · exact w_c3
  · exact w_c4
set_option maxRecDepth 65536 in
theorem w_t1 : (words1.take 24).all (fun c => isCode c || c.before args0 about1) = true := by decide +kernel
set_option maxRecDepth 65536 in
theorem w_t2 : ((words1.drop 24).take 24).all (fun c => isCode c || c.before args0 about1) = true := by decide +kernel
set_option maxRecDepth 65536 in
theorem w_t3 : ((words1.drop 24).drop 24).all (fun c => isCode c || c.before args0 about1) = true := by decide +kernel
theorem w_tables : (allAtoms (Jvm.Cond.code x code maxLocals ret :: tables_1)).before args0 about1 = true := by
  rw [allAtoms_all]
  show words1.all (fun c => c.before args0 about1) = true
  refine all_split ?_ w_codes
  rw [← List.take_append_drop 24 words1, List.all_append, w_t1, ← List.take_append_drop 24 (words1.drop 24), List.all_append, w_t2, w_t3]
  rfl
set_option maxRecDepth 65536 in
theorem w_case : (Jvm.Cond.and given_1 narrow_1).before args0 about1 = true := by decide +kernel
theorem w_applies : (headSpec (Jvm.Cond.code x code maxLocals ret :: tables_1) room_1).applies x e0.platform about1 = true :=
  (Spec.applies_iff w_frames).mpr ⟨w_running, w_runnable, w_alone, w_named, w_hears, w_ripe, w_room, w_tables⟩
theorem atStart : AtStart classFile x code maxLocals ret World_1 tables_1 room_1 Calls_1 rest_1 Pre_1 launch0 p0 e0 about1 theMethod args0 below0 :=
  ⟨lists_1, trivial, launch0.admits_env _ _ _, launch0.least_env, fairChoices_fair.cas, fairChoices_fair.clock, w_frames, w_args, w_heap, w_applies, trivial, trivial, w_case⟩
end start1
theorem witness_1 : WitnessClaimed_1 := ⟨start1.p0, start1.e0, start1.about1, start1.theMethod, start1.args0, start1.below0, start1.atStart⟩
end Jvm.Pilot.@@N@@
