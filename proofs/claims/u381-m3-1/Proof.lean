import JvmDerived
import JvmDerived.Pilot.@@N@@Statement
import JvmDerived.Pilot.@@N@@Code
set_option linter.unusedVariables false
set_option linter.unusedSimpArgs false
namespace Jvm.Pilot.@@N@@
open Jvm Jvm.ClassFile Sem Op Lib Jvm.Free Jvm.Stand Jvm.LawKit Jvm.RoadKit Bundle Jvm.Pilot.@@N@@.Jvm.D
/-! own: the run from A ends well -/
def Go (tb : Tables) (e : Env) (below : List Frame) (A : State) (P : State → Outcome → Prop) : Prop := ∃ t o, Steps tb e below A t ∧ P t o
theorem own_on {tb : Tables} {e : Env} {below : List Frame} {A B : State} {P : State → Outcome → Prop} (k : ∀ t, Steps tb e below B t → Steps tb e below A t) (h : Go tb e below B P) : Go tb e below A P := by
  obtain ⟨t, o, h1, h2⟩ := h
  exact ⟨t, o, k t h1, h2⟩
theorem own_of {tb : Tables} {e : Env} {below : List Frame} {A : State} {P : State → Outcome → Prop} (h : Go tb e below A P) : ∃ t o, Steps tb e below A t ∧ P t o := h
theorem own_old {Z : State} {n0 : Nat} {h : Heap} (O : Old Z n0 h) : n0 ≤ h.size := O.1 ▸ O.2.1
theorem own_retV {p : Program} {l : Launch} {e : Env} {R : Room} {s : State} {m : MethodId} {args : Array Value} {below : List Frame} {meth : Method} {c : Code} {T : State} {locs : List Loc} {cells slots : Nat}
    (X : Stand p l e R s m args below meth c T locs cells slots) (hx : p.tables.exec = Jvm.exec) {pc : Nat} {Ls : Array Slot} {w : Value} {t : FieldType} {rest : List Value} (hret : meth.sig.returnType = some t) (ht : t.isReference = true) (hw : w.isRef = true) (hd : decode c.code pc = .ok (.areturn, 1)) {fs : List Frame}
    (hl : ∀ (f : JFrame) (acts : List Action), f.method = m → f.locked = none → f.entered = [] → (doReturn e (T.setTop f) acts (some w)).1 = T.setFrames fs) : Steps p.tables e below (T.setTop (mkF m pc Ls (w :: rest))) (T.setFrames fs) :=
  retOut X hx hret (by cases t <;> first | (simp [FieldType.isReference] at ht; done) | (cases w <;> first | rfl | (simp [Value.isRef] at hw))) (Or.inr (Or.inr (Or.inr (Or.inr ⟨rfl, ht, hw⟩)))) hd hl
theorem own_retI {p : Program} {l : Launch} {e : Env} {R : Room} {s : State} {m : MethodId} {args : Array Value} {below : List Frame} {meth : Method} {c : Code} {T : State} {locs : List Loc} {cells slots : Nat}
    (X : Stand p l e R s m args below meth c T locs cells slots) (hx : p.tables.exec = Jvm.exec) {pc : Nat} {Ls : Array Slot} {z : Int32} {rest : List Value} (hret : meth.sig.returnType = some .int) (hd : decode c.code pc = .ok (.ireturn, 1)) {fs : List Frame}
    (hl : ∀ (f : JFrame) (acts : List Action), f.method = m → f.locked = none → f.entered = [] → (doReturn e (T.setTop f) acts (some (.int z))).1 = T.setFrames fs) : Steps p.tables e below (T.setTop (mkF m pc Ls (.int z :: rest))) (T.setFrames fs) :=
  retOut X hx hret rfl (Or.inl ⟨rfl, Or.inl rfl, z, rfl⟩) hd hl
theorem own_retN {p : Program} {l : Launch} {e : Env} {R : Room} {s : State} {m : MethodId} {args : Array Value} {below : List Frame} {meth : Method} {c : Code} {T : State} {locs : List Loc} {cells slots : Nat}
    (X : Stand p l e R s m args below meth c T locs cells slots) (hx : p.tables.exec = Jvm.exec) {pc : Nat} {Ls : Array Slot} {z : Int32} {t : FieldType} {rest : List Value} (hret : meth.sig.returnType = some t) (ht : t = .boolean ∨ t = .byte ∨ t = .char ∨ t = .short) (hz : nar t z = z) (hd : decode c.code pc = .ok (.ireturn, 1)) {fs : List Frame}
    (hl : ∀ (f : JFrame) (acts : List Action), f.method = m → f.locked = none → f.entered = [] → (doReturn e (T.setTop f) acts (some (.int z))).1 = T.setFrames fs) : Steps p.tables e below (T.setTop (mkF m pc Ls (.int z :: rest))) (T.setFrames fs) :=
  retN X hx hret ht hd (by rw [hz]; exact hl)
theorem own_retD {p : Program} {l : Launch} {e : Env} {R : Room} {s : State} {m : MethodId} {args : Array Value} {below : List Frame} {meth : Method} {c : Code} {T : State} {locs : List Loc} {cells slots : Nat}
    (X : Stand p l e R s m args below meth c T locs cells slots) (hx : p.tables.exec = Jvm.exec) {pc : Nat} {Ls : Array Slot} {z : UInt64} {rest : List Value} (hret : meth.sig.returnType = some .double) (hd : decode c.code pc = .ok (.dreturn, 1)) {fs : List Frame}
    (hl : ∀ (f : JFrame) (acts : List Action), f.method = m → f.locked = none → f.entered = [] → (doReturn e (T.setTop f) acts (some (.double z))).1 = T.setFrames fs) : Steps p.tables e below (T.setTop (mkF m pc Ls (.double z :: rest))) (T.setFrames fs) :=
  retOut X hx hret rfl (Or.inr (Or.inr (Or.inl ⟨rfl, rfl, z, rfl⟩))) hd hl
theorem own_retJ {p : Program} {l : Launch} {e : Env} {R : Room} {s : State} {m : MethodId} {args : Array Value} {below : List Frame} {meth : Method} {c : Code} {T : State} {locs : List Loc} {cells slots : Nat}
    (X : Stand p l e R s m args below meth c T locs cells slots) (hx : p.tables.exec = Jvm.exec) {pc : Nat} {Ls : Array Slot} {z : Int64} {rest : List Value} (hret : meth.sig.returnType = some .long) (hd : decode c.code pc = .ok (.lreturn, 1)) {fs : List Frame}
    (hl : ∀ (f : JFrame) (acts : List Action), f.method = m → f.locked = none → f.entered = [] → (doReturn e (T.setTop f) acts (some (.long z))).1 = T.setFrames fs) : Steps p.tables e below (T.setTop (mkF m pc Ls (.long z :: rest))) (T.setFrames fs) :=
  retOut X hx hret rfl (Or.inr (Or.inl ⟨rfl, rfl, z, rfl⟩)) hd hl
theorem own_fldI {Z : State} {args : Array Value} {t : Term} {x : Addr} {C n d : String} {k : Int32} (ev : t.eval args Z none [] Z = some (.ref x)) (h : (Cond.eq (.field t C n d) (.int k)).value args Z none Z [] = some true) : Fld Z Z.heap x C n d (.int k) := by
  refine Fld.start ?_
  cases hf : Z.fieldOf? x C n d with
  | none => simp [Cond.value, Term.eval, ev, hf] at h
  | some v => cases v <;> simp [Cond.value, Term.eval, ev, hf] at h; subst h; rfl
theorem own_nar {t : FieldType} {v : Value} (h : v.isRef = true) : narrow t v = v := by rcases ref_cases h with rfl | ⟨r, rfl⟩ <;> cases t <;> rfl
theorem own_fit {t : FieldType} {v : Value} (h : v.isRef = true) (ht : t.isReference = true := by rfl) : fits t v = true := by rcases ref_cases h with rfl | ⟨r, rfl⟩ <;> cases t <;> first | rfl | (simp [FieldType.isReference] at ht)
theorem own_st {l l' : Array Slot} {i : Nat} {v : Value} {o : Slot} (hold : l[i]? = some o) (ho : o = .unset ∨ ∃ w, o = .val w ∧ w.category = 1) (hv : v.category = 1) (e : l.setIfInBounds i (.val v) = l' := by rfl) : storeLocals l i v = some l' := e ▸ Jvm.Free.XS.store1 hold ho hv
theorem own_lremM {p : Program} {l : Launch} {e : Env} {R : Room} {s : State} {m : MethodId} {args : Array Value} {below : List Frame} {meth : Method} {c : Code} {T : State} {locs : List Loc} {cells slots : Nat} {g : JFrame} {target : State}
    (X : Stand p l e R s m args below meth c T locs cells slots) (hx : p.tables.exec = Jvm.exec) (hg : g.method = m) {x y : Int64} {rest : List Value} (hd : decode c.code g.pc = .ok (.lrem, 1)) (hs : g.stack = .long y :: .long x :: rest) (hy : y ≠ 0)
    (hr : Steps p.tables e below (T.setTop { g with pc := g.pc + 1, stack := .long (x % y) :: rest }) target) : Steps p.tables e below (T.setTop g) target :=
  Jvm.Free.XT.lrem X.here hx hg hd hs hy (by rw [lrem_mod]; exact hr)
theorem own_fldN {Z : State} {args : Array Value} {t : Term} {x : Addr} {C n d : String} (ev : t.eval args Z none [] Z = some (.ref x)) (h : (Cond.eq (.field t C n d) .null).value args Z none Z [] = some true) : Fld Z Z.heap x C n d .null :=
  Fld.start ((fld_at ev).symm.trans (null_v h))
theorem own_pn_java_util_Objects : plainName "java/util/Objects" = true := by first | (simp [plainName, overriddenIn]; done) | decide +kernel
theorem own_ef_2 (m : MethodId) (x0 : Addr) : entryFrame m #[(.ref x0)] 1 = mkF m 0 #[.val (.ref x0)] [] := by first | (simp [entryFrame, mkF, argsToLocals, Value.category]; done) | rfl
def Q2 (Z : State) (u0 : Addr) (h0 : Heap) (n0 : Nat) (v : Option Value) (h : Heap) (L : List Loc) : Prop := v = some (.ref u0) ∧ Fr n0 L ∧ h = h0
theorem own_d2_0 : decode jdk_31_method_10_code 0 = .ok (.aload_n 0, 1) := by decide +kernel
theorem own_d2_1 : decode jdk_31_method_10_code 1 = .ok (.ifnonnull 11, 3) := by decide +kernel
theorem own_d2_12 : decode jdk_31_method_10_code 12 = .ok (.aload_n 0, 1) := by decide +kernel
theorem own_d2_13 : decode jdk_31_method_10_code 13 = .ok (.areturn, 1) := by decide +kernel
set_option maxRecDepth 65536 in
set_option maxHeartbeats 40000000 in
theorem rm2 (l : Launch) (Z : State) (a0 : Array Value) (hw : ∀ d ∈ tables_1, d.before a0 Z = true) (ws : List Jvm.Cond) (u0 : Addr) (h0 : Heap) (n0 : Nat) (O0 : Old Z n0 h0) :
    MetFree l (⟨"java/util/Objects", "requireNonNull", "(Ljava/lang/Object;)Ljava/lang/Object;"⟩ : MethodName) (head1 (Jvm.Cond.code (⟨"java/util/Objects", "requireNonNull", "(Ljava/lang/Object;)Ljava/lang/Object;"⟩ : MethodName) jdk_31_method_10_code 1 (some (.object "java/lang/Object")) :: ws) ({ frames := 0, cells := 0, slots := 0, locals := 0 } : Room)) (fun a U => a = #[(.ref u0)] ∧ Z.Warmed39 U.vm ∧ U.heap = h0) (fun _ _ _ _ _ => True) (fun _ U o U' => ∃ v L, o = .returned v ∧ Q2 Z u0 h0 n0 v U'.heap L ∧ FrameEnd U o U' L ({ frames := 0, cells := 0, slots := 0, locals := 0 } : Room).cells ({ frames := 0, cells := 0, slots := 0, locals := 0 } : Room).slots) := by
  refine MetFree.of_bodySF (plainFor_of_name own_pn_java_util_Objects) hisR ?_
  intro p e s m args below meth c s₁ Bd hml0 hP hK
  obtain ⟨rfl, hZ, hh⟩ := hP
  have hx := Bd.exec
  have hby := Bd.bytes
  have hml : c.maxLocals = 1 := hml0
  have hown : s.vm.findClass "java/util/Objects" = some m.cls := findClass_of_methodNamed Bd.named
  have hnm := (name_of_methodNamed Bd.named Bd.method).1
  have X0 : Stand p l e ({ frames := 0, cells := 0, slots := 0, locals := 0 } : Room) s m #[(.ref u0)] below meth c s₁ [] 0 0 := Stand.of_body Bd
  have e0 : s₁.heap = h0 := by rw [← hh, Bd.state]; rfl
  have N0 := Fr.nil n0
  change Go p.tables e below _ _
  refine own_on (B := s₁.setTop (mkF m 0 #[.val (.ref u0)] [])) (fun tz kz => castTop (own_ef_2 m u0) kz) ?_
  refine own_on (B := s₁.setTop (mkF m 13 #[.val (.ref u0)] [(.ref u0)])) (fun tz kz => ?_) ?_
  · show Steps p.tables e below (s₁.setTop (mkF m 0 #[.val (.ref u0)] [])) tz
    refine XS.aloadN X0.here hx rfl (hb hby own_d2_0) rfl rfl ?_
    show Steps p.tables e below (s₁.setTop (mkF m 1 #[.val (.ref u0)] [(.ref u0)])) tz
    refine XS.ifnonnullYes X0.here hx rfl (pc0 := 1) (pc' := 12) rfl (hb hby own_d2_1) rfl (by decide) (by decide) ?_
    show Steps p.tables e below (s₁.setTop (mkF m 12 #[.val (.ref u0)] [])) tz
    refine XS.aloadN X0.here hx rfl (hb hby own_d2_12) rfl rfl ?_
    exact kz
  obtain ⟨fs, hr, hrun, hended, hW, hsame⟩ := X0.leave (v := some (.ref u0)) (fun h => by rw [Bd.returns] at h; cases h)
  refine own_of ⟨_, _, ?_, hrun, hended, _, _, rfl, ?_, ⟨_, rfl⟩, hW, hsame.mono (by decide) (by decide)⟩
  · show Steps p.tables e below (s₁.setTop (mkF m 13 #[.val (.ref u0)] [(.ref u0)])) _
    exact own_retV X0 hx Bd.returns rfl rfl (hb hby own_d2_13) hr
  · show Q2 Z u0 h0 n0 _ s₁.heap _
    rw [e0]
    exact ⟨rfl, N0, rfl⟩
theorem own_pn_com_example_firm_gate_firmgate_TokenDecision : plainName "com/example/firm_gate/firmgate/TokenDecision" = true := by first | (simp [plainName, overriddenIn]; done) | decide +kernel
theorem own_ef_3 (m : MethodId) (x0 : Addr) (x2 : Addr) : entryFrame m #[(.ref x0), .null, (.ref x2)] 3 = mkF m 0 #[.val (.ref x0), .val .null, .val (.ref x2)] [] := by first | (simp [entryFrame, mkF, argsToLocals, Value.category]; done) | rfl
def Q3 (Z : State) (u0 : Addr) (u2 : Addr) (h0 : Heap) (n0 : Nat) (v : Option Value) (h : Heap) (L : List Loc) : Prop := v = none ∧ Fr n0 L ∧ Keep h0 h [u0] ∧ Fld Z h u0 "com/example/firm_gate/firmgate/TokenDecision" "principal" "Ljava/lang/String;" .null ∧ Fld Z h u0 "com/example/firm_gate/firmgate/TokenDecision" "reason" "Lcom/example/firm_gate/firmgate/RefusalReason;" (.ref u2)
theorem own_d3_0 : decode prog_13_method_1_code 0 = .ok (.aload_n 0, 1) := by decide +kernel
theorem own_d3_1 : decode prog_13_method_1_code 1 = .ok (.invokespecial 1, 3) := by decide +kernel
theorem own_d3_4 : decode prog_13_method_1_code 4 = .ok (.aload_n 0, 1) := by decide +kernel
theorem own_d3_5 : decode prog_13_method_1_code 5 = .ok (.aload_n 1, 1) := by decide +kernel
theorem own_d3_6 : decode prog_13_method_1_code 6 = .ok (.putfield 7, 3) := by decide +kernel
theorem own_d3_9 : decode prog_13_method_1_code 9 = .ok (.aload_n 0, 1) := by decide +kernel
theorem own_d3_10 : decode prog_13_method_1_code 10 = .ok (.aload_n 2, 1) := by decide +kernel
theorem own_d3_11 : decode prog_13_method_1_code 11 = .ok (.putfield 13, 3) := by decide +kernel
theorem own_d3_14 : decode prog_13_method_1_code 14 = .ok (.return_, 1) := by decide +kernel
set_option maxRecDepth 65536 in
set_option maxHeartbeats 40000000 in
theorem rm3 (l : Launch) (Z : State) (a0 : Array Value) (hw : ∀ d ∈ tables_1, d.before a0 Z = true) (ws : List Jvm.Cond) (u0 : Addr) (u2 : Addr) (h0 : Heap) (n0 : Nat) (O0 : Old Z n0 h0) (E_u0 : Exa Z h0 u0 "com/example/firm_gate/firmgate/TokenDecision") (g_u0 : n0 ≤ u0) (F_principal : Fld Z h0 u0 "com/example/firm_gate/firmgate/TokenDecision" "principal" "Ljava/lang/String;" .null) (F_reason : Fld Z h0 u0 "com/example/firm_gate/firmgate/TokenDecision" "reason" "Lcom/example/firm_gate/firmgate/RefusalReason;" .null) :
    MetFree l (⟨"com/example/firm_gate/firmgate/TokenDecision", "<init>", "(Ljava/lang/String;Lcom/example/firm_gate/firmgate/RefusalReason;)V"⟩ : MethodName) (head1 (Jvm.Cond.code (⟨"com/example/firm_gate/firmgate/TokenDecision", "<init>", "(Ljava/lang/String;Lcom/example/firm_gate/firmgate/RefusalReason;)V"⟩ : MethodName) prog_13_method_1_code 3 none :: ws) ({ frames := 1, cells := 0, slots := 0, locals := 12 } : Room)) (fun a U => a = #[(.ref u0), .null, (.ref u2)] ∧ Z.Warmed39 U.vm ∧ U.heap = h0) (fun _ _ _ _ _ => True) (fun _ U o U' => ∃ v L, o = .returned v ∧ Q3 Z u0 u2 h0 n0 v U'.heap L ∧ FrameEnd U o U' L ({ frames := 1, cells := 0, slots := 0, locals := 12 } : Room).cells ({ frames := 1, cells := 0, slots := 0, locals := 12 } : Room).slots) := by
  refine MetFree.of_bodySF (plainFor_of_name own_pn_com_example_firm_gate_firmgate_TokenDecision) hisR ?_
  intro p e s m args below meth c s₁ Bd hml0 hP hK
  obtain ⟨rfl, hZ, hh⟩ := hP
  have hx := Bd.exec
  have hby := Bd.bytes
  have hml : c.maxLocals = 3 := hml0
  have hown : s.vm.findClass "com/example/firm_gate/firmgate/TokenDecision" = some m.cls := findClass_of_methodNamed Bd.named
  have hnm := (name_of_methodNamed Bd.named Bd.method).1
  have X0 : Stand p l e ({ frames := 1, cells := 0, slots := 0, locals := 12 } : Room) s m #[(.ref u0), .null, (.ref u2)] below meth c s₁ [] 0 0 := Stand.of_body Bd
  have e0 : s₁.heap = h0 := by rw [← hh, Bd.state]; rfl
  have N0 := Fr.nil n0
  change Go p.tables e below _ _
  refine own_on (B := s₁.setTop (mkF m 0 #[.val (.ref u0), .val .null, .val (.ref u2)] [])) (fun tz kz => castTop (own_ef_3 m u0 u2) kz) ?_
  refine own_on (B := s₁.setTop (mkF m 1 #[.val (.ref u0), .val .null, .val (.ref u2)] [(.ref u0)])) (fun tz kz => ?_) ?_
  · show Steps p.tables e below (s₁.setTop (mkF m 0 #[.val (.ref u0), .val .null, .val (.ref u2)] [])) tz
    refine XS.aloadN X0.here hx rfl (hb hby own_d3_0) rfl rfl ?_
    exact kz
  obtain ⟨T1, X1, e1, st1⟩ := initO X0 hx hZ hown (hw _ (List.mem_of_getElem? (i := 34) rfl)) (hw _ (List.mem_of_getElem? (i := 35) rfl)) (hw _ (List.mem_of_getElem? (i := 36) rfl)) e0 (g := (mkF m 1 #[.val (.ref u0), .val .null, .val (.ref u2)] [(.ref u0)])) rfl (by rw [hml]; rfl) rfl (hb hby own_d3_1) (by decide) (W := 0) (by show 2 * 0 + _ ≤ _; exact Nat.le_of_eq rfl) (by decide)
  refine own_on (B := T1.setTop (mkF m 4 #[.val (.ref u0), .val .null, .val (.ref u2)] [])) (fun tz kz => st1 _ kz) ?_
  refine own_on (B := T1.setTop (mkF m 6 #[.val (.ref u0), .val .null, .val (.ref u2)] [.null, (.ref u0)])) (fun tz kz => ?_) ?_
  · show Steps p.tables e below (T1.setTop (mkF m 4 #[.val (.ref u0), .val .null, .val (.ref u2)] [])) tz
    refine XS.aloadN X1.here hx rfl (hb hby own_d3_4) rfl rfl ?_
    show Steps p.tables e below (T1.setTop (mkF m 5 #[.val (.ref u0), .val .null, .val (.ref u2)] [(.ref u0)])) tz
    refine XS.aloadN X1.here hx rfl (hb hby own_d3_5) rfl rfl ?_
    exact kz
  obtain ⟨T2, h2, X2, e2, W2, st2⟩ := putF X1 hx hZ hown (host := "") (Or.inl (hw _ (List.mem_of_getElem? (i := 37) rfl))) Via.refl e1 F_principal E_u0 (Or.inr ⟨(hw _ (List.mem_of_getElem? (i := 38) rfl)), rfl, hnm⟩) (hw _ (List.mem_of_getElem? (i := 25) rfl)) (ty := (.object "java/lang/String")) (by decide) rfl rfl (g := (mkF m 6 #[.val (.ref u0), .val .null, .val (.ref u2)] [.null, (.ref u0)])) rfl rfl (hb hby own_d3_6)
  have Fw2 := F_principal.same W2
  have N2 := Fr.snoc X2 N0 g_u0
  have O3 := O0.wr W2 g_u0
  have K3 : Keep h0 h2 [u0] := (Keep.refl h0 [u0]).wr W2 (Or.inl (List.mem_of_getElem? (i := 0) rfl))
  refine own_on (B := T2.setTop (mkF m 9 #[.val (.ref u0), .val .null, .val (.ref u2)] [])) (fun tz kz => st2 _ kz) ?_
  refine own_on (B := T2.setTop (mkF m 11 #[.val (.ref u0), .val .null, .val (.ref u2)] [(.ref u2), (.ref u0)])) (fun tz kz => ?_) ?_
  · show Steps p.tables e below (T2.setTop (mkF m 9 #[.val (.ref u0), .val .null, .val (.ref u2)] [])) tz
    refine XS.aloadN X2.here hx rfl (hb hby own_d3_9) rfl rfl ?_
    show Steps p.tables e below (T2.setTop (mkF m 10 #[.val (.ref u0), .val .null, .val (.ref u2)] [(.ref u0)])) tz
    refine XS.aloadN X2.here hx rfl (hb hby own_d3_10) rfl rfl ?_
    exact kz
  have f_4 := (F_reason.other W2 (Or.inr (slot_ne (Or.inr (hw _ (List.mem_of_getElem? (i := 40) rfl))) (Or.inr (hw _ (List.mem_of_getElem? (i := 38) rfl))) (by decide) (t := (.object "com/example/firm_gate/firmgate/RefusalReason")) (t' := (.object "java/lang/String")) (by decide) (by decide))))
  have f_5 := (E_u0.wr W2)
  obtain ⟨T6, h6, X6, e6, W6, st6⟩ := putF X2 hx hZ hown (host := "") (Or.inl (hw _ (List.mem_of_getElem? (i := 39) rfl))) Via.refl e2 f_4 f_5 (Or.inr ⟨(hw _ (List.mem_of_getElem? (i := 40) rfl)), rfl, hnm⟩) (hw _ (List.mem_of_getElem? (i := 25) rfl)) (ty := (.object "com/example/firm_gate/firmgate/RefusalReason")) (by decide) rfl rfl (g := (mkF m 11 #[.val (.ref u0), .val .null, .val (.ref u2)] [(.ref u2), (.ref u0)])) rfl rfl (hb hby own_d3_11)
  have Fw6 := f_4.same W6
  have N6 := Fr.snoc X6 N2 g_u0
  have O7 := O3.wr W6 g_u0
  have K7 : Keep h0 h6 [u0] := K3.wr W6 (Or.inl (List.mem_of_getElem? (i := 0) rfl))
  refine own_on (B := T6.setTop (mkF m 14 #[.val (.ref u0), .val .null, .val (.ref u2)] [])) (fun tz kz => st6 _ kz) ?_
  have f_8 := (Fw2.other W6 (Or.inr (slot_ne (Or.inr (hw _ (List.mem_of_getElem? (i := 38) rfl))) (Or.inr (hw _ (List.mem_of_getElem? (i := 40) rfl))) (by decide) (t := (.object "java/lang/String")) (t' := (.object "com/example/firm_gate/firmgate/RefusalReason")) (by decide) (by decide))))
  obtain ⟨fs, hr, hrun, hended, hW, hsame⟩ := X6.leave (v := none) (fun _ => rfl)
  refine own_of ⟨_, _, ?_, hrun, hended, _, _, rfl, ?_, ⟨_, rfl⟩, hW, hsame.mono (by decide) (by decide)⟩
  · show Steps p.tables e below (T6.setTop (mkF m 14 #[.val (.ref u0), .val .null, .val (.ref u2)] [])) _
    exact X6.returnOut hx Bd.returns (hb hby own_d3_14) hr
  · show Q3 Z u0 u2 h0 n0 _ T6.heap _
    rw [e6]
    exact ⟨rfl, N6, K7, f_8, Fw6⟩
theorem own_pn_java_util_Optional : plainName "java/util/Optional" = true := by first | (simp [plainName, overriddenIn]; done) | decide +kernel
theorem own_ef_10 (m : MethodId) (x0 : Addr) (x1 : Addr) : entryFrame m #[(.ref x0), (.ref x1)] 2 = mkF m 0 #[.val (.ref x0), .val (.ref x1)] [] := by first | (simp [entryFrame, mkF, argsToLocals, Value.category]; done) | rfl
def Q10 (Z : State) (u0 : Addr) (u1 : Addr) (h0 : Heap) (n0 : Nat) (v : Option Value) (h : Heap) (L : List Loc) : Prop := v = none ∧ Fr n0 L ∧ Keep h0 h [u0] ∧ Fld Z h u0 "java/util/Optional" "value" "Ljava/lang/Object;" (.ref u1)
theorem own_d10_0 : decode jdk_32_method_2_code 0 = .ok (.aload_n 0, 1) := by decide +kernel
theorem own_d10_1 : decode jdk_32_method_2_code 1 = .ok (.invokespecial 7, 3) := by decide +kernel
theorem own_d10_4 : decode jdk_32_method_2_code 4 = .ok (.aload_n 0, 1) := by decide +kernel
theorem own_d10_5 : decode jdk_32_method_2_code 5 = .ok (.aload_n 1, 1) := by decide +kernel
theorem own_d10_6 : decode jdk_32_method_2_code 6 = .ok (.putfield 13, 3) := by decide +kernel
theorem own_d10_9 : decode jdk_32_method_2_code 9 = .ok (.return_, 1) := by decide +kernel
set_option maxRecDepth 65536 in
set_option maxHeartbeats 40000000 in
theorem rm10 (l : Launch) (Z : State) (a0 : Array Value) (hw : ∀ d ∈ tables_1, d.before a0 Z = true) (ws : List Jvm.Cond) (u0 : Addr) (u1 : Addr) (h0 : Heap) (n0 : Nat) (O0 : Old Z n0 h0) (E_u0 : Exa Z h0 u0 "java/util/Optional") (g_u0 : n0 ≤ u0) (F_value : Fld Z h0 u0 "java/util/Optional" "value" "Ljava/lang/Object;" .null) :
    MetFree l (⟨"java/util/Optional", "<init>", "(Ljava/lang/Object;)V"⟩ : MethodName) (head1 (Jvm.Cond.code (⟨"java/util/Optional", "<init>", "(Ljava/lang/Object;)V"⟩ : MethodName) jdk_32_method_2_code 2 none :: ws) ({ frames := 1, cells := 0, slots := 0, locals := 12 } : Room)) (fun a U => a = #[(.ref u0), (.ref u1)] ∧ Z.Warmed39 U.vm ∧ U.heap = h0) (fun _ _ _ _ _ => True) (fun _ U o U' => ∃ v L, o = .returned v ∧ Q10 Z u0 u1 h0 n0 v U'.heap L ∧ FrameEnd U o U' L ({ frames := 1, cells := 0, slots := 0, locals := 12 } : Room).cells ({ frames := 1, cells := 0, slots := 0, locals := 12 } : Room).slots) := by
  refine MetFree.of_bodySF (plainFor_of_name own_pn_java_util_Optional) hisR ?_
  intro p e s m args below meth c s₁ Bd hml0 hP hK
  obtain ⟨rfl, hZ, hh⟩ := hP
  have hx := Bd.exec
  have hby := Bd.bytes
  have hml : c.maxLocals = 2 := hml0
  have hown : s.vm.findClass "java/util/Optional" = some m.cls := findClass_of_methodNamed Bd.named
  have hnm := (name_of_methodNamed Bd.named Bd.method).1
  have X0 : Stand p l e ({ frames := 1, cells := 0, slots := 0, locals := 12 } : Room) s m #[(.ref u0), (.ref u1)] below meth c s₁ [] 0 0 := Stand.of_body Bd
  have e0 : s₁.heap = h0 := by rw [← hh, Bd.state]; rfl
  have N0 := Fr.nil n0
  change Go p.tables e below _ _
  refine own_on (B := s₁.setTop (mkF m 0 #[.val (.ref u0), .val (.ref u1)] [])) (fun tz kz => castTop (own_ef_10 m u0 u1) kz) ?_
  refine own_on (B := s₁.setTop (mkF m 1 #[.val (.ref u0), .val (.ref u1)] [(.ref u0)])) (fun tz kz => ?_) ?_
  · show Steps p.tables e below (s₁.setTop (mkF m 0 #[.val (.ref u0), .val (.ref u1)] [])) tz
    refine XS.aloadN X0.here hx rfl (hb hby own_d10_0) rfl rfl ?_
    exact kz
  obtain ⟨T1, X1, e1, st1⟩ := initO X0 hx hZ hown (hw _ (List.mem_of_getElem? (i := 74) rfl)) (hw _ (List.mem_of_getElem? (i := 35) rfl)) (hw _ (List.mem_of_getElem? (i := 36) rfl)) e0 (g := (mkF m 1 #[.val (.ref u0), .val (.ref u1)] [(.ref u0)])) rfl (by rw [hml]; rfl) rfl (hb hby own_d10_1) (by decide) (W := 0) (by show 2 * 0 + _ ≤ _; exact Nat.le_of_eq rfl) (by decide)
  refine own_on (B := T1.setTop (mkF m 4 #[.val (.ref u0), .val (.ref u1)] [])) (fun tz kz => st1 _ kz) ?_
  refine own_on (B := T1.setTop (mkF m 6 #[.val (.ref u0), .val (.ref u1)] [(.ref u1), (.ref u0)])) (fun tz kz => ?_) ?_
  · show Steps p.tables e below (T1.setTop (mkF m 4 #[.val (.ref u0), .val (.ref u1)] [])) tz
    refine XS.aloadN X1.here hx rfl (hb hby own_d10_4) rfl rfl ?_
    show Steps p.tables e below (T1.setTop (mkF m 5 #[.val (.ref u0), .val (.ref u1)] [(.ref u0)])) tz
    refine XS.aloadN X1.here hx rfl (hb hby own_d10_5) rfl rfl ?_
    exact kz
  obtain ⟨T2, h2, X2, e2, W2, st2⟩ := putF X1 hx hZ hown (host := "") (Or.inl (hw _ (List.mem_of_getElem? (i := 61) rfl))) Via.refl e1 F_value E_u0 (Or.inr ⟨(hw _ (List.mem_of_getElem? (i := 62) rfl)), rfl, hnm⟩) (hw _ (List.mem_of_getElem? (i := 69) rfl)) (ty := (.object "java/lang/Object")) (by decide) rfl rfl (g := (mkF m 6 #[.val (.ref u0), .val (.ref u1)] [(.ref u1), (.ref u0)])) rfl rfl (hb hby own_d10_6)
  have Fw2 := F_value.same W2
  have N2 := Fr.snoc X2 N0 g_u0
  have O3 := O0.wr W2 g_u0
  have K3 : Keep h0 h2 [u0] := (Keep.refl h0 [u0]).wr W2 (Or.inl (List.mem_of_getElem? (i := 0) rfl))
  refine own_on (B := T2.setTop (mkF m 9 #[.val (.ref u0), .val (.ref u1)] [])) (fun tz kz => st2 _ kz) ?_
  obtain ⟨fs, hr, hrun, hended, hW, hsame⟩ := X2.leave (v := none) (fun _ => rfl)
  refine own_of ⟨_, _, ?_, hrun, hended, _, _, rfl, ?_, ⟨_, rfl⟩, hW, hsame.mono (by decide) (by decide)⟩
  · show Steps p.tables e below (T2.setTop (mkF m 9 #[.val (.ref u0), .val (.ref u1)] [])) _
    exact X2.returnOut hx Bd.returns (hb hby own_d10_9) hr
  · show Q10 Z u0 u1 h0 n0 _ T2.heap _
    rw [e2]
    exact ⟨rfl, N2, K3, Fw2⟩
theorem own_ef_1 (m : MethodId) (x0 : Addr) : entryFrame m #[(.ref x0)] 1 = mkF m 0 #[.val (.ref x0)] [] := by first | (simp [entryFrame, mkF, argsToLocals, Value.category]; done) | rfl
def Q1 (Z : State) (u0 : Addr) (h0 : Heap) (n0 : Nat) (v : Option Value) (h : Heap) (L : List Loc) : Prop := ∃ d : Addr, v = some (.ref d) ∧ Fr n0 L ∧ Keep h0 h [] ∧ h0.size ≤ d ∧ Exa Z h d "com/example/firm_gate/firmgate/TokenDecision" ∧ Fld Z h d "com/example/firm_gate/firmgate/TokenDecision" "principal" "Ljava/lang/String;" .null ∧ Fld Z h d "com/example/firm_gate/firmgate/TokenDecision" "reason" "Lcom/example/firm_gate/firmgate/RefusalReason;" (.ref u0)
theorem own_d1_0 : decode prog_13_method_3_code 0 = .ok (.new 8, 3) := by decide +kernel
theorem own_d1_3 : decode prog_13_method_3_code 3 = .ok (.dup, 1) := by decide +kernel
theorem own_d1_4 : decode prog_13_method_3_code 4 = .ok (.aconst_null, 1) := by decide +kernel
theorem own_d1_5 : decode prog_13_method_3_code 5 = .ok (.aload_n 0, 1) := by decide +kernel
theorem own_pd0 : parseMethodDescriptor "(Ljava/lang/Object;)Ljava/lang/Object;" = some ⟨[(.object "java/lang/Object")], some (.object "java/lang/Object")⟩ := by decide +kernel
theorem own_d1_6 : decode prog_13_method_3_code 6 = .ok (.invokestatic 17, 3) := by decide +kernel
theorem own_d1_9 : decode prog_13_method_3_code 9 = .ok (.checkcast 28, 3) := by decide +kernel
theorem own_pd1 : parseMethodDescriptor "(Ljava/lang/String;Lcom/example/firm_gate/firmgate/RefusalReason;)V" = some ⟨[(.object "java/lang/String"), (.object "com/example/firm_gate/firmgate/RefusalReason")], none⟩ := by decide +kernel
theorem own_d1_12 : decode prog_13_method_3_code 12 = .ok (.invokespecial 25, 3) := by decide +kernel
theorem own_d1_15 : decode prog_13_method_3_code 15 = .ok (.areturn, 1) := by decide +kernel
set_option maxRecDepth 65536 in
set_option maxHeartbeats 40000000 in
theorem rm1 (l : Launch) (Z : State) (a0 : Array Value) (hw : ∀ d ∈ tables_1, d.before a0 Z = true) (ws : List Jvm.Cond) (u0 : Addr) (h0 : Heap) (n0 : Nat) (O0 : Old Z n0 h0) (E_u0 : Exa Z Z.heap u0 "com/example/firm_gate/firmgate/RefusalReason") :
    MetFree l (⟨"com/example/firm_gate/firmgate/TokenDecision", "refuse", "(Lcom/example/firm_gate/firmgate/RefusalReason;)Lcom/example/firm_gate/firmgate/TokenDecision;"⟩ : MethodName) (head1 (Jvm.Cond.code (⟨"com/example/firm_gate/firmgate/TokenDecision", "refuse", "(Lcom/example/firm_gate/firmgate/RefusalReason;)Lcom/example/firm_gate/firmgate/TokenDecision;"⟩ : MethodName) prog_13_method_3_code 1 (some (.object "com/example/firm_gate/firmgate/TokenDecision")) :: ws) ({ frames := 2, cells := 1, slots := 2, locals := 40 } : Room)) (fun a U => a = #[(.ref u0)] ∧ Z.Warmed39 U.vm ∧ U.heap = h0) (fun _ _ _ _ _ => True) (fun _ U o U' => ∃ v L, o = .returned v ∧ Q1 Z u0 h0 n0 v U'.heap L ∧ FrameEnd U o U' L ({ frames := 2, cells := 1, slots := 2, locals := 40 } : Room).cells ({ frames := 2, cells := 1, slots := 2, locals := 40 } : Room).slots) := by
  refine MetFree.of_bodySF (plainFor_of_name own_pn_com_example_firm_gate_firmgate_TokenDecision) hisR ?_
  intro p e s m args below meth c s₁ Bd hml0 hP hK
  obtain ⟨rfl, hZ, hh⟩ := hP
  have hx := Bd.exec
  have hby := Bd.bytes
  have hml : c.maxLocals = 1 := hml0
  have hown : s.vm.findClass "com/example/firm_gate/firmgate/TokenDecision" = some m.cls := findClass_of_methodNamed Bd.named
  have hnm := (name_of_methodNamed Bd.named Bd.method).1
  have X0 : Stand p l e ({ frames := 2, cells := 1, slots := 2, locals := 40 } : Room) s m #[(.ref u0)] below meth c s₁ [] 0 0 := Stand.of_body Bd
  have e0 : s₁.heap = h0 := by rw [← hh, Bd.state]; rfl
  have N0 := Fr.nil n0
  change Go p.tables e below _ _
  refine own_on (B := s₁.setTop (mkF m 0 #[.val (.ref u0)] [])) (fun tz kz => castTop (own_ef_1 m u0) kz) ?_
  obtain ⟨T1, h1, X1, e1, E1, A1, D1, -, st1⟩ := newO X0 hx hZ hown (hw _ (List.mem_of_getElem? (i := 24) rfl)) (hw _ (List.mem_of_getElem? (i := 25) rfl)) (hw _ (List.mem_of_getElem? (i := 22) rfl)) e0 (g := (mkF m 0 #[.val (.ref u0)] [])) rfl (hb hby own_d1_0) (by decide) (by decide)
  obtain ⟨b1, g1⟩ : ∃ z, z = h0.size := ⟨_, rfl⟩
  rw [← g1] at A1 D1 st1
  have g_b1 : n0 ≤ b1 := Nat.le_trans (own_old O0) (Nat.le_of_eq g1.symm)
  have sz_b1 : h0.size ≤ b1 := Nat.le_trans (Keep.refl h0 []).1 (Nat.le_of_eq g1.symm)
  have O2 := O0.ext E1
  have K2 : Keep h0 h1 [] := (Keep.refl h0 []).ext E1
  have F1_principal : Fld Z h1 b1 "com/example/firm_gate/firmgate/TokenDecision" "principal" "Ljava/lang/String;" .null := D1 (Or.inr (hw _ (List.mem_of_getElem? (i := 38) rfl))) (ty := (.object "java/lang/String")) (by decide)
  have F1_reason : Fld Z h1 b1 "com/example/firm_gate/firmgate/TokenDecision" "reason" "Lcom/example/firm_gate/firmgate/RefusalReason;" .null := D1 (Or.inr (hw _ (List.mem_of_getElem? (i := 40) rfl))) (ty := (.object "com/example/firm_gate/firmgate/RefusalReason")) (by decide)
  refine own_on (B := T1.setTop (mkF m 3 #[.val (.ref u0)] [(.ref b1)])) (fun tz kz => st1 _ kz) ?_
  refine own_on (B := T1.setTop (mkF m 6 #[.val (.ref u0)] [(.ref u0), .null, (.ref b1), (.ref b1)])) (fun tz kz => ?_) ?_
  · show Steps p.tables e below (T1.setTop (mkF m 3 #[.val (.ref u0)] [(.ref b1)])) tz
    refine XS.dup X1.here hx rfl (hb hby own_d1_3) rfl rfl ?_
    show Steps p.tables e below (T1.setTop (mkF m 4 #[.val (.ref u0)] [(.ref b1), (.ref b1)])) tz
    refine XS.aconstNull X1.here hx rfl (hb hby own_d1_4) ?_
    show Steps p.tables e below (T1.setTop (mkF m 5 #[.val (.ref u0)] [.null, (.ref b1), (.ref b1)])) tz
    refine XS.aloadN X1.here hx rfl (hb hby own_d1_5) rfl rfl ?_
    exact kz
  obtain ⟨_, _, ⟨T3, L3, k3, n3⟩, -, X3, ⟨Lc3, hQ3, l3, y3, z3⟩, st3⟩ := Jvm.LawKit.callS X1 hx (y := (⟨"java/util/Objects", "requireNonNull", "(Ljava/lang/Object;)Ljava/lang/Object;"⟩ : MethodName)) hown (mvT hZ (hw _ (List.mem_of_getElem? (i := 26) rfl))) (mvT hZ (hw _ (List.mem_of_getElem? (i := 27) rfl))) (mvT hZ (hw _ (List.mem_of_getElem? (i := 28) rfl))) (mvT hZ (hw _ (List.mem_of_getElem? (i := 29) rfl))) (by decide) (backOf (W := 3) (rm2 l Z a0 hw [] u0  h1 n0 O2 ) hZ (hw _ (List.mem_of_getElem? (i := 29) rfl)) (hw _ (List.mem_of_getElem? (i := 28) rfl)) (by decide) (by decide)) (g := (mkF m 6 #[.val (.ref u0)] [(.ref u0), .null, (.ref b1), (.ref b1)])) rfl (by rw [hml]; rfl) (argsL := [(.ref u0)]) (rest := [.null, (.ref b1), (.ref b1)]) (lenOf own_pd0 rfl) rfl (by show 2 * 0 + _ ≤ _; exact Nat.le_of_eq rfl) (hb hby own_d1_6) (fun _ _ => ⟨rfl, e1, (by decide : 1 + 0 ≤ _), (by decide : 2 + 0 ≤ _)⟩)
  dsimp only [Pt.U, Pt.locs, Pt.cells, Pt.slots] at X3 l3 y3 z3 st3 hQ3
  subst l3 y3 z3
  obtain ⟨rfl, Nq3, e3⟩ := hQ3
  have N3 := Fr.app N0 Nq3
  refine own_on (B := T3.setTop (mkF m 9 #[.val (.ref u0)] [(.ref u0), .null, (.ref b1), (.ref b1)])) (fun tz kz => st3 _ kz) ?_
  obtain ⟨T4, X4, e4, st4⟩ := castY X3 hx hZ hown (hw _ (List.mem_of_getElem? (i := 30) rfl)) e3 (Ins.self (E_u0.ext O2.2)) (g := (mkF m 9 #[.val (.ref u0)] [(.ref u0), .null, (.ref b1), (.ref b1)])) rfl rfl (hb hby own_d1_9)
  refine own_on (B := T4.setTop (mkF m 12 #[.val (.ref u0)] [(.ref u0), .null, (.ref b1), (.ref b1)])) (fun tz kz => st4 _ kz) ?_
  obtain ⟨_, _, ⟨T5, L5, k5, n5⟩, -, X5, ⟨Lc5, hQ5, l5, y5, z5⟩, st5⟩ := X4.specialBack hx (y := (⟨"com/example/firm_gate/firmgate/TokenDecision", "<init>", "(Ljava/lang/String;Lcom/example/firm_gate/firmgate/RefusalReason;)V"⟩ : MethodName)) rfl hown (mvT hZ (hw _ (List.mem_of_getElem? (i := 31) rfl))) (mvT hZ (hw _ (List.mem_of_getElem? (i := 32) rfl))) (mvT hZ (hw _ (List.mem_of_getElem? (i := 33) rfl))) (by decide) (backOf (W := 1) (rm3 l Z a0 hw [] b1 u0  h1 n0 O2 A1 g_b1 F1_principal F1_reason) hZ (hw _ (List.mem_of_getElem? (i := 33) rfl)) (hw _ (List.mem_of_getElem? (i := 22) rfl)) (by decide) (by decide)) (g := (mkF m 12 #[.val (.ref u0)] [(.ref u0), .null, (.ref b1), (.ref b1)])) rfl (by rw [hml]; rfl) (Steps.refl _) (a := b1) (argsL := [.null, (.ref u0)]) (rest := [(.ref b1)]) (lenOf own_pd1 rfl) rfl (by show 2 * 0 + _ ≤ _; exact Nat.le_of_eq rfl) (hb hby own_d1_12) (fun _ _ => ⟨rfl, e4, (by decide : 1 + 0 ≤ _), (by decide : 2 + 0 ≤ _)⟩)
  dsimp only [Pt.U, Pt.locs, Pt.cells, Pt.slots] at X5 l5 y5 z5 st5 hQ5
  subst l5 y5 z5
  obtain ⟨rfl, Nq5, Kq5, Fp5, Fq5⟩ := hQ5
  have N5 := Fr.app N3 Nq5
  have O6 := O2.keep Kq5 (allS g_b1 all0)
  have K6 : Keep h0 T5.heap [] := K2.trans Kq5 (allS (Or.inr sz_b1) all0)
  refine own_on (B := T5.setTop (mkF m 15 #[.val (.ref u0)] [(.ref b1)])) (fun tz kz => st5.trans kz) ?_
  have f_7 := (A1.keep Kq5)
  obtain ⟨fs, hr, hrun, hended, hW, hsame⟩ := X5.leave (v := some (.ref b1)) (fun h => by rw [Bd.returns] at h; cases h)
  refine own_of ⟨_, _, ?_, hrun, hended, _, _, rfl, ?_, ⟨_, rfl⟩, hW, hsame.mono (by decide) (by decide)⟩
  · show Steps p.tables e below (T5.setTop (mkF m 15 #[.val (.ref u0)] [(.ref b1)])) _
    exact own_retV X5 hx Bd.returns rfl rfl (hb hby own_d1_15) hr
  · show Q1 Z u0 h0 n0 _ T5.heap _
    exact ⟨b1, rfl, N5, K6, sz_b1, f_7, Fp5, Fq5⟩
theorem own_ef_5 (m : MethodId) (x0 : Addr) : entryFrame m #[(.ref x0)] 1 = mkF m 0 #[.val (.ref x0)] [] := by first | (simp [entryFrame, mkF, argsToLocals, Value.category]; done) | rfl
def Q5 (Z : State) (u0 : Addr) (r : Addr) (h0 : Heap) (n0 : Nat) (v : Option Value) (h : Heap) (L : List Loc) : Prop := v = some (.int 0) ∧ Fr n0 L ∧ h = h0
theorem own_d5_0 : decode prog_13_method_4_code 0 = .ok (.aload_n 0, 1) := by decide +kernel
theorem own_d5_1 : decode prog_13_method_4_code 1 = .ok (.getfield 13, 3) := by decide +kernel
theorem own_d5_4 : decode prog_13_method_4_code 4 = .ok (.ifnonnull 7, 3) := by decide +kernel
theorem own_d5_11 : decode prog_13_method_4_code 11 = .ok (.iconst 0, 1) := by decide +kernel
theorem own_d5_12 : decode prog_13_method_4_code 12 = .ok (.ireturn, 1) := by decide +kernel
set_option maxRecDepth 65536 in
set_option maxHeartbeats 40000000 in
theorem rm5 (l : Launch) (Z : State) (a0 : Array Value) (hw : ∀ d ∈ tables_1, d.before a0 Z = true) (ws : List Jvm.Cond) (u0 : Addr) (r : Addr) (h0 : Heap) (n0 : Nat) (O0 : Old Z n0 h0) (Ff : Fld Z h0 u0 "com/example/firm_gate/firmgate/TokenDecision" "reason" "Lcom/example/firm_gate/firmgate/RefusalReason;" (.ref r)) :
    MetFree l (⟨"com/example/firm_gate/firmgate/TokenDecision", "accepted", "()Z"⟩ : MethodName) (head1 (Jvm.Cond.code (⟨"com/example/firm_gate/firmgate/TokenDecision", "accepted", "()Z"⟩ : MethodName) prog_13_method_4_code 1 (some .boolean) :: ws) ({ frames := 0, cells := 0, slots := 0, locals := 0 } : Room)) (fun a U => a = #[(.ref u0)] ∧ Z.Warmed39 U.vm ∧ U.heap = h0) (fun _ _ _ _ _ => True) (fun _ U o U' => ∃ v L, o = .returned v ∧ Q5 Z u0 r h0 n0 v U'.heap L ∧ FrameEnd U o U' L ({ frames := 0, cells := 0, slots := 0, locals := 0 } : Room).cells ({ frames := 0, cells := 0, slots := 0, locals := 0 } : Room).slots) := by
  refine MetFree.of_bodySF (plainFor_of_name own_pn_com_example_firm_gate_firmgate_TokenDecision) hisR ?_
  intro p e s m args below meth c s₁ Bd hml0 hP hK
  obtain ⟨rfl, hZ, hh⟩ := hP
  have hx := Bd.exec
  have hby := Bd.bytes
  have hml : c.maxLocals = 1 := hml0
  have hown : s.vm.findClass "com/example/firm_gate/firmgate/TokenDecision" = some m.cls := findClass_of_methodNamed Bd.named
  have hnm := (name_of_methodNamed Bd.named Bd.method).1
  have X0 : Stand p l e ({ frames := 0, cells := 0, slots := 0, locals := 0 } : Room) s m #[(.ref u0)] below meth c s₁ [] 0 0 := Stand.of_body Bd
  have e0 : s₁.heap = h0 := by rw [← hh, Bd.state]; rfl
  have N0 := Fr.nil n0
  change Go p.tables e below _ _
  refine own_on (B := s₁.setTop (mkF m 0 #[.val (.ref u0)] [])) (fun tz kz => castTop (own_ef_5 m u0) kz) ?_
  refine own_on (B := s₁.setTop (mkF m 1 #[.val (.ref u0)] [(.ref u0)])) (fun tz kz => ?_) ?_
  · show Steps p.tables e below (s₁.setTop (mkF m 0 #[.val (.ref u0)] [])) tz
    refine XS.aloadN X0.here hx rfl (hb hby own_d5_0) rfl rfl ?_
    exact kz
  obtain ⟨T1, X1, e1, st1⟩ := getF X0 hx hZ hown (host := "") (Or.inl (hw _ (List.mem_of_getElem? (i := 39) rfl))) Via.refl e0 Ff (g := (mkF m 1 #[.val (.ref u0)] [(.ref u0)])) rfl rfl (hb hby own_d5_1)
  refine own_on (B := T1.setTop (mkF m 4 #[.val (.ref u0)] [(.ref r)])) (fun tz kz => st1 _ kz) ?_
  refine own_on (B := T1.setTop (mkF m 12 #[.val (.ref u0)] [(.int (0 : Int32))])) (fun tz kz => ?_) ?_
  · show Steps p.tables e below (T1.setTop (mkF m 4 #[.val (.ref u0)] [(.ref r)])) tz
    refine XS.ifnonnullYes X1.here hx rfl (pc0 := 4) (pc' := 11) rfl (hb hby own_d5_4) rfl (by decide) (by decide) ?_
    show Steps p.tables e below (T1.setTop (mkF m 11 #[.val (.ref u0)] [])) tz
    refine XS.iconst X1.here hx rfl (hb hby own_d5_11) ?_
    exact kz
  obtain ⟨fs, hr, hrun, hended, hW, hsame⟩ := X1.leave (v := some (.int (0 : Int32))) (fun h => by rw [Bd.returns] at h; cases h)
  refine own_of ⟨_, _, ?_, hrun, hended, _, _, rfl, ?_, ⟨_, rfl⟩, hW, hsame.mono (by decide) (by decide)⟩
  · show Steps p.tables e below (T1.setTop (mkF m 12 #[.val (.ref u0)] [(.int (0 : Int32))])) _
    exact own_retN X1 hx (t := .boolean) Bd.returns (by simp) (by first | rfl | (split <;> first | rfl | (split <;> first | rfl | (split <;> rfl)))) (hb hby own_d5_12) hr
  · show Q5 Z u0 r h0 n0 _ T1.heap _
    rw [e1]
    exact ⟨rfl, N0, rfl⟩
theorem own_ef_7a (m : MethodId)  : entryFrame m #[.null] 1 = mkF m 0 #[.val .null] [] := by first | (simp [entryFrame, mkF, argsToLocals, Value.category]; done) | rfl
def Q7a (Z : State) (wE : Addr) (h0 : Heap) (n0 : Nat) (v : Option Value) (h : Heap) (L : List Loc) : Prop := v = some (.ref wE) ∧ Fr n0 L ∧ h = h0
theorem own_d7_0 : decode jdk_32_method_4_code 0 = .ok (.aload_n 0, 1) := by decide +kernel
theorem own_d7_1 : decode jdk_32_method_4_code 1 = .ok (.ifnonnull 9, 3) := by decide +kernel
theorem own_d7_4 : decode jdk_32_method_4_code 4 = .ok (.getstatic 1, 3) := by decide +kernel
theorem own_d7_7 : decode jdk_32_method_4_code 7 = .ok (.goto 11, 3) := by decide +kernel
theorem own_d7_18 : decode jdk_32_method_4_code 18 = .ok (.areturn, 1) := by decide +kernel
set_option maxRecDepth 65536 in
set_option maxHeartbeats 40000000 in
theorem rm7a (l : Launch) (Z : State) (a0 : Array Value) (hw : ∀ d ∈ tables_1, d.before a0 Z = true) (ws : List Jvm.Cond) (wE : Addr) (h0 : Heap) (n0 : Nat) (O0 : Old Z n0 h0) (S_E : Sta Z Z.heap "java/util/Optional" "EMPTY" "Ljava/util/Optional;" (.ref wE)) :
    MetFree l (⟨"java/util/Optional", "ofNullable", "(Ljava/lang/Object;)Ljava/util/Optional;"⟩ : MethodName) (head1 (Jvm.Cond.code (⟨"java/util/Optional", "ofNullable", "(Ljava/lang/Object;)Ljava/util/Optional;"⟩ : MethodName) jdk_32_method_4_code 1 (some (.object "java/util/Optional")) :: ws) ({ frames := 0, cells := 0, slots := 0, locals := 0 } : Room)) (fun a U => a = #[.null] ∧ Z.Warmed39 U.vm ∧ U.heap = h0) (fun _ _ _ _ _ => True) (fun _ U o U' => ∃ v L, o = .returned v ∧ Q7a Z wE h0 n0 v U'.heap L ∧ FrameEnd U o U' L ({ frames := 0, cells := 0, slots := 0, locals := 0 } : Room).cells ({ frames := 0, cells := 0, slots := 0, locals := 0 } : Room).slots) := by
  refine MetFree.of_bodySF (plainFor_of_name own_pn_java_util_Optional) hisR ?_
  intro p e s m args below meth c s₁ Bd hml0 hP hK
  obtain ⟨rfl, hZ, hh⟩ := hP
  have hx := Bd.exec
  have hby := Bd.bytes
  have hml : c.maxLocals = 1 := hml0
  have hown : s.vm.findClass "java/util/Optional" = some m.cls := findClass_of_methodNamed Bd.named
  have hnm := (name_of_methodNamed Bd.named Bd.method).1
  have X0 : Stand p l e ({ frames := 0, cells := 0, slots := 0, locals := 0 } : Room) s m #[.null] below meth c s₁ [] 0 0 := Stand.of_body Bd
  have e0 : s₁.heap = h0 := by rw [← hh, Bd.state]; rfl
  have N0 := Fr.nil n0
  change Go p.tables e below _ _
  refine own_on (B := s₁.setTop (mkF m 0 #[.val .null] [])) (fun tz kz => castTop (own_ef_7a m ) kz) ?_
  refine own_on (B := s₁.setTop (mkF m 4 #[.val .null] [])) (fun tz kz => ?_) ?_
  · show Steps p.tables e below (s₁.setTop (mkF m 0 #[.val .null] [])) tz
    refine XS.aloadN X0.here hx rfl (hb hby own_d7_0) rfl rfl ?_
    show Steps p.tables e below (s₁.setTop (mkF m 1 #[.val .null] [.null])) tz
    refine XS.ifnonnullNo X0.here hx rfl (hb hby own_d7_1) rfl ?_
    exact kz
  obtain ⟨T1, X1, e1, st1⟩ := getS2 X0 hx hZ hown (host := "") (Or.inl (hw _ (List.mem_of_getElem? (i := 55) rfl))) Via.refl e0 (S_E.ext O0.2) (g := (mkF m 4 #[.val .null] [])) rfl (hb hby own_d7_4)
  refine own_on (B := T1.setTop (mkF m 7 #[.val .null] [(.ref wE)])) (fun tz kz => st1 _ kz) ?_
  refine own_on (B := T1.setTop (mkF m 18 #[.val .null] [(.ref wE)])) (fun tz kz => ?_) ?_
  · show Steps p.tables e below (T1.setTop (mkF m 7 #[.val .null] [(.ref wE)])) tz
    refine XS.goto X1.here hx rfl (pc0 := 7) (pc' := 18) rfl (hb hby own_d7_7) (by decide) (by decide) ?_
    exact kz
  obtain ⟨fs, hr, hrun, hended, hW, hsame⟩ := X1.leave (v := some (.ref wE)) (fun h => by rw [Bd.returns] at h; cases h)
  refine own_of ⟨_, _, ?_, hrun, hended, _, _, rfl, ?_, ⟨_, rfl⟩, hW, hsame.mono (by decide) (by decide)⟩
  · show Steps p.tables e below (T1.setTop (mkF m 18 #[.val .null] [(.ref wE)])) _
    exact own_retV X1 hx Bd.returns rfl rfl (hb hby own_d7_18) hr
  · show Q7a Z wE h0 n0 _ T1.heap _
    rw [e1]
    exact ⟨rfl, N0, rfl⟩
theorem own_ef_7b (m : MethodId) (x0 : Addr) : entryFrame m #[(.ref x0)] 1 = mkF m 0 #[.val (.ref x0)] [] := by first | (simp [entryFrame, mkF, argsToLocals, Value.category]; done) | rfl
def Q7b (Z : State) (u0 : Addr) (h0 : Heap) (n0 : Nat) (v : Option Value) (h : Heap) (L : List Loc) : Prop := ∃ d : Addr, v = some (.ref d) ∧ Fr n0 L ∧ Keep h0 h [] ∧ h0.size ≤ d ∧ Exa Z h d "java/util/Optional" ∧ Fld Z h d "java/util/Optional" "value" "Ljava/lang/Object;" (.ref u0)
theorem own_d7_10 : decode jdk_32_method_4_code 10 = .ok (.new 2, 3) := by decide +kernel
theorem own_d7_13 : decode jdk_32_method_4_code 13 = .ok (.dup, 1) := by decide +kernel
theorem own_d7_14 : decode jdk_32_method_4_code 14 = .ok (.aload_n 0, 1) := by decide +kernel
theorem own_pd2 : parseMethodDescriptor "(Ljava/lang/Object;)V" = some ⟨[(.object "java/lang/Object")], none⟩ := by decide +kernel
theorem own_d7_15 : decode jdk_32_method_4_code 15 = .ok (.invokespecial 23, 3) := by decide +kernel
set_option maxRecDepth 65536 in
set_option maxHeartbeats 40000000 in
theorem rm7b (l : Launch) (Z : State) (a0 : Array Value) (hw : ∀ d ∈ tables_1, d.before a0 Z = true) (ws : List Jvm.Cond) (u0 : Addr) (h0 : Heap) (n0 : Nat) (O0 : Old Z n0 h0) :
    MetFree l (⟨"java/util/Optional", "ofNullable", "(Ljava/lang/Object;)Ljava/util/Optional;"⟩ : MethodName) (head1 (Jvm.Cond.code (⟨"java/util/Optional", "ofNullable", "(Ljava/lang/Object;)Ljava/util/Optional;"⟩ : MethodName) jdk_32_method_4_code 1 (some (.object "java/util/Optional")) :: ws) ({ frames := 2, cells := 1, slots := 1, locals := 30 } : Room)) (fun a U => a = #[(.ref u0)] ∧ Z.Warmed39 U.vm ∧ U.heap = h0) (fun _ _ _ _ _ => True) (fun _ U o U' => ∃ v L, o = .returned v ∧ Q7b Z u0 h0 n0 v U'.heap L ∧ FrameEnd U o U' L ({ frames := 2, cells := 1, slots := 1, locals := 30 } : Room).cells ({ frames := 2, cells := 1, slots := 1, locals := 30 } : Room).slots) := by
  refine MetFree.of_bodySF (plainFor_of_name own_pn_java_util_Optional) hisR ?_
  intro p e s m args below meth c s₁ Bd hml0 hP hK
  obtain ⟨rfl, hZ, hh⟩ := hP
  have hx := Bd.exec
  have hby := Bd.bytes
  have hml : c.maxLocals = 1 := hml0
  have hown : s.vm.findClass "java/util/Optional" = some m.cls := findClass_of_methodNamed Bd.named
  have hnm := (name_of_methodNamed Bd.named Bd.method).1
  have X0 : Stand p l e ({ frames := 2, cells := 1, slots := 1, locals := 30 } : Room) s m #[(.ref u0)] below meth c s₁ [] 0 0 := Stand.of_body Bd
  have e0 : s₁.heap = h0 := by rw [← hh, Bd.state]; rfl
  have N0 := Fr.nil n0
  change Go p.tables e below _ _
  refine own_on (B := s₁.setTop (mkF m 0 #[.val (.ref u0)] [])) (fun tz kz => castTop (own_ef_7b m u0) kz) ?_
  refine own_on (B := s₁.setTop (mkF m 10 #[.val (.ref u0)] [])) (fun tz kz => ?_) ?_
  · show Steps p.tables e below (s₁.setTop (mkF m 0 #[.val (.ref u0)] [])) tz
    refine XS.aloadN X0.here hx rfl (hb hby own_d7_0) rfl rfl ?_
    show Steps p.tables e below (s₁.setTop (mkF m 1 #[.val (.ref u0)] [(.ref u0)])) tz
    refine XS.ifnonnullYes X0.here hx rfl (pc0 := 1) (pc' := 10) rfl (hb hby own_d7_1) rfl (by decide) (by decide) ?_
    exact kz
  obtain ⟨T1, h1, X1, e1, E1, A1, D1, -, st1⟩ := newO X0 hx hZ hown (hw _ (List.mem_of_getElem? (i := 68) rfl)) (hw _ (List.mem_of_getElem? (i := 69) rfl)) (hw _ (List.mem_of_getElem? (i := 53) rfl)) e0 (g := (mkF m 10 #[.val (.ref u0)] [])) rfl (hb hby own_d7_10) (by decide) (by decide)
  obtain ⟨b1, g1⟩ : ∃ z, z = h0.size := ⟨_, rfl⟩
  rw [← g1] at A1 D1 st1
  have g_b1 : n0 ≤ b1 := Nat.le_trans (own_old O0) (Nat.le_of_eq g1.symm)
  have sz_b1 : h0.size ≤ b1 := Nat.le_trans (Keep.refl h0 []).1 (Nat.le_of_eq g1.symm)
  have O2 := O0.ext E1
  have K2 : Keep h0 h1 [] := (Keep.refl h0 []).ext E1
  have F1_value : Fld Z h1 b1 "java/util/Optional" "value" "Ljava/lang/Object;" .null := D1 (Or.inr (hw _ (List.mem_of_getElem? (i := 62) rfl))) (ty := (.object "java/lang/Object")) (by decide)
  refine own_on (B := T1.setTop (mkF m 13 #[.val (.ref u0)] [(.ref b1)])) (fun tz kz => st1 _ kz) ?_
  refine own_on (B := T1.setTop (mkF m 15 #[.val (.ref u0)] [(.ref u0), (.ref b1), (.ref b1)])) (fun tz kz => ?_) ?_
  · show Steps p.tables e below (T1.setTop (mkF m 13 #[.val (.ref u0)] [(.ref b1)])) tz
    refine XS.dup X1.here hx rfl (hb hby own_d7_13) rfl rfl ?_
    show Steps p.tables e below (T1.setTop (mkF m 14 #[.val (.ref u0)] [(.ref b1), (.ref b1)])) tz
    refine XS.aloadN X1.here hx rfl (hb hby own_d7_14) rfl rfl ?_
    exact kz
  obtain ⟨_, _, ⟨T3, L3, k3, n3⟩, -, X3, ⟨Lc3, hQ3, l3, y3, z3⟩, st3⟩ := X1.specialBack hx (y := (⟨"java/util/Optional", "<init>", "(Ljava/lang/Object;)V"⟩ : MethodName)) rfl hown (mvT hZ (hw _ (List.mem_of_getElem? (i := 70) rfl))) (mvT hZ (hw _ (List.mem_of_getElem? (i := 71) rfl))) (mvT hZ (hw _ (List.mem_of_getElem? (i := 73) rfl))) (by decide) (backOf (W := 1) (rm10 l Z a0 hw [] b1 u0  h1 n0 O2 A1 g_b1 F1_value) hZ (hw _ (List.mem_of_getElem? (i := 73) rfl)) (hw _ (List.mem_of_getElem? (i := 53) rfl)) (by decide) (by decide)) (g := (mkF m 15 #[.val (.ref u0)] [(.ref u0), (.ref b1), (.ref b1)])) rfl (by rw [hml]; rfl) (Steps.refl _) (a := b1) (argsL := [(.ref u0)]) (rest := [(.ref b1)]) (lenOf own_pd2 rfl) rfl (by show 2 * 0 + _ ≤ _; exact Nat.le_of_eq rfl) (hb hby own_d7_15) (fun _ _ => ⟨rfl, e1, (by decide : 1 + 0 ≤ _), (by decide : 1 + 0 ≤ _)⟩)
  dsimp only [Pt.U, Pt.locs, Pt.cells, Pt.slots] at X3 l3 y3 z3 st3 hQ3
  subst l3 y3 z3
  obtain ⟨rfl, Nq3, Kq3, Fq3⟩ := hQ3
  have N3 := Fr.app N0 Nq3
  have O4 := O2.keep Kq3 (allS g_b1 all0)
  have K4 : Keep h0 T3.heap [] := K2.trans Kq3 (allS (Or.inr sz_b1) all0)
  refine own_on (B := T3.setTop (mkF m 18 #[.val (.ref u0)] [(.ref b1)])) (fun tz kz => st3.trans kz) ?_
  have f_5 := (A1.keep Kq3)
  obtain ⟨fs, hr, hrun, hended, hW, hsame⟩ := X3.leave (v := some (.ref b1)) (fun h => by rw [Bd.returns] at h; cases h)
  refine own_of ⟨_, _, ?_, hrun, hended, _, _, rfl, ?_, ⟨_, rfl⟩, hW, hsame.mono (by decide) (by decide)⟩
  · show Steps p.tables e below (T3.setTop (mkF m 18 #[.val (.ref u0)] [(.ref b1)])) _
    exact own_retV X3 hx Bd.returns rfl rfl (hb hby own_d7_18) hr
  · show Q7b Z u0 h0 n0 _ T3.heap _
    exact ⟨b1, rfl, N3, K4, sz_b1, f_5, Fq3⟩
theorem own_ef_6 (m : MethodId) (x0 : Addr) : entryFrame m #[(.ref x0)] 1 = mkF m 0 #[.val (.ref x0)] [] := by first | (simp [entryFrame, mkF, argsToLocals, Value.category]; done) | rfl
def Q6 (Z : State) (u0 : Addr) (wE : Addr) (h0 : Heap) (n0 : Nat) (v : Option Value) (h : Heap) (L : List Loc) : Prop := v = some (.ref wE) ∧ Fr n0 L ∧ h = h0
theorem own_d6_0 : decode prog_13_method_5_code 0 = .ok (.aload_n 0, 1) := by decide +kernel
theorem own_d6_1 : decode prog_13_method_5_code 1 = .ok (.getfield 7, 3) := by decide +kernel
theorem own_pd3 : parseMethodDescriptor "(Ljava/lang/Object;)Ljava/util/Optional;" = some ⟨[(.object "java/lang/Object")], some (.object "java/util/Optional")⟩ := by decide +kernel
theorem own_d6_4 : decode prog_13_method_5_code 4 = .ok (.invokestatic 30, 3) := by decide +kernel
theorem own_d6_7 : decode prog_13_method_5_code 7 = .ok (.areturn, 1) := by decide +kernel
set_option maxRecDepth 65536 in
set_option maxHeartbeats 40000000 in
theorem rm6 (l : Launch) (Z : State) (a0 : Array Value) (hw : ∀ d ∈ tables_1, d.before a0 Z = true) (ws : List Jvm.Cond) (u0 : Addr) (wE : Addr) (h0 : Heap) (n0 : Nat) (O0 : Old Z n0 h0) (Ff : Fld Z h0 u0 "com/example/firm_gate/firmgate/TokenDecision" "principal" "Ljava/lang/String;" .null) (S_E : Sta Z Z.heap "java/util/Optional" "EMPTY" "Ljava/util/Optional;" (.ref wE)) :
    MetFree l (⟨"com/example/firm_gate/firmgate/TokenDecision", "principal", "()Ljava/util/Optional;"⟩ : MethodName) (head1 (Jvm.Cond.code (⟨"com/example/firm_gate/firmgate/TokenDecision", "principal", "()Ljava/util/Optional;"⟩ : MethodName) prog_13_method_5_code 1 (some (.object "java/util/Optional")) :: ws) ({ frames := 1, cells := 0, slots := 0, locals := 20 } : Room)) (fun a U => a = #[(.ref u0)] ∧ Z.Warmed39 U.vm ∧ U.heap = h0) (fun _ _ _ _ _ => True) (fun _ U o U' => ∃ v L, o = .returned v ∧ Q6 Z u0 wE h0 n0 v U'.heap L ∧ FrameEnd U o U' L ({ frames := 1, cells := 0, slots := 0, locals := 20 } : Room).cells ({ frames := 1, cells := 0, slots := 0, locals := 20 } : Room).slots) := by
  refine MetFree.of_bodySF (plainFor_of_name own_pn_com_example_firm_gate_firmgate_TokenDecision) hisR ?_
  intro p e s m args below meth c s₁ Bd hml0 hP hK
  obtain ⟨rfl, hZ, hh⟩ := hP
  have hx := Bd.exec
  have hby := Bd.bytes
  have hml : c.maxLocals = 1 := hml0
  have hown : s.vm.findClass "com/example/firm_gate/firmgate/TokenDecision" = some m.cls := findClass_of_methodNamed Bd.named
  have hnm := (name_of_methodNamed Bd.named Bd.method).1
  have X0 : Stand p l e ({ frames := 1, cells := 0, slots := 0, locals := 20 } : Room) s m #[(.ref u0)] below meth c s₁ [] 0 0 := Stand.of_body Bd
  have e0 : s₁.heap = h0 := by rw [← hh, Bd.state]; rfl
  have N0 := Fr.nil n0
  change Go p.tables e below _ _
  refine own_on (B := s₁.setTop (mkF m 0 #[.val (.ref u0)] [])) (fun tz kz => castTop (own_ef_6 m u0) kz) ?_
  refine own_on (B := s₁.setTop (mkF m 1 #[.val (.ref u0)] [(.ref u0)])) (fun tz kz => ?_) ?_
  · show Steps p.tables e below (s₁.setTop (mkF m 0 #[.val (.ref u0)] [])) tz
    refine XS.aloadN X0.here hx rfl (hb hby own_d6_0) rfl rfl ?_
    exact kz
  obtain ⟨T1, X1, e1, st1⟩ := getF X0 hx hZ hown (host := "") (Or.inl (hw _ (List.mem_of_getElem? (i := 37) rfl))) Via.refl e0 Ff (g := (mkF m 1 #[.val (.ref u0)] [(.ref u0)])) rfl rfl (hb hby own_d6_1)
  refine own_on (B := T1.setTop (mkF m 4 #[.val (.ref u0)] [.null])) (fun tz kz => st1 _ kz) ?_
  obtain ⟨_, _, ⟨T2, L2, k2, n2⟩, -, X2, ⟨Lc2, hQ2, l2, y2, z2⟩, st2⟩ := Jvm.LawKit.callS X1 hx (y := (⟨"java/util/Optional", "ofNullable", "(Ljava/lang/Object;)Ljava/util/Optional;"⟩ : MethodName)) hown (mvT hZ (hw _ (List.mem_of_getElem? (i := 51) rfl))) (mvT hZ (hw _ (List.mem_of_getElem? (i := 52) rfl))) (mvT hZ (hw _ (List.mem_of_getElem? (i := 53) rfl))) (mvT hZ (hw _ (List.mem_of_getElem? (i := 54) rfl))) (by decide) (backOf (W := 0) (rm7a l Z a0 hw []  wE h0 n0 O0 S_E) hZ (hw _ (List.mem_of_getElem? (i := 54) rfl)) (hw _ (List.mem_of_getElem? (i := 53) rfl)) (by decide) (by decide)) (g := (mkF m 4 #[.val (.ref u0)] [.null])) rfl (by rw [hml]; rfl) (argsL := [.null]) (rest := []) (lenOf own_pd3 rfl) rfl (by show 2 * 0 + _ ≤ _; exact Nat.le_of_eq rfl) (hb hby own_d6_4) (fun _ _ => ⟨rfl, e1, (by decide : 0 + 0 ≤ _), (by decide : 0 + 0 ≤ _)⟩)
  dsimp only [Pt.U, Pt.locs, Pt.cells, Pt.slots] at X2 l2 y2 z2 st2 hQ2
  subst l2 y2 z2
  obtain ⟨rfl, Nq2, e2⟩ := hQ2
  have N2 := Fr.app N0 Nq2
  refine own_on (B := T2.setTop (mkF m 7 #[.val (.ref u0)] [(.ref wE)])) (fun tz kz => st2 _ kz) ?_
  obtain ⟨fs, hr, hrun, hended, hW, hsame⟩ := X2.leave (v := some (.ref wE)) (fun h => by rw [Bd.returns] at h; cases h)
  refine own_of ⟨_, _, ?_, hrun, hended, _, _, rfl, ?_, ⟨_, rfl⟩, hW, hsame.mono (by decide) (by decide)⟩
  · show Steps p.tables e below (T2.setTop (mkF m 7 #[.val (.ref u0)] [(.ref wE)])) _
    exact own_retV X2 hx Bd.returns rfl rfl (hb hby own_d6_7) hr
  · show Q6 Z u0 wE h0 n0 _ T2.heap _
    rw [e2]
    exact ⟨rfl, N2, rfl⟩
theorem own_ef_9 (m : MethodId) (x0 : Addr) : entryFrame m #[(.ref x0)] 1 = mkF m 0 #[.val (.ref x0)] [] := by first | (simp [entryFrame, mkF, argsToLocals, Value.category]; done) | rfl
def Q9 (Z : State) (u0 : Addr) (r : Addr) (h0 : Heap) (n0 : Nat) (v : Option Value) (h : Heap) (L : List Loc) : Prop := ∃ d : Addr, v = some (.ref d) ∧ Fr n0 L ∧ Keep h0 h [] ∧ h0.size ≤ d ∧ Exa Z h d "java/util/Optional" ∧ Fld Z h d "java/util/Optional" "value" "Ljava/lang/Object;" (.ref r)
theorem own_d9_0 : decode prog_13_method_6_code 0 = .ok (.aload_n 0, 1) := by decide +kernel
theorem own_d9_1 : decode prog_13_method_6_code 1 = .ok (.getfield 13, 3) := by decide +kernel
theorem own_d9_4 : decode prog_13_method_6_code 4 = .ok (.invokestatic 30, 3) := by decide +kernel
theorem own_d9_7 : decode prog_13_method_6_code 7 = .ok (.areturn, 1) := by decide +kernel
set_option maxRecDepth 65536 in
set_option maxHeartbeats 40000000 in
theorem rm9 (l : Launch) (Z : State) (a0 : Array Value) (hw : ∀ d ∈ tables_1, d.before a0 Z = true) (ws : List Jvm.Cond) (u0 : Addr) (r : Addr) (h0 : Heap) (n0 : Nat) (O0 : Old Z n0 h0) (Ff : Fld Z h0 u0 "com/example/firm_gate/firmgate/TokenDecision" "reason" "Lcom/example/firm_gate/firmgate/RefusalReason;" (.ref r)) :
    MetFree l (⟨"com/example/firm_gate/firmgate/TokenDecision", "reason", "()Ljava/util/Optional;"⟩ : MethodName) (head1 (Jvm.Cond.code (⟨"com/example/firm_gate/firmgate/TokenDecision", "reason", "()Ljava/util/Optional;"⟩ : MethodName) prog_13_method_6_code 1 (some (.object "java/util/Optional")) :: ws) ({ frames := 3, cells := 1, slots := 1, locals := 50 } : Room)) (fun a U => a = #[(.ref u0)] ∧ Z.Warmed39 U.vm ∧ U.heap = h0) (fun _ _ _ _ _ => True) (fun _ U o U' => ∃ v L, o = .returned v ∧ Q9 Z u0 r h0 n0 v U'.heap L ∧ FrameEnd U o U' L ({ frames := 3, cells := 1, slots := 1, locals := 50 } : Room).cells ({ frames := 3, cells := 1, slots := 1, locals := 50 } : Room).slots) := by
  refine MetFree.of_bodySF (plainFor_of_name own_pn_com_example_firm_gate_firmgate_TokenDecision) hisR ?_
  intro p e s m args below meth c s₁ Bd hml0 hP hK
  obtain ⟨rfl, hZ, hh⟩ := hP
  have hx := Bd.exec
  have hby := Bd.bytes
  have hml : c.maxLocals = 1 := hml0
  have hown : s.vm.findClass "com/example/firm_gate/firmgate/TokenDecision" = some m.cls := findClass_of_methodNamed Bd.named
  have hnm := (name_of_methodNamed Bd.named Bd.method).1
  have X0 : Stand p l e ({ frames := 3, cells := 1, slots := 1, locals := 50 } : Room) s m #[(.ref u0)] below meth c s₁ [] 0 0 := Stand.of_body Bd
  have e0 : s₁.heap = h0 := by rw [← hh, Bd.state]; rfl
  have N0 := Fr.nil n0
  change Go p.tables e below _ _
  refine own_on (B := s₁.setTop (mkF m 0 #[.val (.ref u0)] [])) (fun tz kz => castTop (own_ef_9 m u0) kz) ?_
  refine own_on (B := s₁.setTop (mkF m 1 #[.val (.ref u0)] [(.ref u0)])) (fun tz kz => ?_) ?_
  · show Steps p.tables e below (s₁.setTop (mkF m 0 #[.val (.ref u0)] [])) tz
    refine XS.aloadN X0.here hx rfl (hb hby own_d9_0) rfl rfl ?_
    exact kz
  obtain ⟨T1, X1, e1, st1⟩ := getF X0 hx hZ hown (host := "") (Or.inl (hw _ (List.mem_of_getElem? (i := 39) rfl))) Via.refl e0 Ff (g := (mkF m 1 #[.val (.ref u0)] [(.ref u0)])) rfl rfl (hb hby own_d9_1)
  refine own_on (B := T1.setTop (mkF m 4 #[.val (.ref u0)] [(.ref r)])) (fun tz kz => st1 _ kz) ?_
  obtain ⟨_, _, ⟨T2, L2, k2, n2⟩, -, X2, ⟨Lc2, hQ2, l2, y2, z2⟩, st2⟩ := Jvm.LawKit.callS X1 hx (y := (⟨"java/util/Optional", "ofNullable", "(Ljava/lang/Object;)Ljava/util/Optional;"⟩ : MethodName)) hown (mvT hZ (hw _ (List.mem_of_getElem? (i := 51) rfl))) (mvT hZ (hw _ (List.mem_of_getElem? (i := 52) rfl))) (mvT hZ (hw _ (List.mem_of_getElem? (i := 53) rfl))) (mvT hZ (hw _ (List.mem_of_getElem? (i := 54) rfl))) (by decide) (backOf (W := 0) (rm7b l Z a0 hw [] r  h0 n0 O0 ) hZ (hw _ (List.mem_of_getElem? (i := 54) rfl)) (hw _ (List.mem_of_getElem? (i := 53) rfl)) (by decide) (by decide)) (g := (mkF m 4 #[.val (.ref u0)] [(.ref r)])) rfl (by rw [hml]; rfl) (argsL := [(.ref r)]) (rest := []) (lenOf own_pd3 rfl) rfl (by show 2 * 0 + _ ≤ _; exact Nat.le_of_eq rfl) (hb hby own_d9_4) (fun _ _ => ⟨rfl, e1, (by decide : 0 + 1 ≤ _), (by decide : 0 + 1 ≤ _)⟩)
  dsimp only [Pt.U, Pt.locs, Pt.cells, Pt.slots] at X2 l2 y2 z2 st2 hQ2
  subst l2 y2 z2
  obtain ⟨d2, rfl, Nq2, Kq2, zq2, Eq2, Fq2⟩ := hQ2
  have N2 := Fr.app N0 Nq2
  have ne_u0_d2 : u0 ≠ d2 := Nat.ne_of_lt (Nat.lt_of_lt_of_le (Ff).lt zq2)
  have g_d2 : n0 ≤ d2 := Nat.le_trans (own_old O0) zq2
  have sz_d2 : h0.size ≤ d2 := Nat.le_trans (Keep.refl h0 []).1 zq2
  have O3 := O0.keep Kq2 all0
  have K3 : Keep h0 T2.heap [] := (Keep.refl h0 []).trans Kq2 all0
  refine own_on (B := T2.setTop (mkF m 7 #[.val (.ref u0)] [(.ref d2)])) (fun tz kz => st2 _ kz) ?_
  obtain ⟨fs, hr, hrun, hended, hW, hsame⟩ := X2.leave (v := some (.ref d2)) (fun h => by rw [Bd.returns] at h; cases h)
  refine own_of ⟨_, _, ?_, hrun, hended, _, _, rfl, ?_, ⟨_, rfl⟩, hW, hsame.mono (by decide) (by decide)⟩
  · show Steps p.tables e below (T2.setTop (mkF m 7 #[.val (.ref u0)] [(.ref d2)])) _
    exact own_retV X2 hx Bd.returns rfl rfl (hb hby own_d9_7) hr
  · show Q9 Z u0 r h0 n0 _ T2.heap _
    exact ⟨d2, rfl, N2, K3, sz_d2, Eq2, Fq2⟩
theorem own_ef_8a (m : MethodId) (x0 : Addr) : entryFrame m #[(.ref x0)] 1 = mkF m 0 #[.val (.ref x0)] [] := by first | (simp [entryFrame, mkF, argsToLocals, Value.category]; done) | rfl
def Q8a (Z : State) (u0 : Addr) (h0 : Heap) (n0 : Nat) (v : Option Value) (h : Heap) (L : List Loc) : Prop := v = some (.int 0) ∧ Fr n0 L ∧ h = h0
theorem own_d8_0 : decode jdk_32_method_6_code 0 = .ok (.aload_n 0, 1) := by decide +kernel
theorem own_d8_1 : decode jdk_32_method_6_code 1 = .ok (.getfield 13, 3) := by decide +kernel
theorem own_d8_4 : decode jdk_32_method_6_code 4 = .ok (.ifnull 7, 3) := by decide +kernel
theorem own_d8_11 : decode jdk_32_method_6_code 11 = .ok (.iconst 0, 1) := by decide +kernel
theorem own_d8_12 : decode jdk_32_method_6_code 12 = .ok (.ireturn, 1) := by decide +kernel
set_option maxRecDepth 65536 in
set_option maxHeartbeats 40000000 in
theorem rm8a (l : Launch) (Z : State) (a0 : Array Value) (hw : ∀ d ∈ tables_1, d.before a0 Z = true) (ws : List Jvm.Cond) (u0 : Addr) (h0 : Heap) (n0 : Nat) (O0 : Old Z n0 h0) (Ff : Fld Z h0 u0 "java/util/Optional" "value" "Ljava/lang/Object;" .null) :
    MetFree l (⟨"java/util/Optional", "isPresent", "()Z"⟩ : MethodName) (head1 (Jvm.Cond.code (⟨"java/util/Optional", "isPresent", "()Z"⟩ : MethodName) jdk_32_method_6_code 1 (some .boolean) :: ws) ({ frames := 0, cells := 0, slots := 0, locals := 0 } : Room)) (fun a U => a = #[(.ref u0)] ∧ Z.Warmed39 U.vm ∧ U.heap = h0) (fun _ _ _ _ _ => True) (fun _ U o U' => ∃ v L, o = .returned v ∧ Q8a Z u0 h0 n0 v U'.heap L ∧ FrameEnd U o U' L ({ frames := 0, cells := 0, slots := 0, locals := 0 } : Room).cells ({ frames := 0, cells := 0, slots := 0, locals := 0 } : Room).slots) := by
  refine MetFree.of_bodySF (plainFor_of_name own_pn_java_util_Optional) hisR ?_
  intro p e s m args below meth c s₁ Bd hml0 hP hK
  obtain ⟨rfl, hZ, hh⟩ := hP
  have hx := Bd.exec
  have hby := Bd.bytes
  have hml : c.maxLocals = 1 := hml0
  have hown : s.vm.findClass "java/util/Optional" = some m.cls := findClass_of_methodNamed Bd.named
  have hnm := (name_of_methodNamed Bd.named Bd.method).1
  have X0 : Stand p l e ({ frames := 0, cells := 0, slots := 0, locals := 0 } : Room) s m #[(.ref u0)] below meth c s₁ [] 0 0 := Stand.of_body Bd
  have e0 : s₁.heap = h0 := by rw [← hh, Bd.state]; rfl
  have N0 := Fr.nil n0
  change Go p.tables e below _ _
  refine own_on (B := s₁.setTop (mkF m 0 #[.val (.ref u0)] [])) (fun tz kz => castTop (own_ef_8a m u0) kz) ?_
  refine own_on (B := s₁.setTop (mkF m 1 #[.val (.ref u0)] [(.ref u0)])) (fun tz kz => ?_) ?_
  · show Steps p.tables e below (s₁.setTop (mkF m 0 #[.val (.ref u0)] [])) tz
    refine XS.aloadN X0.here hx rfl (hb hby own_d8_0) rfl rfl ?_
    exact kz
  obtain ⟨T1, X1, e1, st1⟩ := getF X0 hx hZ hown (host := "") (Or.inl (hw _ (List.mem_of_getElem? (i := 61) rfl))) Via.refl e0 Ff (g := (mkF m 1 #[.val (.ref u0)] [(.ref u0)])) rfl rfl (hb hby own_d8_1)
  refine own_on (B := T1.setTop (mkF m 4 #[.val (.ref u0)] [.null])) (fun tz kz => st1 _ kz) ?_
  refine own_on (B := T1.setTop (mkF m 12 #[.val (.ref u0)] [(.int (0 : Int32))])) (fun tz kz => ?_) ?_
  · show Steps p.tables e below (T1.setTop (mkF m 4 #[.val (.ref u0)] [.null])) tz
    refine XS.ifnullYes X1.here hx rfl (pc0 := 4) (pc' := 11) rfl (hb hby own_d8_4) rfl (by decide) (by decide) ?_
    show Steps p.tables e below (T1.setTop (mkF m 11 #[.val (.ref u0)] [])) tz
    refine XS.iconst X1.here hx rfl (hb hby own_d8_11) ?_
    exact kz
  obtain ⟨fs, hr, hrun, hended, hW, hsame⟩ := X1.leave (v := some (.int (0 : Int32))) (fun h => by rw [Bd.returns] at h; cases h)
  refine own_of ⟨_, _, ?_, hrun, hended, _, _, rfl, ?_, ⟨_, rfl⟩, hW, hsame.mono (by decide) (by decide)⟩
  · show Steps p.tables e below (T1.setTop (mkF m 12 #[.val (.ref u0)] [(.int (0 : Int32))])) _
    exact own_retN X1 hx (t := .boolean) Bd.returns (by simp) (by first | rfl | (split <;> first | rfl | (split <;> first | rfl | (split <;> rfl)))) (hb hby own_d8_12) hr
  · show Q8a Z u0 h0 n0 _ T1.heap _
    rw [e1]
    exact ⟨rfl, N0, rfl⟩
theorem own_ef_8b (m : MethodId) (x0 : Addr) : entryFrame m #[(.ref x0)] 1 = mkF m 0 #[.val (.ref x0)] [] := by first | (simp [entryFrame, mkF, argsToLocals, Value.category]; done) | rfl
def Q8b (Z : State) (u0 : Addr) (r : Addr) (h0 : Heap) (n0 : Nat) (v : Option Value) (h : Heap) (L : List Loc) : Prop := v = some (.int 1) ∧ Fr n0 L ∧ h = h0
theorem own_d8_7 : decode jdk_32_method_6_code 7 = .ok (.iconst 1, 1) := by decide +kernel
theorem own_d8_8 : decode jdk_32_method_6_code 8 = .ok (.goto 4, 3) := by decide +kernel
set_option maxRecDepth 65536 in
set_option maxHeartbeats 40000000 in
theorem rm8b (l : Launch) (Z : State) (a0 : Array Value) (hw : ∀ d ∈ tables_1, d.before a0 Z = true) (ws : List Jvm.Cond) (u0 : Addr) (r : Addr) (h0 : Heap) (n0 : Nat) (O0 : Old Z n0 h0) (Ff : Fld Z h0 u0 "java/util/Optional" "value" "Ljava/lang/Object;" (.ref r)) :
    MetFree l (⟨"java/util/Optional", "isPresent", "()Z"⟩ : MethodName) (head1 (Jvm.Cond.code (⟨"java/util/Optional", "isPresent", "()Z"⟩ : MethodName) jdk_32_method_6_code 1 (some .boolean) :: ws) ({ frames := 0, cells := 0, slots := 0, locals := 0 } : Room)) (fun a U => a = #[(.ref u0)] ∧ Z.Warmed39 U.vm ∧ U.heap = h0) (fun _ _ _ _ _ => True) (fun _ U o U' => ∃ v L, o = .returned v ∧ Q8b Z u0 r h0 n0 v U'.heap L ∧ FrameEnd U o U' L ({ frames := 0, cells := 0, slots := 0, locals := 0 } : Room).cells ({ frames := 0, cells := 0, slots := 0, locals := 0 } : Room).slots) := by
  refine MetFree.of_bodySF (plainFor_of_name own_pn_java_util_Optional) hisR ?_
  intro p e s m args below meth c s₁ Bd hml0 hP hK
  obtain ⟨rfl, hZ, hh⟩ := hP
  have hx := Bd.exec
  have hby := Bd.bytes
  have hml : c.maxLocals = 1 := hml0
  have hown : s.vm.findClass "java/util/Optional" = some m.cls := findClass_of_methodNamed Bd.named
  have hnm := (name_of_methodNamed Bd.named Bd.method).1
  have X0 : Stand p l e ({ frames := 0, cells := 0, slots := 0, locals := 0 } : Room) s m #[(.ref u0)] below meth c s₁ [] 0 0 := Stand.of_body Bd
  have e0 : s₁.heap = h0 := by rw [← hh, Bd.state]; rfl
  have N0 := Fr.nil n0
  change Go p.tables e below _ _
  refine own_on (B := s₁.setTop (mkF m 0 #[.val (.ref u0)] [])) (fun tz kz => castTop (own_ef_8b m u0) kz) ?_
  refine own_on (B := s₁.setTop (mkF m 1 #[.val (.ref u0)] [(.ref u0)])) (fun tz kz => ?_) ?_
  · show Steps p.tables e below (s₁.setTop (mkF m 0 #[.val (.ref u0)] [])) tz
    refine XS.aloadN X0.here hx rfl (hb hby own_d8_0) rfl rfl ?_
    exact kz
  obtain ⟨T1, X1, e1, st1⟩ := getF X0 hx hZ hown (host := "") (Or.inl (hw _ (List.mem_of_getElem? (i := 61) rfl))) Via.refl e0 Ff (g := (mkF m 1 #[.val (.ref u0)] [(.ref u0)])) rfl rfl (hb hby own_d8_1)
  refine own_on (B := T1.setTop (mkF m 4 #[.val (.ref u0)] [(.ref r)])) (fun tz kz => st1 _ kz) ?_
  refine own_on (B := T1.setTop (mkF m 12 #[.val (.ref u0)] [(.int (1 : Int32))])) (fun tz kz => ?_) ?_
  · show Steps p.tables e below (T1.setTop (mkF m 4 #[.val (.ref u0)] [(.ref r)])) tz
    refine XS.ifnullNo X1.here hx rfl (hb hby own_d8_4) rfl ?_
    show Steps p.tables e below (T1.setTop (mkF m 7 #[.val (.ref u0)] [])) tz
    refine XS.iconst X1.here hx rfl (hb hby own_d8_7) ?_
    show Steps p.tables e below (T1.setTop (mkF m 8 #[.val (.ref u0)] [(.int (1 : Int32))])) tz
    refine XS.goto X1.here hx rfl (pc0 := 8) (pc' := 12) rfl (hb hby own_d8_8) (by decide) (by decide) ?_
    exact kz
  obtain ⟨fs, hr, hrun, hended, hW, hsame⟩ := X1.leave (v := some (.int (1 : Int32))) (fun h => by rw [Bd.returns] at h; cases h)
  refine own_of ⟨_, _, ?_, hrun, hended, _, _, rfl, ?_, ⟨_, rfl⟩, hW, hsame.mono (by decide) (by decide)⟩
  · show Steps p.tables e below (T1.setTop (mkF m 12 #[.val (.ref u0)] [(.int (1 : Int32))])) _
    exact own_retN X1 hx (t := .boolean) Bd.returns (by simp) (by first | rfl | (split <;> first | rfl | (split <;> first | rfl | (split <;> rfl)))) (hb hby own_d8_12) hr
  · show Q8b Z u0 r h0 n0 _ T1.heap _
    rw [e1]
    exact ⟨rfl, N0, rfl⟩
theorem own_ef_11 (m : MethodId) (x0 : Addr) : entryFrame m #[(.ref x0)] 1 = mkF m 0 #[.val (.ref x0)] [] := by first | (simp [entryFrame, mkF, argsToLocals, Value.category]; done) | rfl
def Q11 (Z : State) (u0 : Addr) (r : Addr) (h0 : Heap) (n0 : Nat) (v : Option Value) (h : Heap) (L : List Loc) : Prop := v = some (.ref r) ∧ Fr n0 L ∧ h = h0
theorem own_d11_0 : decode jdk_32_method_5_code 0 = .ok (.aload_n 0, 1) := by decide +kernel
theorem own_d11_1 : decode jdk_32_method_5_code 1 = .ok (.getfield 13, 3) := by decide +kernel
theorem own_d11_4 : decode jdk_32_method_5_code 4 = .ok (.ifnonnull 13, 3) := by decide +kernel
theorem own_d11_17 : decode jdk_32_method_5_code 17 = .ok (.aload_n 0, 1) := by decide +kernel
theorem own_d11_18 : decode jdk_32_method_5_code 18 = .ok (.getfield 13, 3) := by decide +kernel
theorem own_d11_21 : decode jdk_32_method_5_code 21 = .ok (.areturn, 1) := by decide +kernel
set_option maxRecDepth 65536 in
set_option maxHeartbeats 40000000 in
theorem rm11 (l : Launch) (Z : State) (a0 : Array Value) (hw : ∀ d ∈ tables_1, d.before a0 Z = true) (ws : List Jvm.Cond) (u0 : Addr) (r : Addr) (h0 : Heap) (n0 : Nat) (O0 : Old Z n0 h0) (Ff : Fld Z h0 u0 "java/util/Optional" "value" "Ljava/lang/Object;" (.ref r)) :
    MetFree l (⟨"java/util/Optional", "get", "()Ljava/lang/Object;"⟩ : MethodName) (head1 (Jvm.Cond.code (⟨"java/util/Optional", "get", "()Ljava/lang/Object;"⟩ : MethodName) jdk_32_method_5_code 1 (some (.object "java/lang/Object")) :: ws) ({ frames := 0, cells := 0, slots := 0, locals := 0 } : Room)) (fun a U => a = #[(.ref u0)] ∧ Z.Warmed39 U.vm ∧ U.heap = h0) (fun _ _ _ _ _ => True) (fun _ U o U' => ∃ v L, o = .returned v ∧ Q11 Z u0 r h0 n0 v U'.heap L ∧ FrameEnd U o U' L ({ frames := 0, cells := 0, slots := 0, locals := 0 } : Room).cells ({ frames := 0, cells := 0, slots := 0, locals := 0 } : Room).slots) := by
  refine MetFree.of_bodySF (plainFor_of_name own_pn_java_util_Optional) hisR ?_
  intro p e s m args below meth c s₁ Bd hml0 hP hK
  obtain ⟨rfl, hZ, hh⟩ := hP
  have hx := Bd.exec
  have hby := Bd.bytes
  have hml : c.maxLocals = 1 := hml0
  have hown : s.vm.findClass "java/util/Optional" = some m.cls := findClass_of_methodNamed Bd.named
  have hnm := (name_of_methodNamed Bd.named Bd.method).1
  have X0 : Stand p l e ({ frames := 0, cells := 0, slots := 0, locals := 0 } : Room) s m #[(.ref u0)] below meth c s₁ [] 0 0 := Stand.of_body Bd
  have e0 : s₁.heap = h0 := by rw [← hh, Bd.state]; rfl
  have N0 := Fr.nil n0
  change Go p.tables e below _ _
  refine own_on (B := s₁.setTop (mkF m 0 #[.val (.ref u0)] [])) (fun tz kz => castTop (own_ef_11 m u0) kz) ?_
  refine own_on (B := s₁.setTop (mkF m 1 #[.val (.ref u0)] [(.ref u0)])) (fun tz kz => ?_) ?_
  · show Steps p.tables e below (s₁.setTop (mkF m 0 #[.val (.ref u0)] [])) tz
    refine XS.aloadN X0.here hx rfl (hb hby own_d11_0) rfl rfl ?_
    exact kz
  obtain ⟨T1, X1, e1, st1⟩ := getF X0 hx hZ hown (host := "") (Or.inl (hw _ (List.mem_of_getElem? (i := 61) rfl))) Via.refl e0 Ff (g := (mkF m 1 #[.val (.ref u0)] [(.ref u0)])) rfl rfl (hb hby own_d11_1)
  refine own_on (B := T1.setTop (mkF m 4 #[.val (.ref u0)] [(.ref r)])) (fun tz kz => st1 _ kz) ?_
  refine own_on (B := T1.setTop (mkF m 18 #[.val (.ref u0)] [(.ref u0)])) (fun tz kz => ?_) ?_
  · show Steps p.tables e below (T1.setTop (mkF m 4 #[.val (.ref u0)] [(.ref r)])) tz
    refine XS.ifnonnullYes X1.here hx rfl (pc0 := 4) (pc' := 17) rfl (hb hby own_d11_4) rfl (by decide) (by decide) ?_
    show Steps p.tables e below (T1.setTop (mkF m 17 #[.val (.ref u0)] [])) tz
    refine XS.aloadN X1.here hx rfl (hb hby own_d11_17) rfl rfl ?_
    exact kz
  obtain ⟨T2, X2, e2, st2⟩ := getF X1 hx hZ hown (host := "") (Or.inl (hw _ (List.mem_of_getElem? (i := 61) rfl))) Via.refl e1 Ff (g := (mkF m 18 #[.val (.ref u0)] [(.ref u0)])) rfl rfl (hb hby own_d11_18)
  refine own_on (B := T2.setTop (mkF m 21 #[.val (.ref u0)] [(.ref r)])) (fun tz kz => st2 _ kz) ?_
  obtain ⟨fs, hr, hrun, hended, hW, hsame⟩ := X2.leave (v := some (.ref r)) (fun h => by rw [Bd.returns] at h; cases h)
  refine own_of ⟨_, _, ?_, hrun, hended, _, _, rfl, ?_, ⟨_, rfl⟩, hW, hsame.mono (by decide) (by decide)⟩
  · show Steps p.tables e below (T2.setTop (mkF m 21 #[.val (.ref u0)] [(.ref r)])) _
    exact own_retV X2 hx Bd.returns rfl rfl (hb hby own_d11_21) hr
  · show Q11 Z u0 r h0 n0 _ T2.heap _
    rw [e2]
    exact ⟨rfl, N0, rfl⟩
theorem own_at (w : Nat → Addr) : ∀ i, i < 8 → ([(.ref (w 0)), (.ref (w 1)), (.ref (w 2)), (.ref (w 3)), (.ref (w 4)), (.ref (w 5)), (.ref (w 6)), (.ref (w 7))] : List Value).getD i .null = .ref (w i)
  | 0, _ => rfl
  | 1, _ => rfl
  | 2, _ => rfl
  | 3, _ => rfl
  | 4, _ => rfl
  | 5, _ => rfl
  | 6, _ => rfl
  | 7, _ => rfl
  | n + 8, h => absurd h (by omega)
theorem own_idx (x k : Int32) (h : x &&& (7 : Int32) = k) : ¬ k < 0 ∧ k < 8 ∧ k.toNatClampNeg < 8 := by
  have e := c_mask x 7 3 (by decide) (by decide)
  rw [h] at e
  have z : (0 : Int32).toInt = 0 := rfl
  have z2 : (8 : Int32).toInt = 8 := rfl
  refine ⟨?_, ?_, ?_⟩
  · rw [Int32.lt_iff_toInt_lt]; omega
  · rw [Int32.lt_iff_toInt_lt]; omega
  · show k.toInt.toNat < 8; omega
theorem own_pn_com_example_firm_gate_firmgate_TokenDecisionRefusePinLaw : plainName "com/example/firm_gate/firmgate/TokenDecisionRefusePinLaw" = true := by first | (simp [plainName, overriddenIn]; done) | decide +kernel
theorem own_ef_0 (m : MethodId) (x0 : Int32) : entryFrame m #[(.int x0)] maxLocals = mkF m 0 #[.val (.int x0), .unset, .unset, .unset, .unset, .unset] [] := by first | (simp [entryFrame, mkF, argsToLocals, Value.category, maxLocals]; done) | rfl
def Q0 (Z : State) (p0 : Int32) (w : Nat → Addr) (wE : Addr) (h0 : Heap) (n0 : Nat) (v : Option Value) (h : Heap) (L : List Loc) : Prop := v = some (.int 1) ∧ Fr n0 L
theorem own_pd4 : parseMethodDescriptor "(Lcom/example/firm_gate/firmgate/RefusalReason;)Lcom/example/firm_gate/firmgate/TokenDecision;" = some ⟨[(.object "com/example/firm_gate/firmgate/RefusalReason")], some (.object "com/example/firm_gate/firmgate/TokenDecision")⟩ := by decide +kernel
theorem own_pd5 : parseMethodDescriptor "()Z" = some ⟨[], some .boolean⟩ := by decide +kernel
theorem own_pd6 : parseMethodDescriptor "()Ljava/util/Optional;" = some ⟨[], some (.object "java/util/Optional")⟩ := by decide +kernel
theorem own_pd7 : parseMethodDescriptor "()Ljava/lang/Object;" = some ⟨[], some (.object "java/lang/Object")⟩ := by decide +kernel
set_option maxRecDepth 65536 in
set_option maxHeartbeats 40000000 in
theorem rm0 (l : Launch) (Z : State) (a0 : Array Value) (hw : ∀ d ∈ tables_1, d.before a0 Z = true) (ws : List Jvm.Cond) (p0 : Int32) (w : Nat → Addr) (wE : Addr) (h0 : Heap) (n0 : Nat) (O0 : Old Z n0 h0) (S_TOKEN_MISSING : Sta Z Z.heap "com/example/firm_gate/firmgate/RefusalReason" "TOKEN_MISSING" "Lcom/example/firm_gate/firmgate/RefusalReason;" (.ref (w 0))) (S_BAD_FORMAT : Sta Z Z.heap "com/example/firm_gate/firmgate/RefusalReason" "BAD_FORMAT" "Lcom/example/firm_gate/firmgate/RefusalReason;" (.ref (w 1))) (S_ISSUER_NOT_ALLOWED : Sta Z Z.heap "com/example/firm_gate/firmgate/RefusalReason" "ISSUER_NOT_ALLOWED" "Lcom/example/firm_gate/firmgate/RefusalReason;" (.ref (w 2))) (S_KEY_RETRIEVAL_ERROR : Sta Z Z.heap "com/example/firm_gate/firmgate/RefusalReason" "KEY_RETRIEVAL_ERROR" "Lcom/example/firm_gate/firmgate/RefusalReason;" (.ref (w 3))) (S_SIGNATURE_INVALID : Sta Z Z.heap "com/example/firm_gate/firmgate/RefusalReason" "SIGNATURE_INVALID" "Lcom/example/firm_gate/firmgate/RefusalReason;" (.ref (w 4))) (S_TIME_CONSTRAINT_FAILURE : Sta Z Z.heap "com/example/firm_gate/firmgate/RefusalReason" "TIME_CONSTRAINT_FAILURE" "Lcom/example/firm_gate/firmgate/RefusalReason;" (.ref (w 5))) (S_AUDIENCE_NOT_ALLOWED : Sta Z Z.heap "com/example/firm_gate/firmgate/RefusalReason" "AUDIENCE_NOT_ALLOWED" "Lcom/example/firm_gate/firmgate/RefusalReason;" (.ref (w 6))) (S_SUBJECT_NOT_ALLOWED : Sta Z Z.heap "com/example/firm_gate/firmgate/RefusalReason" "SUBJECT_NOT_ALLOWED" "Lcom/example/firm_gate/firmgate/RefusalReason;" (.ref (w 7))) (hE : ∀ i, i < 8 → Exa Z Z.heap (w i) "com/example/firm_gate/firmgate/RefusalReason") (S_E : Sta Z Z.heap "java/util/Optional" "EMPTY" "Ljava/util/Optional;" (.ref wE)) (E_E : Exa Z Z.heap wE "java/util/Optional") (F_E : Fld Z Z.heap wE "java/util/Optional" "value" "Ljava/lang/Object;" .null) :
    MetFree l x (head1 (Jvm.Cond.code x code maxLocals ret :: ws) room_1) (fun a U => a = #[(.int p0)] ∧ Z.Warmed39 U.vm ∧ U.heap = h0) (fun _ _ _ _ _ => True) (fun _ U o U' => ∃ v L, o = .returned v ∧ Q0 Z p0 w wE h0 n0 v U'.heap L ∧ FrameEnd U o U' L room_1.cells room_1.slots) := by
  refine MetFree.of_bodySF (plainFor_of_name own_pn_com_example_firm_gate_firmgate_TokenDecisionRefusePinLaw) hisR ?_
  intro p e s m args below meth c s₁ Bd hml0 hP hK
  obtain ⟨rfl, hZ, hh⟩ := hP
  have hx := Bd.exec
  have hby := Bd.bytes
  have hml : c.maxLocals = 6 := hml0
  have hown : s.vm.findClass "com/example/firm_gate/firmgate/TokenDecisionRefusePinLaw" = some m.cls := findClass_of_methodNamed Bd.named
  have hnm := (name_of_methodNamed Bd.named Bd.method).1
  have X0 : Stand p l e room_1 s m #[(.int p0)] below meth c s₁ [] 0 0 := Stand.of_body Bd
  have e0 : s₁.heap = h0 := by rw [← hh, Bd.state]; rfl
  have N0 := Fr.nil n0
  change Go p.tables e below _ _
  refine own_on (B := s₁.setTop (mkF m 0 #[.val (.int p0), .unset, .unset, .unset, .unset, .unset] [])) (fun tz kz => castTop (own_ef_0 m p0) kz) ?_
  refine own_on (B := s₁.setTop (mkF m 2 #[.val (.int p0), .unset, .unset, .unset, .unset, .unset] [(.int (8 : Int32))])) (fun tz kz => ?_) ?_
  · show Steps p.tables e below (s₁.setTop (mkF m 0 #[.val (.int p0), .unset, .unset, .unset, .unset, .unset] [])) tz
    refine XS.bipush X0.here hx rfl (hb hby at_0) ?_
    exact kz
  obtain ⟨T1, h1, k1, X1, e1, E1, A1, Ov1, st1⟩ := newR X0 hx hZ hown (hw _ (List.mem_of_getElem? (i := 0) rfl)) (hw _ (List.mem_of_getElem? (i := 1) rfl)) e0 (g := (mkF m 2 #[.val (.int p0), .unset, .unset, .unset, .unset, .unset] [(.int (8 : Int32))])) rfl (hb hby at_2) rfl (by decide) (cap := 8) (by decide) (by decide) (by decide) (by decide)
  obtain ⟨b1, g1⟩ : ∃ z, z = h0.size := ⟨_, rfl⟩
  rw [← g1] at A1 st1
  have g_b1 : n0 ≤ b1 := Nat.le_trans (own_old O0) (Nat.le_of_eq g1.symm)
  have sz_b1 : h0.size ≤ b1 := Nat.le_trans (Keep.refl h0 []).1 (Nat.le_of_eq g1.symm)
  have O2 := O0.ext E1
  have K2 : Keep h0 h1 [] := (Keep.refl h0 []).ext E1
  have V1 : Arv Z h1 b1 k1 (.object "com/example/firm_gate/firmgate/RefusalReason") (8 : Int32) [.null, .null, .null, .null, .null, .null, .null, .null] .null := (Arv.new A1 (by decide)).pad (pad_rep [] .null 8)
  refine own_on (B := T1.setTop (mkF m 5 #[.val (.int p0), .unset, .unset, .unset, .unset, .unset] [(.ref b1)])) (fun tz kz => st1 _ kz) ?_
  refine own_on (B := T1.setTop (mkF m 7 #[.val (.int p0), .unset, .unset, .unset, .unset, .unset] [(.int (0 : Int32)), (.ref b1), (.ref b1)])) (fun tz kz => ?_) ?_
  · show Steps p.tables e below (T1.setTop (mkF m 5 #[.val (.int p0), .unset, .unset, .unset, .unset, .unset] [(.ref b1)])) tz
    refine XS.dup X1.here hx rfl (hb hby at_5) rfl rfl ?_
    show Steps p.tables e below (T1.setTop (mkF m 6 #[.val (.int p0), .unset, .unset, .unset, .unset, .unset] [(.ref b1), (.ref b1)])) tz
    refine XS.iconst X1.here hx rfl (hb hby at_6) ?_
    exact kz
  obtain ⟨T3, X3, e3, st3⟩ := getS2 X1 hx hZ hown (host := "") (Or.inl (hw _ (List.mem_of_getElem? (i := 2) rfl))) Via.refl e1 (S_TOKEN_MISSING.ext O2.2) (g := (mkF m 7 #[.val (.int p0), .unset, .unset, .unset, .unset, .unset] [(.int (0 : Int32)), (.ref b1), (.ref b1)])) rfl (hb hby at_7)
  refine own_on (B := T3.setTop (mkF m 10 #[.val (.int p0), .unset, .unset, .unset, .unset, .unset] [(.ref (w 0)), (.int (0 : Int32)), (.ref b1), (.ref b1)])) (fun tz kz => st3 _ kz) ?_
  obtain ⟨cl4, Ar4, q4, S4, M4, H4, G4⟩ := id V1
  have hin5 : ¬ ((0 : Int32) < 0 ∨ cl4.slots.size ≤ ((0 : Int32)).toNatClampNeg) := inb_of S4 ⟨by decide, by decide⟩
  obtain ⟨T5, h5, X5, e5, W5, st5⟩ := stR X3 hx hZ e3 Ar4 (j := (0 : Int32)) (v := (.ref (w 0))) hin5 rfl (Sto.ofV Ar4 q4 Ov1 (Ins.self ((hE 0 (by decide)).ext O2.2))) (g := (mkF m 10 #[.val (.int p0), .unset, .unset, .unset, .unset, .unset] [(.ref (w 0)), (.int (0 : Int32)), (.ref b1), (.ref b1)])) rfl rfl (hb hby at_10)
  have V5 : Arv Z h5 b1 k1 (.object "com/example/firm_gate/firmgate/RefusalReason") (8 : Int32) [(.ref (w 0)), .null, .null, .null, .null, .null, .null, .null] .null := Arv.set Ar4 q4 S4 M4 H4 G4 rfl W5 0 rfl (Nat.le_of_ble_eq_true rfl)
  have N5 := Fr.snoc X5 N0 g_b1
  have O6 := O2.wr W5 g_b1
  have K6 : Keep h0 h5 [] := K2.wr W5 (Or.inr sz_b1)
  refine own_on (B := T5.setTop (mkF m 11 #[.val (.int p0), .unset, .unset, .unset, .unset, .unset] [(.ref b1)])) (fun tz kz => st5 _ kz) ?_
  refine own_on (B := T5.setTop (mkF m 13 #[.val (.int p0), .unset, .unset, .unset, .unset, .unset] [(.int (1 : Int32)), (.ref b1), (.ref b1)])) (fun tz kz => ?_) ?_
  · show Steps p.tables e below (T5.setTop (mkF m 11 #[.val (.int p0), .unset, .unset, .unset, .unset, .unset] [(.ref b1)])) tz
    refine XS.dup X5.here hx rfl (hb hby at_11) rfl rfl ?_
    show Steps p.tables e below (T5.setTop (mkF m 12 #[.val (.int p0), .unset, .unset, .unset, .unset, .unset] [(.ref b1), (.ref b1)])) tz
    refine XS.iconst X5.here hx rfl (hb hby at_12) ?_
    exact kz
  obtain ⟨T7, X7, e7, st7⟩ := getS2 X5 hx hZ hown (host := "") (Or.inl (hw _ (List.mem_of_getElem? (i := 6) rfl))) Via.refl e5 (S_BAD_FORMAT.ext O6.2) (g := (mkF m 13 #[.val (.int p0), .unset, .unset, .unset, .unset, .unset] [(.int (1 : Int32)), (.ref b1), (.ref b1)])) rfl (hb hby at_13)
  refine own_on (B := T7.setTop (mkF m 16 #[.val (.int p0), .unset, .unset, .unset, .unset, .unset] [(.ref (w 1)), (.int (1 : Int32)), (.ref b1), (.ref b1)])) (fun tz kz => st7 _ kz) ?_
  obtain ⟨cl8, Ar8, q8, S8, M8, H8, G8⟩ := id V5
  have hin9 : ¬ ((1 : Int32) < 0 ∨ cl8.slots.size ≤ ((1 : Int32)).toNatClampNeg) := inb_of S8 ⟨by decide, by decide⟩
  obtain ⟨T9, h9, X9, e9, W9, st9⟩ := stR X7 hx hZ e7 Ar8 (j := (1 : Int32)) (v := (.ref (w 1))) hin9 rfl (Sto.ofV Ar8 q8 Ov1 (Ins.self ((hE 1 (by decide)).ext O6.2))) (g := (mkF m 16 #[.val (.int p0), .unset, .unset, .unset, .unset, .unset] [(.ref (w 1)), (.int (1 : Int32)), (.ref b1), (.ref b1)])) rfl rfl (hb hby at_16)
  have V9 : Arv Z h9 b1 k1 (.object "com/example/firm_gate/firmgate/RefusalReason") (8 : Int32) [(.ref (w 0)), (.ref (w 1)), .null, .null, .null, .null, .null, .null] .null := Arv.set Ar8 q8 S8 M8 H8 G8 rfl W9 1 rfl (Nat.le_of_ble_eq_true rfl)
  have N9 := Fr.snoc X9 N5 g_b1
  have O10 := O6.wr W9 g_b1
  have K10 : Keep h0 h9 [] := K6.wr W9 (Or.inr sz_b1)
  refine own_on (B := T9.setTop (mkF m 17 #[.val (.int p0), .unset, .unset, .unset, .unset, .unset] [(.ref b1)])) (fun tz kz => st9 _ kz) ?_
  refine own_on (B := T9.setTop (mkF m 19 #[.val (.int p0), .unset, .unset, .unset, .unset, .unset] [(.int (2 : Int32)), (.ref b1), (.ref b1)])) (fun tz kz => ?_) ?_
  · show Steps p.tables e below (T9.setTop (mkF m 17 #[.val (.int p0), .unset, .unset, .unset, .unset, .unset] [(.ref b1)])) tz
    refine XS.dup X9.here hx rfl (hb hby at_17) rfl rfl ?_
    show Steps p.tables e below (T9.setTop (mkF m 18 #[.val (.int p0), .unset, .unset, .unset, .unset, .unset] [(.ref b1), (.ref b1)])) tz
    refine XS.iconst X9.here hx rfl (hb hby at_18) ?_
    exact kz
  obtain ⟨T11, X11, e11, st11⟩ := getS2 X9 hx hZ hown (host := "") (Or.inl (hw _ (List.mem_of_getElem? (i := 8) rfl))) Via.refl e9 (S_ISSUER_NOT_ALLOWED.ext O10.2) (g := (mkF m 19 #[.val (.int p0), .unset, .unset, .unset, .unset, .unset] [(.int (2 : Int32)), (.ref b1), (.ref b1)])) rfl (hb hby at_19)
  refine own_on (B := T11.setTop (mkF m 22 #[.val (.int p0), .unset, .unset, .unset, .unset, .unset] [(.ref (w 2)), (.int (2 : Int32)), (.ref b1), (.ref b1)])) (fun tz kz => st11 _ kz) ?_
  obtain ⟨cl12, Ar12, q12, S12, M12, H12, G12⟩ := id V9
  have hin13 : ¬ ((2 : Int32) < 0 ∨ cl12.slots.size ≤ ((2 : Int32)).toNatClampNeg) := inb_of S12 ⟨by decide, by decide⟩
  obtain ⟨T13, h13, X13, e13, W13, st13⟩ := stR X11 hx hZ e11 Ar12 (j := (2 : Int32)) (v := (.ref (w 2))) hin13 rfl (Sto.ofV Ar12 q12 Ov1 (Ins.self ((hE 2 (by decide)).ext O10.2))) (g := (mkF m 22 #[.val (.int p0), .unset, .unset, .unset, .unset, .unset] [(.ref (w 2)), (.int (2 : Int32)), (.ref b1), (.ref b1)])) rfl rfl (hb hby at_22)
  have V13 : Arv Z h13 b1 k1 (.object "com/example/firm_gate/firmgate/RefusalReason") (8 : Int32) [(.ref (w 0)), (.ref (w 1)), (.ref (w 2)), .null, .null, .null, .null, .null] .null := Arv.set Ar12 q12 S12 M12 H12 G12 rfl W13 2 rfl (Nat.le_of_ble_eq_true rfl)
  have N13 := Fr.snoc X13 N9 g_b1
  have O14 := O10.wr W13 g_b1
  have K14 : Keep h0 h13 [] := K10.wr W13 (Or.inr sz_b1)
  refine own_on (B := T13.setTop (mkF m 23 #[.val (.int p0), .unset, .unset, .unset, .unset, .unset] [(.ref b1)])) (fun tz kz => st13 _ kz) ?_
  refine own_on (B := T13.setTop (mkF m 25 #[.val (.int p0), .unset, .unset, .unset, .unset, .unset] [(.int (3 : Int32)), (.ref b1), (.ref b1)])) (fun tz kz => ?_) ?_
  · show Steps p.tables e below (T13.setTop (mkF m 23 #[.val (.int p0), .unset, .unset, .unset, .unset, .unset] [(.ref b1)])) tz
    refine XS.dup X13.here hx rfl (hb hby at_23) rfl rfl ?_
    show Steps p.tables e below (T13.setTop (mkF m 24 #[.val (.int p0), .unset, .unset, .unset, .unset, .unset] [(.ref b1), (.ref b1)])) tz
    refine XS.iconst X13.here hx rfl (hb hby at_24) ?_
    exact kz
  obtain ⟨T15, X15, e15, st15⟩ := getS2 X13 hx hZ hown (host := "") (Or.inl (hw _ (List.mem_of_getElem? (i := 10) rfl))) Via.refl e13 (S_KEY_RETRIEVAL_ERROR.ext O14.2) (g := (mkF m 25 #[.val (.int p0), .unset, .unset, .unset, .unset, .unset] [(.int (3 : Int32)), (.ref b1), (.ref b1)])) rfl (hb hby at_25)
  refine own_on (B := T15.setTop (mkF m 28 #[.val (.int p0), .unset, .unset, .unset, .unset, .unset] [(.ref (w 3)), (.int (3 : Int32)), (.ref b1), (.ref b1)])) (fun tz kz => st15 _ kz) ?_
  obtain ⟨cl16, Ar16, q16, S16, M16, H16, G16⟩ := id V13
  have hin17 : ¬ ((3 : Int32) < 0 ∨ cl16.slots.size ≤ ((3 : Int32)).toNatClampNeg) := inb_of S16 ⟨by decide, by decide⟩
  obtain ⟨T17, h17, X17, e17, W17, st17⟩ := stR X15 hx hZ e15 Ar16 (j := (3 : Int32)) (v := (.ref (w 3))) hin17 rfl (Sto.ofV Ar16 q16 Ov1 (Ins.self ((hE 3 (by decide)).ext O14.2))) (g := (mkF m 28 #[.val (.int p0), .unset, .unset, .unset, .unset, .unset] [(.ref (w 3)), (.int (3 : Int32)), (.ref b1), (.ref b1)])) rfl rfl (hb hby at_28)
  have V17 : Arv Z h17 b1 k1 (.object "com/example/firm_gate/firmgate/RefusalReason") (8 : Int32) [(.ref (w 0)), (.ref (w 1)), (.ref (w 2)), (.ref (w 3)), .null, .null, .null, .null] .null := Arv.set Ar16 q16 S16 M16 H16 G16 rfl W17 3 rfl (Nat.le_of_ble_eq_true rfl)
  have N17 := Fr.snoc X17 N13 g_b1
  have O18 := O14.wr W17 g_b1
  have K18 : Keep h0 h17 [] := K14.wr W17 (Or.inr sz_b1)
  refine own_on (B := T17.setTop (mkF m 29 #[.val (.int p0), .unset, .unset, .unset, .unset, .unset] [(.ref b1)])) (fun tz kz => st17 _ kz) ?_
  refine own_on (B := T17.setTop (mkF m 31 #[.val (.int p0), .unset, .unset, .unset, .unset, .unset] [(.int (4 : Int32)), (.ref b1), (.ref b1)])) (fun tz kz => ?_) ?_
  · show Steps p.tables e below (T17.setTop (mkF m 29 #[.val (.int p0), .unset, .unset, .unset, .unset, .unset] [(.ref b1)])) tz
    refine XS.dup X17.here hx rfl (hb hby at_29) rfl rfl ?_
    show Steps p.tables e below (T17.setTop (mkF m 30 #[.val (.int p0), .unset, .unset, .unset, .unset, .unset] [(.ref b1), (.ref b1)])) tz
    refine XS.iconst X17.here hx rfl (hb hby at_30) ?_
    exact kz
  obtain ⟨T19, X19, e19, st19⟩ := getS2 X17 hx hZ hown (host := "") (Or.inl (hw _ (List.mem_of_getElem? (i := 12) rfl))) Via.refl e17 (S_SIGNATURE_INVALID.ext O18.2) (g := (mkF m 31 #[.val (.int p0), .unset, .unset, .unset, .unset, .unset] [(.int (4 : Int32)), (.ref b1), (.ref b1)])) rfl (hb hby at_31)
  refine own_on (B := T19.setTop (mkF m 34 #[.val (.int p0), .unset, .unset, .unset, .unset, .unset] [(.ref (w 4)), (.int (4 : Int32)), (.ref b1), (.ref b1)])) (fun tz kz => st19 _ kz) ?_
  obtain ⟨cl20, Ar20, q20, S20, M20, H20, G20⟩ := id V17
  have hin21 : ¬ ((4 : Int32) < 0 ∨ cl20.slots.size ≤ ((4 : Int32)).toNatClampNeg) := inb_of S20 ⟨by decide, by decide⟩
  obtain ⟨T21, h21, X21, e21, W21, st21⟩ := stR X19 hx hZ e19 Ar20 (j := (4 : Int32)) (v := (.ref (w 4))) hin21 rfl (Sto.ofV Ar20 q20 Ov1 (Ins.self ((hE 4 (by decide)).ext O18.2))) (g := (mkF m 34 #[.val (.int p0), .unset, .unset, .unset, .unset, .unset] [(.ref (w 4)), (.int (4 : Int32)), (.ref b1), (.ref b1)])) rfl rfl (hb hby at_34)
  have V21 : Arv Z h21 b1 k1 (.object "com/example/firm_gate/firmgate/RefusalReason") (8 : Int32) [(.ref (w 0)), (.ref (w 1)), (.ref (w 2)), (.ref (w 3)), (.ref (w 4)), .null, .null, .null] .null := Arv.set Ar20 q20 S20 M20 H20 G20 rfl W21 4 rfl (Nat.le_of_ble_eq_true rfl)
  have N21 := Fr.snoc X21 N17 g_b1
  have O22 := O18.wr W21 g_b1
  have K22 : Keep h0 h21 [] := K18.wr W21 (Or.inr sz_b1)
  refine own_on (B := T21.setTop (mkF m 35 #[.val (.int p0), .unset, .unset, .unset, .unset, .unset] [(.ref b1)])) (fun tz kz => st21 _ kz) ?_
  refine own_on (B := T21.setTop (mkF m 37 #[.val (.int p0), .unset, .unset, .unset, .unset, .unset] [(.int (5 : Int32)), (.ref b1), (.ref b1)])) (fun tz kz => ?_) ?_
  · show Steps p.tables e below (T21.setTop (mkF m 35 #[.val (.int p0), .unset, .unset, .unset, .unset, .unset] [(.ref b1)])) tz
    refine XS.dup X21.here hx rfl (hb hby at_35) rfl rfl ?_
    show Steps p.tables e below (T21.setTop (mkF m 36 #[.val (.int p0), .unset, .unset, .unset, .unset, .unset] [(.ref b1), (.ref b1)])) tz
    refine XS.iconst X21.here hx rfl (hb hby at_36) ?_
    exact kz
  obtain ⟨T23, X23, e23, st23⟩ := getS2 X21 hx hZ hown (host := "") (Or.inl (hw _ (List.mem_of_getElem? (i := 14) rfl))) Via.refl e21 (S_TIME_CONSTRAINT_FAILURE.ext O22.2) (g := (mkF m 37 #[.val (.int p0), .unset, .unset, .unset, .unset, .unset] [(.int (5 : Int32)), (.ref b1), (.ref b1)])) rfl (hb hby at_37)
  refine own_on (B := T23.setTop (mkF m 40 #[.val (.int p0), .unset, .unset, .unset, .unset, .unset] [(.ref (w 5)), (.int (5 : Int32)), (.ref b1), (.ref b1)])) (fun tz kz => st23 _ kz) ?_
  obtain ⟨cl24, Ar24, q24, S24, M24, H24, G24⟩ := id V21
  have hin25 : ¬ ((5 : Int32) < 0 ∨ cl24.slots.size ≤ ((5 : Int32)).toNatClampNeg) := inb_of S24 ⟨by decide, by decide⟩
  obtain ⟨T25, h25, X25, e25, W25, st25⟩ := stR X23 hx hZ e23 Ar24 (j := (5 : Int32)) (v := (.ref (w 5))) hin25 rfl (Sto.ofV Ar24 q24 Ov1 (Ins.self ((hE 5 (by decide)).ext O22.2))) (g := (mkF m 40 #[.val (.int p0), .unset, .unset, .unset, .unset, .unset] [(.ref (w 5)), (.int (5 : Int32)), (.ref b1), (.ref b1)])) rfl rfl (hb hby at_40)
  have V25 : Arv Z h25 b1 k1 (.object "com/example/firm_gate/firmgate/RefusalReason") (8 : Int32) [(.ref (w 0)), (.ref (w 1)), (.ref (w 2)), (.ref (w 3)), (.ref (w 4)), (.ref (w 5)), .null, .null] .null := Arv.set Ar24 q24 S24 M24 H24 G24 rfl W25 5 rfl (Nat.le_of_ble_eq_true rfl)
  have N25 := Fr.snoc X25 N21 g_b1
  have O26 := O22.wr W25 g_b1
  have K26 : Keep h0 h25 [] := K22.wr W25 (Or.inr sz_b1)
  refine own_on (B := T25.setTop (mkF m 41 #[.val (.int p0), .unset, .unset, .unset, .unset, .unset] [(.ref b1)])) (fun tz kz => st25 _ kz) ?_
  refine own_on (B := T25.setTop (mkF m 44 #[.val (.int p0), .unset, .unset, .unset, .unset, .unset] [(.int (6 : Int32)), (.ref b1), (.ref b1)])) (fun tz kz => ?_) ?_
  · show Steps p.tables e below (T25.setTop (mkF m 41 #[.val (.int p0), .unset, .unset, .unset, .unset, .unset] [(.ref b1)])) tz
    refine XS.dup X25.here hx rfl (hb hby at_41) rfl rfl ?_
    show Steps p.tables e below (T25.setTop (mkF m 42 #[.val (.int p0), .unset, .unset, .unset, .unset, .unset] [(.ref b1), (.ref b1)])) tz
    refine XS.bipush X25.here hx rfl (hb hby at_42) ?_
    exact kz
  obtain ⟨T27, X27, e27, st27⟩ := getS2 X25 hx hZ hown (host := "") (Or.inl (hw _ (List.mem_of_getElem? (i := 16) rfl))) Via.refl e25 (S_AUDIENCE_NOT_ALLOWED.ext O26.2) (g := (mkF m 44 #[.val (.int p0), .unset, .unset, .unset, .unset, .unset] [(.int (6 : Int32)), (.ref b1), (.ref b1)])) rfl (hb hby at_44)
  refine own_on (B := T27.setTop (mkF m 47 #[.val (.int p0), .unset, .unset, .unset, .unset, .unset] [(.ref (w 6)), (.int (6 : Int32)), (.ref b1), (.ref b1)])) (fun tz kz => st27 _ kz) ?_
  obtain ⟨cl28, Ar28, q28, S28, M28, H28, G28⟩ := id V25
  have hin29 : ¬ ((6 : Int32) < 0 ∨ cl28.slots.size ≤ ((6 : Int32)).toNatClampNeg) := inb_of S28 ⟨by decide, by decide⟩
  obtain ⟨T29, h29, X29, e29, W29, st29⟩ := stR X27 hx hZ e27 Ar28 (j := (6 : Int32)) (v := (.ref (w 6))) hin29 rfl (Sto.ofV Ar28 q28 Ov1 (Ins.self ((hE 6 (by decide)).ext O26.2))) (g := (mkF m 47 #[.val (.int p0), .unset, .unset, .unset, .unset, .unset] [(.ref (w 6)), (.int (6 : Int32)), (.ref b1), (.ref b1)])) rfl rfl (hb hby at_47)
  have V29 : Arv Z h29 b1 k1 (.object "com/example/firm_gate/firmgate/RefusalReason") (8 : Int32) [(.ref (w 0)), (.ref (w 1)), (.ref (w 2)), (.ref (w 3)), (.ref (w 4)), (.ref (w 5)), (.ref (w 6)), .null] .null := Arv.set Ar28 q28 S28 M28 H28 G28 rfl W29 6 rfl (Nat.le_of_ble_eq_true rfl)
  have N29 := Fr.snoc X29 N25 g_b1
  have O30 := O26.wr W29 g_b1
  have K30 : Keep h0 h29 [] := K26.wr W29 (Or.inr sz_b1)
  refine own_on (B := T29.setTop (mkF m 48 #[.val (.int p0), .unset, .unset, .unset, .unset, .unset] [(.ref b1)])) (fun tz kz => st29 _ kz) ?_
  refine own_on (B := T29.setTop (mkF m 51 #[.val (.int p0), .unset, .unset, .unset, .unset, .unset] [(.int (7 : Int32)), (.ref b1), (.ref b1)])) (fun tz kz => ?_) ?_
  · show Steps p.tables e below (T29.setTop (mkF m 48 #[.val (.int p0), .unset, .unset, .unset, .unset, .unset] [(.ref b1)])) tz
    refine XS.dup X29.here hx rfl (hb hby at_48) rfl rfl ?_
    show Steps p.tables e below (T29.setTop (mkF m 49 #[.val (.int p0), .unset, .unset, .unset, .unset, .unset] [(.ref b1), (.ref b1)])) tz
    refine XS.bipush X29.here hx rfl (hb hby at_49) ?_
    exact kz
  obtain ⟨T31, X31, e31, st31⟩ := getS2 X29 hx hZ hown (host := "") (Or.inl (hw _ (List.mem_of_getElem? (i := 18) rfl))) Via.refl e29 (S_SUBJECT_NOT_ALLOWED.ext O30.2) (g := (mkF m 51 #[.val (.int p0), .unset, .unset, .unset, .unset, .unset] [(.int (7 : Int32)), (.ref b1), (.ref b1)])) rfl (hb hby at_51)
  refine own_on (B := T31.setTop (mkF m 54 #[.val (.int p0), .unset, .unset, .unset, .unset, .unset] [(.ref (w 7)), (.int (7 : Int32)), (.ref b1), (.ref b1)])) (fun tz kz => st31 _ kz) ?_
  obtain ⟨cl32, Ar32, q32, S32, M32, H32, G32⟩ := id V29
  have hin33 : ¬ ((7 : Int32) < 0 ∨ cl32.slots.size ≤ ((7 : Int32)).toNatClampNeg) := inb_of S32 ⟨by decide, by decide⟩
  obtain ⟨T33, h33, X33, e33, W33, st33⟩ := stR X31 hx hZ e31 Ar32 (j := (7 : Int32)) (v := (.ref (w 7))) hin33 rfl (Sto.ofV Ar32 q32 Ov1 (Ins.self ((hE 7 (by decide)).ext O30.2))) (g := (mkF m 54 #[.val (.int p0), .unset, .unset, .unset, .unset, .unset] [(.ref (w 7)), (.int (7 : Int32)), (.ref b1), (.ref b1)])) rfl rfl (hb hby at_54)
  have V33 : Arv Z h33 b1 k1 (.object "com/example/firm_gate/firmgate/RefusalReason") (8 : Int32) [(.ref (w 0)), (.ref (w 1)), (.ref (w 2)), (.ref (w 3)), (.ref (w 4)), (.ref (w 5)), (.ref (w 6)), (.ref (w 7))] .null := Arv.set Ar32 q32 S32 M32 H32 G32 rfl W33 7 rfl (Nat.le_of_ble_eq_true rfl)
  have N33 := Fr.snoc X33 N29 g_b1
  have O34 := O30.wr W33 g_b1
  have K34 : Keep h0 h33 [] := K30.wr W33 (Or.inr sz_b1)
  refine own_on (B := T33.setTop (mkF m 55 #[.val (.int p0), .unset, .unset, .unset, .unset, .unset] [(.ref b1)])) (fun tz kz => st33 _ kz) ?_
  refine own_on (B := T33.setTop (mkF m 61 #[.val (.int p0), .val (.ref b1), .unset, .unset, .unset, .unset] [(.int (p0 &&& (7 : Int32))), (.ref b1)])) (fun tz kz => ?_) ?_
  · show Steps p.tables e below (T33.setTop (mkF m 55 #[.val (.int p0), .unset, .unset, .unset, .unset, .unset] [(.ref b1)])) tz
    refine XS.astoreN X33.here hx rfl (hb hby at_55) rfl rfl (l' := #[.val (.int p0), .val (.ref b1), .unset, .unset, .unset, .unset]) rfl ?_
    show Steps p.tables e below (T33.setTop (mkF m 56 #[.val (.int p0), .val (.ref b1), .unset, .unset, .unset, .unset] [])) tz
    refine XS.aloadN X33.here hx rfl (hb hby at_56) rfl rfl ?_
    show Steps p.tables e below (T33.setTop (mkF m 57 #[.val (.int p0), .val (.ref b1), .unset, .unset, .unset, .unset] [(.ref b1)])) tz
    refine XS.iloadN X33.here hx rfl (hb hby at_57) rfl ?_
    show Steps p.tables e below (T33.setTop (mkF m 58 #[.val (.int p0), .val (.ref b1), .unset, .unset, .unset, .unset] [(.int p0), (.ref b1)])) tz
    refine XS.bipush X33.here hx rfl (hb hby at_58) ?_
    show Steps p.tables e below (T33.setTop (mkF m 60 #[.val (.int p0), .val (.ref b1), .unset, .unset, .unset, .unset] [(.int (7 : Int32)), (.int p0), (.ref b1)])) tz
    refine XS.iand X33.here hx rfl (hb hby at_60) rfl ?_
    exact kz
  generalize hv_k : (p0 &&& (7 : Int32)) = k
  obtain ⟨hk0, hk1, hk2⟩ := own_idx _ _ hv_k
  obtain ⟨cl35, Ar35, q35, S35, M35, H35, G35⟩ := id V33
  have hin36 : ¬ (k < 0 ∨ cl35.slots.size ≤ (k).toNatClampNeg) := inb_of S35 ⟨hk0, hk1⟩
  have hat36 : cl35.slots[(k).toNatClampNeg]? = some (.ref (w k.toNatClampNeg)) := Has.at H35 hin36 (own_at w _ hk2)
  refine own_on (B := T33.setTop (mkF m 64 #[.val (.int p0), .val (.ref b1), .val (.ref (w k.toNatClampNeg)), .unset, .unset, .unset] [(.ref (w k.toNatClampNeg))])) (fun tz kz => ?_) ?_
  · show Steps p.tables e below (T33.setTop (mkF m 61 #[.val (.int p0), .val (.ref b1), .unset, .unset, .unset, .unset] [(.int k), (.ref b1)])) tz
    refine X33.aaload hx (j := k) (v := (.ref (w k.toNatClampNeg))) (by rw [e33]; exact Ar35.1) (State.isArrayOf_alike hZ.alike Ar35.2.1) rfl Ar35.2.2 hin36 hat36 (g := (mkF m 61 #[.val (.int p0), .val (.ref b1), .unset, .unset, .unset, .unset] [(.int k), (.ref b1)])) rfl rfl (hb hby at_61) _ ?_
    show Steps p.tables e below (T33.setTop (mkF m 62 #[.val (.int p0), .val (.ref b1), .unset, .unset, .unset, .unset] [(.ref (w k.toNatClampNeg))])) tz
    refine XS.astoreN X33.here hx rfl (hb hby at_62) rfl rfl (l' := #[.val (.int p0), .val (.ref b1), .val (.ref (w k.toNatClampNeg)), .unset, .unset, .unset]) rfl ?_
    show Steps p.tables e below (T33.setTop (mkF m 63 #[.val (.int p0), .val (.ref b1), .val (.ref (w k.toNatClampNeg)), .unset, .unset, .unset] [])) tz
    refine XS.aloadN X33.here hx rfl (hb hby at_63) rfl rfl ?_
    exact kz
  obtain ⟨_, _, ⟨T37, L37, k37, n37⟩, -, X37, ⟨Lc37, hQ37, l37, y37, z37⟩, st37⟩ := Jvm.LawKit.callS X33 hx (y := (⟨"com/example/firm_gate/firmgate/TokenDecision", "refuse", "(Lcom/example/firm_gate/firmgate/RefusalReason;)Lcom/example/firm_gate/firmgate/TokenDecision;"⟩ : MethodName)) hown (mvT hZ (hw _ (List.mem_of_getElem? (i := 20) rfl))) (mvT hZ (hw _ (List.mem_of_getElem? (i := 21) rfl))) (mvT hZ (hw _ (List.mem_of_getElem? (i := 22) rfl))) (mvT hZ (hw _ (List.mem_of_getElem? (i := 23) rfl))) (by decide) (backOf (W := 0) (rm1 l Z a0 hw [] (w k.toNatClampNeg)  h33 n0 O34 (hE _ hk2)) hZ (hw _ (List.mem_of_getElem? (i := 23) rfl)) (hw _ (List.mem_of_getElem? (i := 22) rfl)) (by decide) (by decide)) (g := (mkF m 64 #[.val (.int p0), .val (.ref b1), .val (.ref (w k.toNatClampNeg)), .unset, .unset, .unset] [(.ref (w k.toNatClampNeg))])) rfl (by rw [hml]; rfl) (argsL := [(.ref (w k.toNatClampNeg))]) (rest := []) (lenOf own_pd4 rfl) rfl (by show 2 * 0 + _ ≤ _; exact Nat.le_of_eq rfl) (hb hby at_64) (fun _ _ => ⟨rfl, e33, (by decide : 1 + 1 ≤ _), (by decide : 8 + 2 ≤ _)⟩)
  dsimp only [Pt.U, Pt.locs, Pt.cells, Pt.slots] at X37 l37 y37 z37 st37 hQ37
  subst l37 y37 z37
  obtain ⟨d37, rfl, Nq37, Kq37, zq37, Eq37, Fp37, Fq37⟩ := hQ37
  have N37 := Fr.app N33 Nq37
  have ne_b1_d37 : b1 ≠ d37 := Nat.ne_of_lt (Nat.lt_of_lt_of_le (V33).lt zq37)
  have g_d37 : n0 ≤ d37 := Nat.le_trans (own_old O34) zq37
  have sz_d37 : h0.size ≤ d37 := Nat.le_trans K34.1 zq37
  have O38 := O34.keep Kq37 all0
  have K38 : Keep h0 T37.heap [] := K34.trans Kq37 all0
  refine own_on (B := T37.setTop (mkF m 67 #[.val (.int p0), .val (.ref b1), .val (.ref (w k.toNatClampNeg)), .unset, .unset, .unset] [(.ref d37)])) (fun tz kz => st37 _ kz) ?_
  refine own_on (B := T37.setTop (mkF m 75 #[.val (.int p0), .val (.ref b1), .val (.ref (w k.toNatClampNeg)), .val (.ref d37), .unset, .unset] [(.ref d37)])) (fun tz kz => ?_) ?_
  · show Steps p.tables e below (T37.setTop (mkF m 67 #[.val (.int p0), .val (.ref b1), .val (.ref (w k.toNatClampNeg)), .unset, .unset, .unset] [(.ref d37)])) tz
    refine XS.astoreN X37.here hx rfl (hb hby at_67) rfl rfl (l' := #[.val (.int p0), .val (.ref b1), .val (.ref (w k.toNatClampNeg)), .val (.ref d37), .unset, .unset]) rfl ?_
    show Steps p.tables e below (T37.setTop (mkF m 68 #[.val (.int p0), .val (.ref b1), .val (.ref (w k.toNatClampNeg)), .val (.ref d37), .unset, .unset] [])) tz
    refine XS.aloadN X37.here hx rfl (hb hby at_68) rfl rfl ?_
    show Steps p.tables e below (T37.setTop (mkF m 69 #[.val (.int p0), .val (.ref b1), .val (.ref (w k.toNatClampNeg)), .val (.ref d37), .unset, .unset] [(.ref d37)])) tz
    refine XS.ifnonnullYes X37.here hx rfl (pc0 := 69) (pc' := 74) rfl (hb hby at_69) rfl (by decide) (by decide) ?_
    show Steps p.tables e below (T37.setTop (mkF m 74 #[.val (.int p0), .val (.ref b1), .val (.ref (w k.toNatClampNeg)), .val (.ref d37), .unset, .unset] [])) tz
    refine XS.aloadN X37.here hx rfl (hb hby at_74) rfl rfl ?_
    exact kz
  obtain ⟨cq39, kq39, q39a, q39b, q39c⟩ := isOf hZ rfl Eq37
  obtain ⟨_, _, ⟨T39, L39, k39, n39⟩, -, X39, ⟨Lc39, hQ39, l39, y39, z39⟩, st39⟩ := X37.virtualBack hx (y := (⟨"com/example/firm_gate/firmgate/TokenDecision", "accepted", "()Z"⟩ : MethodName)) (z := (⟨"com/example/firm_gate/firmgate/TokenDecision", "accepted", "()Z"⟩ : MethodName)) hown (mvT hZ (hw _ (List.mem_of_getElem? (i := 41) rfl))) (mvT hZ (hw _ (List.mem_of_getElem? (i := 42) rfl))) (notFace_of_selects (args := #[]) (mvT hZ (hw _ (List.mem_of_getElem? (i := 44) rfl)))) (mvT hZ (hw _ (List.mem_of_getElem? (i := 44) rfl))) (mvT hZ (hw _ (List.mem_of_getElem? (i := 43) rfl))) (by decide) (backOf (W := 0) (rm5 l Z a0 hw [] d37 (w k.toNatClampNeg) T37.heap n0 O38 Fq37) hZ (hw _ (List.mem_of_getElem? (i := 45) rfl)) (hw _ (List.mem_of_getElem? (i := 22) rfl)) (by decide) (by decide)) q39a q39c (g := (mkF m 75 #[.val (.int p0), .val (.ref b1), .val (.ref (w k.toNatClampNeg)), .val (.ref d37), .unset, .unset] [(.ref d37)])) rfl (by rw [hml]; rfl) (Steps.refl _) (argsL := []) (rest := []) (lenOf own_pd5 rfl) rfl (by show 2 * 0 + _ ≤ _; exact Nat.le_of_eq rfl) (hb hby at_75) (fun _ _ => ⟨rfl, rfl, (by decide : 2 + 0 ≤ _), (by decide : 10 + 0 ≤ _)⟩)
  dsimp only [Pt.U, Pt.locs, Pt.cells, Pt.slots] at X39 l39 y39 z39 st39 hQ39
  subst l39 y39 z39
  obtain ⟨rfl, Nq39, e39⟩ := hQ39
  have N39 := Fr.app N37 Nq39
  refine own_on (B := T39.setTop (mkF m 78 #[.val (.int p0), .val (.ref b1), .val (.ref (w k.toNatClampNeg)), .val (.ref d37), .unset, .unset] [(.int (0 : Int32))])) (fun tz kz => st39.trans kz) ?_
  refine own_on (B := T39.setTop (mkF m 84 #[.val (.int p0), .val (.ref b1), .val (.ref (w k.toNatClampNeg)), .val (.ref d37), .unset, .unset] [(.ref d37)])) (fun tz kz => ?_) ?_
  · show Steps p.tables e below (T39.setTop (mkF m 78 #[.val (.int p0), .val (.ref b1), .val (.ref (w k.toNatClampNeg)), .val (.ref d37), .unset, .unset] [(.int (0 : Int32))])) tz
    refine XS.ifYes X39.here hx rfl (pc0 := 78) (pc' := 83) rfl (hb hby at_78) rfl ((if0 _ _).trans (teq rfl).1) (by decide) (by decide) ?_
    show Steps p.tables e below (T39.setTop (mkF m 83 #[.val (.int p0), .val (.ref b1), .val (.ref (w k.toNatClampNeg)), .val (.ref d37), .unset, .unset] [])) tz
    refine XS.aloadN X39.here hx rfl (hb hby at_83) rfl rfl ?_
    exact kz
  obtain ⟨cq40, kq40, q40a, q40b, q40c⟩ := isOf hZ e39 Eq37
  obtain ⟨_, _, ⟨T40, L40, k40, n40⟩, -, X40, ⟨Lc40, hQ40, l40, y40, z40⟩, st40⟩ := X39.virtualBack hx (y := (⟨"com/example/firm_gate/firmgate/TokenDecision", "principal", "()Ljava/util/Optional;"⟩ : MethodName)) (z := (⟨"com/example/firm_gate/firmgate/TokenDecision", "principal", "()Ljava/util/Optional;"⟩ : MethodName)) hown (mvT hZ (hw _ (List.mem_of_getElem? (i := 46) rfl))) (mvT hZ (hw _ (List.mem_of_getElem? (i := 47) rfl))) (notFace_of_selects (args := #[]) (mvT hZ (hw _ (List.mem_of_getElem? (i := 49) rfl)))) (mvT hZ (hw _ (List.mem_of_getElem? (i := 49) rfl))) (mvT hZ (hw _ (List.mem_of_getElem? (i := 48) rfl))) (by decide) (backOf (W := 0) (rm6 l Z a0 hw [] d37 wE T37.heap n0 O38 Fp37 S_E) hZ (hw _ (List.mem_of_getElem? (i := 50) rfl)) (hw _ (List.mem_of_getElem? (i := 22) rfl)) (by decide) (by decide)) q40a q40c (g := (mkF m 84 #[.val (.int p0), .val (.ref b1), .val (.ref (w k.toNatClampNeg)), .val (.ref d37), .unset, .unset] [(.ref d37)])) rfl (by rw [hml]; rfl) (Steps.refl _) (argsL := []) (rest := []) (lenOf own_pd6 rfl) rfl (by show 2 * 0 + _ ≤ _; exact Nat.le_of_eq rfl) (hb hby at_84) (fun _ _ => ⟨rfl, e39, (by decide : 2 + 0 ≤ _), (by decide : 10 + 0 ≤ _)⟩)
  dsimp only [Pt.U, Pt.locs, Pt.cells, Pt.slots] at X40 l40 y40 z40 st40 hQ40
  subst l40 y40 z40
  obtain ⟨rfl, Nq40, e40⟩ := hQ40
  have N40 := Fr.app N39 Nq40
  refine own_on (B := T40.setTop (mkF m 87 #[.val (.int p0), .val (.ref b1), .val (.ref (w k.toNatClampNeg)), .val (.ref d37), .unset, .unset] [(.ref wE)])) (fun tz kz => st40.trans kz) ?_
  refine own_on (B := T40.setTop (mkF m 96 #[.val (.int p0), .val (.ref b1), .val (.ref (w k.toNatClampNeg)), .val (.ref d37), .val (.ref wE), .unset] [(.ref wE)])) (fun tz kz => ?_) ?_
  · show Steps p.tables e below (T40.setTop (mkF m 87 #[.val (.int p0), .val (.ref b1), .val (.ref (w k.toNatClampNeg)), .val (.ref d37), .unset, .unset] [(.ref wE)])) tz
    refine XS.astore X40.here hx rfl (hb hby at_87) rfl rfl (l' := #[.val (.int p0), .val (.ref b1), .val (.ref (w k.toNatClampNeg)), .val (.ref d37), .val (.ref wE), .unset]) rfl ?_
    show Steps p.tables e below (T40.setTop (mkF m 89 #[.val (.int p0), .val (.ref b1), .val (.ref (w k.toNatClampNeg)), .val (.ref d37), .val (.ref wE), .unset] [])) tz
    refine XS.aload X40.here hx rfl (hb hby at_89) rfl rfl ?_
    show Steps p.tables e below (T40.setTop (mkF m 91 #[.val (.int p0), .val (.ref b1), .val (.ref (w k.toNatClampNeg)), .val (.ref d37), .val (.ref wE), .unset] [(.ref wE)])) tz
    refine XS.ifnullNo X40.here hx rfl (hb hby at_91) rfl ?_
    show Steps p.tables e below (T40.setTop (mkF m 94 #[.val (.int p0), .val (.ref b1), .val (.ref (w k.toNatClampNeg)), .val (.ref d37), .val (.ref wE), .unset] [])) tz
    refine XS.aload X40.here hx rfl (hb hby at_94) rfl rfl ?_
    exact kz
  obtain ⟨cq41, kq41, q41a, q41b, q41c⟩ := isOf hZ e40 (E_E.ext O38.2)
  obtain ⟨_, _, ⟨T41, L41, k41, n41⟩, -, X41, ⟨Lc41, hQ41, l41, y41, z41⟩, st41⟩ := X40.virtualBack hx (y := (⟨"java/util/Optional", "isPresent", "()Z"⟩ : MethodName)) (z := (⟨"java/util/Optional", "isPresent", "()Z"⟩ : MethodName)) hown (mvT hZ (hw _ (List.mem_of_getElem? (i := 56) rfl))) (mvT hZ (hw _ (List.mem_of_getElem? (i := 57) rfl))) (notFace_of_selects (args := #[]) (mvT hZ (hw _ (List.mem_of_getElem? (i := 59) rfl)))) (mvT hZ (hw _ (List.mem_of_getElem? (i := 59) rfl))) (mvT hZ (hw _ (List.mem_of_getElem? (i := 58) rfl))) (by decide) (backOf (W := 0) (rm8a l Z a0 hw [] wE  T37.heap n0 O38 (F_E.ext O38.2)) hZ (hw _ (List.mem_of_getElem? (i := 60) rfl)) (hw _ (List.mem_of_getElem? (i := 53) rfl)) (by decide) (by decide)) q41a q41c (g := (mkF m 96 #[.val (.int p0), .val (.ref b1), .val (.ref (w k.toNatClampNeg)), .val (.ref d37), .val (.ref wE), .unset] [(.ref wE)])) rfl (by rw [hml]; rfl) (Steps.refl _) (argsL := []) (rest := []) (lenOf own_pd5 rfl) rfl (by show 2 * 0 + _ ≤ _; exact Nat.le_of_eq rfl) (hb hby at_96) (fun _ _ => ⟨rfl, e40, (by decide : 2 + 0 ≤ _), (by decide : 10 + 0 ≤ _)⟩)
  dsimp only [Pt.U, Pt.locs, Pt.cells, Pt.slots] at X41 l41 y41 z41 st41 hQ41
  subst l41 y41 z41
  obtain ⟨rfl, Nq41, e41⟩ := hQ41
  have N41 := Fr.app N40 Nq41
  refine own_on (B := T41.setTop (mkF m 99 #[.val (.int p0), .val (.ref b1), .val (.ref (w k.toNatClampNeg)), .val (.ref d37), .val (.ref wE), .unset] [(.int (0 : Int32))])) (fun tz kz => st41.trans kz) ?_
  refine own_on (B := T41.setTop (mkF m 105 #[.val (.int p0), .val (.ref b1), .val (.ref (w k.toNatClampNeg)), .val (.ref d37), .val (.ref wE), .unset] [(.ref d37)])) (fun tz kz => ?_) ?_
  · show Steps p.tables e below (T41.setTop (mkF m 99 #[.val (.int p0), .val (.ref b1), .val (.ref (w k.toNatClampNeg)), .val (.ref d37), .val (.ref wE), .unset] [(.int (0 : Int32))])) tz
    refine XS.ifYes X41.here hx rfl (pc0 := 99) (pc' := 104) rfl (hb hby at_99) rfl ((if0 _ _).trans (teq rfl).1) (by decide) (by decide) ?_
    show Steps p.tables e below (T41.setTop (mkF m 104 #[.val (.int p0), .val (.ref b1), .val (.ref (w k.toNatClampNeg)), .val (.ref d37), .val (.ref wE), .unset] [])) tz
    refine XS.aloadN X41.here hx rfl (hb hby at_104) rfl rfl ?_
    exact kz
  obtain ⟨cq42, kq42, q42a, q42b, q42c⟩ := isOf hZ e41 Eq37
  obtain ⟨_, _, ⟨T42, L42, k42, n42⟩, -, X42, ⟨Lc42, hQ42, l42, y42, z42⟩, st42⟩ := X41.virtualBack hx (y := (⟨"com/example/firm_gate/firmgate/TokenDecision", "reason", "()Ljava/util/Optional;"⟩ : MethodName)) (z := (⟨"com/example/firm_gate/firmgate/TokenDecision", "reason", "()Ljava/util/Optional;"⟩ : MethodName)) hown (mvT hZ (hw _ (List.mem_of_getElem? (i := 63) rfl))) (mvT hZ (hw _ (List.mem_of_getElem? (i := 64) rfl))) (notFace_of_selects (args := #[]) (mvT hZ (hw _ (List.mem_of_getElem? (i := 66) rfl)))) (mvT hZ (hw _ (List.mem_of_getElem? (i := 66) rfl))) (mvT hZ (hw _ (List.mem_of_getElem? (i := 65) rfl))) (by decide) (backOf (W := 0) (rm9 l Z a0 hw [] d37 (w k.toNatClampNeg) T37.heap n0 O38 Fq37) hZ (hw _ (List.mem_of_getElem? (i := 67) rfl)) (hw _ (List.mem_of_getElem? (i := 22) rfl)) (by decide) (by decide)) q42a q42c (g := (mkF m 105 #[.val (.int p0), .val (.ref b1), .val (.ref (w k.toNatClampNeg)), .val (.ref d37), .val (.ref wE), .unset] [(.ref d37)])) rfl (by rw [hml]; rfl) (Steps.refl _) (argsL := []) (rest := []) (lenOf own_pd6 rfl) rfl (by show 2 * 0 + _ ≤ _; exact Nat.le_of_eq rfl) (hb hby at_105) (fun _ _ => ⟨rfl, e41, (by decide : 2 + 1 ≤ _), (by decide : 10 + 1 ≤ _)⟩)
  dsimp only [Pt.U, Pt.locs, Pt.cells, Pt.slots] at X42 l42 y42 z42 st42 hQ42
  subst l42 y42 z42
  obtain ⟨d42, rfl, Nq42, Kq42, zq42, Eq42, Fq42⟩ := hQ42
  have N42 := Fr.app N41 Nq42
  have f_43 := (V33.keep Kq37 nin0)
  have ne_b1_d42 : b1 ≠ d42 := Nat.ne_of_lt (Nat.lt_of_lt_of_le (f_43).lt zq42)
  have ne_d37_d42 : d37 ≠ d42 := Nat.ne_of_lt (Nat.lt_of_lt_of_le (Eq37).lt zq42)
  have g_d42 : n0 ≤ d42 := Nat.le_trans (own_old O38) zq42
  have sz_d42 : h0.size ≤ d42 := Nat.le_trans K38.1 zq42
  have O44 := O38.keep Kq42 all0
  have K44 : Keep h0 T42.heap [] := K38.trans Kq42 all0
  refine own_on (B := T42.setTop (mkF m 108 #[.val (.int p0), .val (.ref b1), .val (.ref (w k.toNatClampNeg)), .val (.ref d37), .val (.ref wE), .unset] [(.ref d42)])) (fun tz kz => st42.trans kz) ?_
  refine own_on (B := T42.setTop (mkF m 117 #[.val (.int p0), .val (.ref b1), .val (.ref (w k.toNatClampNeg)), .val (.ref d37), .val (.ref wE), .val (.ref d42)] [(.ref d42)])) (fun tz kz => ?_) ?_
  · show Steps p.tables e below (T42.setTop (mkF m 108 #[.val (.int p0), .val (.ref b1), .val (.ref (w k.toNatClampNeg)), .val (.ref d37), .val (.ref wE), .unset] [(.ref d42)])) tz
    refine XS.astore X42.here hx rfl (hb hby at_108) rfl rfl (l' := #[.val (.int p0), .val (.ref b1), .val (.ref (w k.toNatClampNeg)), .val (.ref d37), .val (.ref wE), .val (.ref d42)]) rfl ?_
    show Steps p.tables e below (T42.setTop (mkF m 110 #[.val (.int p0), .val (.ref b1), .val (.ref (w k.toNatClampNeg)), .val (.ref d37), .val (.ref wE), .val (.ref d42)] [])) tz
    refine XS.aload X42.here hx rfl (hb hby at_110) rfl rfl ?_
    show Steps p.tables e below (T42.setTop (mkF m 112 #[.val (.int p0), .val (.ref b1), .val (.ref (w k.toNatClampNeg)), .val (.ref d37), .val (.ref wE), .val (.ref d42)] [(.ref d42)])) tz
    refine XS.ifnullNo X42.here hx rfl (hb hby at_112) rfl ?_
    show Steps p.tables e below (T42.setTop (mkF m 115 #[.val (.int p0), .val (.ref b1), .val (.ref (w k.toNatClampNeg)), .val (.ref d37), .val (.ref wE), .val (.ref d42)] [])) tz
    refine XS.aload X42.here hx rfl (hb hby at_115) rfl rfl ?_
    exact kz
  obtain ⟨cq45, kq45, q45a, q45b, q45c⟩ := isOf hZ rfl Eq42
  obtain ⟨_, _, ⟨T45, L45, k45, n45⟩, -, X45, ⟨Lc45, hQ45, l45, y45, z45⟩, st45⟩ := X42.virtualBack hx (y := (⟨"java/util/Optional", "isPresent", "()Z"⟩ : MethodName)) (z := (⟨"java/util/Optional", "isPresent", "()Z"⟩ : MethodName)) hown (mvT hZ (hw _ (List.mem_of_getElem? (i := 56) rfl))) (mvT hZ (hw _ (List.mem_of_getElem? (i := 57) rfl))) (notFace_of_selects (args := #[]) (mvT hZ (hw _ (List.mem_of_getElem? (i := 59) rfl)))) (mvT hZ (hw _ (List.mem_of_getElem? (i := 59) rfl))) (mvT hZ (hw _ (List.mem_of_getElem? (i := 58) rfl))) (by decide) (backOf (W := 0) (rm8b l Z a0 hw [] d42 (w k.toNatClampNeg) T42.heap n0 O44 Fq42) hZ (hw _ (List.mem_of_getElem? (i := 60) rfl)) (hw _ (List.mem_of_getElem? (i := 53) rfl)) (by decide) (by decide)) q45a q45c (g := (mkF m 117 #[.val (.int p0), .val (.ref b1), .val (.ref (w k.toNatClampNeg)), .val (.ref d37), .val (.ref wE), .val (.ref d42)] [(.ref d42)])) rfl (by rw [hml]; rfl) (Steps.refl _) (argsL := []) (rest := []) (lenOf own_pd5 rfl) rfl (by show 2 * 0 + _ ≤ _; exact Nat.le_of_eq rfl) (hb hby at_117) (fun _ _ => ⟨rfl, rfl, (by decide : 3 + 0 ≤ _), (by decide : 11 + 0 ≤ _)⟩)
  dsimp only [Pt.U, Pt.locs, Pt.cells, Pt.slots] at X45 l45 y45 z45 st45 hQ45
  subst l45 y45 z45
  obtain ⟨rfl, Nq45, e45⟩ := hQ45
  have N45 := Fr.app N42 Nq45
  refine own_on (B := T45.setTop (mkF m 120 #[.val (.int p0), .val (.ref b1), .val (.ref (w k.toNatClampNeg)), .val (.ref d37), .val (.ref wE), .val (.ref d42)] [(.int (1 : Int32))])) (fun tz kz => st45.trans kz) ?_
  refine own_on (B := T45.setTop (mkF m 127 #[.val (.int p0), .val (.ref b1), .val (.ref (w k.toNatClampNeg)), .val (.ref d37), .val (.ref wE), .val (.ref d42)] [(.ref d42)])) (fun tz kz => ?_) ?_
  · show Steps p.tables e below (T45.setTop (mkF m 120 #[.val (.int p0), .val (.ref b1), .val (.ref (w k.toNatClampNeg)), .val (.ref d37), .val (.ref wE), .val (.ref d42)] [(.int (1 : Int32))])) tz
    refine XS.ifYes X45.here hx rfl (pc0 := 120) (pc' := 125) rfl (hb hby at_120) rfl ((if0 _ _).trans (feq (by decide : ¬ ((1 : Int32) = (0 : Int32)))).2) (by decide) (by decide) ?_
    show Steps p.tables e below (T45.setTop (mkF m 125 #[.val (.int p0), .val (.ref b1), .val (.ref (w k.toNatClampNeg)), .val (.ref d37), .val (.ref wE), .val (.ref d42)] [])) tz
    refine XS.aload X45.here hx rfl (hb hby at_125) rfl rfl ?_
    exact kz
  obtain ⟨cq46, kq46, q46a, q46b, q46c⟩ := isOf hZ e45 Eq42
  obtain ⟨_, _, ⟨T46, L46, k46, n46⟩, -, X46, ⟨Lc46, hQ46, l46, y46, z46⟩, st46⟩ := X45.virtualBack hx (y := (⟨"java/util/Optional", "get", "()Ljava/lang/Object;"⟩ : MethodName)) (z := (⟨"java/util/Optional", "get", "()Ljava/lang/Object;"⟩ : MethodName)) hown (mvT hZ (hw _ (List.mem_of_getElem? (i := 75) rfl))) (mvT hZ (hw _ (List.mem_of_getElem? (i := 76) rfl))) (notFace_of_selects (args := #[]) (mvT hZ (hw _ (List.mem_of_getElem? (i := 78) rfl)))) (mvT hZ (hw _ (List.mem_of_getElem? (i := 78) rfl))) (mvT hZ (hw _ (List.mem_of_getElem? (i := 77) rfl))) (by decide) (backOf (W := 0) (rm11 l Z a0 hw [] d42 (w k.toNatClampNeg) T42.heap n0 O44 Fq42) hZ (hw _ (List.mem_of_getElem? (i := 79) rfl)) (hw _ (List.mem_of_getElem? (i := 53) rfl)) (by decide) (by decide)) q46a q46c (g := (mkF m 127 #[.val (.int p0), .val (.ref b1), .val (.ref (w k.toNatClampNeg)), .val (.ref d37), .val (.ref wE), .val (.ref d42)] [(.ref d42)])) rfl (by rw [hml]; rfl) (Steps.refl _) (argsL := []) (rest := []) (lenOf own_pd7 rfl) rfl (by show 2 * 0 + _ ≤ _; exact Nat.le_of_eq rfl) (hb hby at_127) (fun _ _ => ⟨rfl, e45, (by decide : 3 + 0 ≤ _), (by decide : 11 + 0 ≤ _)⟩)
  dsimp only [Pt.U, Pt.locs, Pt.cells, Pt.slots] at X46 l46 y46 z46 st46 hQ46
  subst l46 y46 z46
  obtain ⟨rfl, Nq46, e46⟩ := hQ46
  have N46 := Fr.app N45 Nq46
  refine own_on (B := T46.setTop (mkF m 130 #[.val (.int p0), .val (.ref b1), .val (.ref (w k.toNatClampNeg)), .val (.ref d37), .val (.ref wE), .val (.ref d42)] [(.ref (w k.toNatClampNeg))])) (fun tz kz => st46.trans kz) ?_
  refine own_on (B := T46.setTop (mkF m 139 #[.val (.int p0), .val (.ref b1), .val (.ref (w k.toNatClampNeg)), .val (.ref d37), .val (.ref wE), .val (.ref d42)] [(.int (1 : Int32))])) (fun tz kz => ?_) ?_
  · show Steps p.tables e below (T46.setTop (mkF m 130 #[.val (.int p0), .val (.ref b1), .val (.ref (w k.toNatClampNeg)), .val (.ref d37), .val (.ref wE), .val (.ref d42)] [(.ref (w k.toNatClampNeg))])) tz
    refine XS.aloadN X46.here hx rfl (hb hby at_130) rfl rfl ?_
    show Steps p.tables e below (T46.setTop (mkF m 131 #[.val (.int p0), .val (.ref b1), .val (.ref (w k.toNatClampNeg)), .val (.ref d37), .val (.ref wE), .val (.ref d42)] [(.ref (w k.toNatClampNeg)), (.ref (w k.toNatClampNeg))])) tz
    refine Jvm.RoadKit.acmp (g := (mkF m 131 #[.val (.int p0), .val (.ref b1), .val (.ref (w k.toNatClampNeg)), .val (.ref d37), .val (.ref wE), .val (.ref d42)] [(.ref (w k.toNatClampNeg)), (.ref (w k.toNatClampNeg))])) X46 hx rfl rfl rfl (pc0 := 131) (pc' := 134) (same := true) rfl (hb hby at_131) rfl (decide_eq_true (congrArg Value.ref rfl)) (by decide) (by decide) ?_
    show Steps p.tables e below (T46.setTop (mkF m 134 #[.val (.int p0), .val (.ref b1), .val (.ref (w k.toNatClampNeg)), .val (.ref d37), .val (.ref wE), .val (.ref d42)] [])) tz
    refine XS.iconst X46.here hx rfl (hb hby at_134) ?_
    show Steps p.tables e below (T46.setTop (mkF m 135 #[.val (.int p0), .val (.ref b1), .val (.ref (w k.toNatClampNeg)), .val (.ref d37), .val (.ref wE), .val (.ref d42)] [(.int (1 : Int32))])) tz
    refine XS.goto X46.here hx rfl (pc0 := 135) (pc' := 139) rfl (hb hby at_135) (by decide) (by decide) ?_
    exact kz
  obtain ⟨fs, hr, hrun, hended, hW, hsame⟩ := X46.leave (v := some (.int (1 : Int32))) (fun h => by rw [Bd.returns] at h; cases h)
  refine own_of ⟨_, _, ?_, hrun, hended, _, _, rfl, ?_, ⟨_, rfl⟩, hW, hsame.mono (by decide) (by decide)⟩
  · show Steps p.tables e below (T46.setTop (mkF m 139 #[.val (.int p0), .val (.ref b1), .val (.ref (w k.toNatClampNeg)), .val (.ref d37), .val (.ref wE), .val (.ref d42)] [(.int (1 : Int32))])) _
    exact own_retN X46 hx (t := .boolean) Bd.returns (by simp) (by first | rfl | (split <;> first | rfl | (split <;> first | rfl | (split <;> rfl)))) (hb hby at_139) hr
  · show Q0 Z p0 w wE h0 n0 _ T46.heap _
    rw [e46]
    exact ⟨rfl, N46⟩
set_option maxRecDepth 65536 in
set_option maxHeartbeats 40000000 in
theorem comes_1 {Post : Tables → Env → Array Value → State → Outcome → State → Prop} (hpost : ∀ tb e args s v u, (limb_1_1.after args s (.returned v) u = true ∧ limb_1_2.after args s (.returned v) u = true ∧ True) → FrameEnd s (.returned v) u (Jvm.fieldLocs frame_1_writes args s ++ Jvm.arrayLocs frame_1_arrays args s ++ Jvm.staticLocs frame_1_statics s) 16 128 → Post tb e args s (.returned v) u) :
    ArmFor flags0 classFile x code maxLocals ret World_1 tables_1 room_1 Calls_1 rest_1 Pre_1 Post := by
  intro l hfl _ _ p e ha hc hk s m args below hf hA hF happ hP
  obtain ⟨hcalls, hrest, hpre⟩ := hP
  obtain ⟨-, -, -, hnamed, -, -, -, hat⟩ := (Spec.applies_iff hf).mp happ
  obtain ⟨hg, hn⟩ := and_e (Cond.before_iff.mp (show (Jvm.Cond.and given_1 narrow_1).before args s = true from hpre))
  obtain ⟨hcnt, hg0⟩ := and_e hg
  have ha0 := hg0
  obtain ⟨w0, rfl⟩ : ∃ w0 : Value, args = #[w0] := by
    have hs : args.size = 1 := by simpa [Cond.value, given_1] using hcnt
    obtain ⟨L⟩ := args
    match L, hs with
    | [w0], _ => exact ⟨w0, rfl⟩
  have hw := fun d (hd : d ∈ tables_1) => atoms_spec (ws := Jvm.Cond.code x code maxLocals ret :: tables_1) hat d (List.mem_cons_of_mem _ hd)
  have hfit : Fit s := fun {y c} hc i hi => by
    obtain ⟨ha, rfl⟩ := Array.getElem?_eq_some_iff.mp hc
    have q := List.all_eq_true.mp ((Array.all_eq_true_iff_forall_mem.mp hF) _ (Array.getElem_mem ha)) i (List.mem_range.mpr hi)
    simpa [Array.getElem?_eq_getElem hi] using q
  obtain ⟨hsets, hown0⟩ := atoms_of _ (rest_1_c_eq ▸ (show rest_1_c.before _ s = true from hrest))
  have hr0 := Cond.before_iff.mp hown0
  obtain ⟨i0, ei0⟩ := is_v ha0
  obtain rfl : w0 = (.int i0) := Option.some.inj ei0
  obtain ⟨hn0, hr0⟩ := and_e hn
  obtain ⟨hn1, hr1⟩ := and_e hr0
  obtain ⟨hn2, hr2⟩ := and_e hr1
  obtain ⟨hn3, hr3⟩ := and_e hr2
  obtain ⟨hn4, hr4⟩ := and_e hr3
  obtain ⟨hn5, hr5⟩ := and_e hr4
  obtain ⟨hn6, hr6⟩ := and_e hr5
  obtain ⟨w_TOKEN_MISSING, ev_TOKEN_MISSING⟩ := exa_v hn0
  have S_TOKEN_MISSING := Sta.start ev_TOKEN_MISSING (Or.inr ⟨(hw _ (List.mem_of_getElem? (i := 3) rfl)), (hw _ (List.mem_of_getElem? (i := 4) rfl))⟩)
  have E_TOKEN_MISSING := Exa.start ev_TOKEN_MISSING hn0
  obtain ⟨w_BAD_FORMAT, ev_BAD_FORMAT⟩ := exa_v hn1
  have S_BAD_FORMAT := Sta.start ev_BAD_FORMAT (Or.inr ⟨(hw _ (List.mem_of_getElem? (i := 3) rfl)), (hw _ (List.mem_of_getElem? (i := 7) rfl))⟩)
  have E_BAD_FORMAT := Exa.start ev_BAD_FORMAT hn1
  obtain ⟨w_ISSUER_NOT_ALLOWED, ev_ISSUER_NOT_ALLOWED⟩ := exa_v hn2
  have S_ISSUER_NOT_ALLOWED := Sta.start ev_ISSUER_NOT_ALLOWED (Or.inr ⟨(hw _ (List.mem_of_getElem? (i := 3) rfl)), (hw _ (List.mem_of_getElem? (i := 9) rfl))⟩)
  have E_ISSUER_NOT_ALLOWED := Exa.start ev_ISSUER_NOT_ALLOWED hn2
  obtain ⟨w_KEY_RETRIEVAL_ERROR, ev_KEY_RETRIEVAL_ERROR⟩ := exa_v hn3
  have S_KEY_RETRIEVAL_ERROR := Sta.start ev_KEY_RETRIEVAL_ERROR (Or.inr ⟨(hw _ (List.mem_of_getElem? (i := 3) rfl)), (hw _ (List.mem_of_getElem? (i := 11) rfl))⟩)
  have E_KEY_RETRIEVAL_ERROR := Exa.start ev_KEY_RETRIEVAL_ERROR hn3
  obtain ⟨w_SIGNATURE_INVALID, ev_SIGNATURE_INVALID⟩ := exa_v hn4
  have S_SIGNATURE_INVALID := Sta.start ev_SIGNATURE_INVALID (Or.inr ⟨(hw _ (List.mem_of_getElem? (i := 3) rfl)), (hw _ (List.mem_of_getElem? (i := 13) rfl))⟩)
  have E_SIGNATURE_INVALID := Exa.start ev_SIGNATURE_INVALID hn4
  obtain ⟨w_TIME_CONSTRAINT_FAILURE, ev_TIME_CONSTRAINT_FAILURE⟩ := exa_v hn5
  have S_TIME_CONSTRAINT_FAILURE := Sta.start ev_TIME_CONSTRAINT_FAILURE (Or.inr ⟨(hw _ (List.mem_of_getElem? (i := 3) rfl)), (hw _ (List.mem_of_getElem? (i := 15) rfl))⟩)
  have E_TIME_CONSTRAINT_FAILURE := Exa.start ev_TIME_CONSTRAINT_FAILURE hn5
  obtain ⟨w_AUDIENCE_NOT_ALLOWED, ev_AUDIENCE_NOT_ALLOWED⟩ := exa_v hn6
  have S_AUDIENCE_NOT_ALLOWED := Sta.start ev_AUDIENCE_NOT_ALLOWED (Or.inr ⟨(hw _ (List.mem_of_getElem? (i := 3) rfl)), (hw _ (List.mem_of_getElem? (i := 17) rfl))⟩)
  have E_AUDIENCE_NOT_ALLOWED := Exa.start ev_AUDIENCE_NOT_ALLOWED hn6
  obtain ⟨w_SUBJECT_NOT_ALLOWED, ev_SUBJECT_NOT_ALLOWED⟩ := exa_v hr6
  have S_SUBJECT_NOT_ALLOWED := Sta.start ev_SUBJECT_NOT_ALLOWED (Or.inr ⟨(hw _ (List.mem_of_getElem? (i := 3) rfl)), (hw _ (List.mem_of_getElem? (i := 19) rfl))⟩)
  have E_SUBJECT_NOT_ALLOWED := Exa.start ev_SUBJECT_NOT_ALLOWED hr6
  have hE : ∀ i, i < 8 → Exa s s.heap ((fun i => [w_TOKEN_MISSING, w_BAD_FORMAT, w_ISSUER_NOT_ALLOWED, w_KEY_RETRIEVAL_ERROR, w_SIGNATURE_INVALID, w_TIME_CONSTRAINT_FAILURE, w_AUDIENCE_NOT_ALLOWED, w_SUBJECT_NOT_ALLOWED].getD i 0) i) "com/example/firm_gate/firmgate/RefusalReason"
    | 0, _ => E_TOKEN_MISSING
    | 1, _ => E_BAD_FORMAT
    | 2, _ => E_ISSUER_NOT_ALLOWED
    | 3, _ => E_KEY_RETRIEVAL_ERROR
    | 4, _ => E_SIGNATURE_INVALID
    | 5, _ => E_TIME_CONSTRAINT_FAILURE
    | 6, _ => E_AUDIENCE_NOT_ALLOWED
    | 7, _ => E_SUBJECT_NOT_ALLOWED
    | n + 8, h => absurd h (by omega)
  have hj_EMPTY := Cond.before_iff.mp (hsets _ (List.mem_of_getElem? (i := 2) rfl))
  obtain ⟨j_EMPTY, jev_EMPTY⟩ := exa_v hj_EMPTY
  have JS_EMPTY := Sta.start jev_EMPTY (Or.inl (hsets _ (List.mem_of_getElem? (i := 1) rfl)))
  have JE_EMPTY := Exa.start jev_EMPTY hj_EMPTY
  have JF_EMPTY_value := own_fldN jev_EMPTY (Cond.before_iff.mp (hsets _ (List.mem_of_getElem? (i := 3) rfl)))
  obtain ⟨n, o, h1, h2, h3, _, L, rfl, ⟨rfl, N⟩, hq⟩ := rm0 l s _ hw tables_1 i0 (fun i => [w_TOKEN_MISSING, w_BAD_FORMAT, w_ISSUER_NOT_ALLOWED, w_KEY_RETRIEVAL_ERROR, w_SIGNATURE_INVALID, w_TIME_CONSTRAINT_FAILURE, w_AUDIENCE_NOT_ALLOWED, w_SUBJECT_NOT_ALLOWED].getD i 0) j_EMPTY s.heap s.heap.size (Old.start s) S_TOKEN_MISSING S_BAD_FORMAT S_ISSUER_NOT_ALLOWED S_KEY_RETRIEVAL_ERROR S_SIGNATURE_INVALID S_TIME_CONSTRAINT_FAILURE S_AUDIENCE_NOT_ALLOWED S_SUBJECT_NOT_ALLOWED hE JS_EMPTY JE_EMPTY JF_EMPTY_value p e ha hc hk s m _ below hf ((Spec.applies_iff_loose hf).mp happ).1 ⟨rfl, State.Warmed39.refl s, rfl⟩ trivial
  refine ⟨n, _, h1, h2, h3, hpost _ _ _ _ _ _ ⟨Cond.after_iff.mpr rfl, Cond.after_iff.mpr (eq_i res_at (Term.int_eval (1)) rfl), trivial⟩ ⟨hq.1, hq.2.1, (hq.2.2.sift fun y hy => Or.inr (N y hy)).mono (by decide) (by decide)⟩⟩
theorem main_1_1 : Claimed_1_1 := comes_1 fun _ _ _ _ _ _ h hF => ⟨h.1, hF⟩
theorem main_1_2 : Claimed_1_2 := comes_1 fun _ _ _ _ _ _ h hF => ⟨h.2.1, hF⟩
end Jvm.Pilot.@@N@@
namespace Jvm.Pilot.@@N@@
open Jvm Jvm.ClassFile Sem Op Lib Jvm.Free Jvm.Stand Jvm.Pilot.@@N@@.Jvm.D
/-! MADE BY PROGRAM (witnessworld.py) out of the Statement's table words and the real class files: 16 classes; the members and pool entries that the words name. The judged class is class 1, her method 1. -/
namespace start1
open Jvm.ClassFile
def u (s : String) : CpInfo := .utf8 (stringToUtf16 s)
/-- a pool by its gaps: so many unusable entries, then the entry; so many at the end -/
def gap : Nat → List CpInfo → List CpInfo
  | 0, r => r
  | n + 1, r => .unusable :: gap n r
def poolList (es : List (Nat × CpInfo)) (last : Nat) : List CpInfo := es.foldr (fun e r => gap e.1 (e.2 :: r)) (gap last [])
def pool (es : List (Nat × CpInfo)) (last : Nat) : Array CpInfo := ⟨poolList es last⟩
def fileOf (pool : Array CpInfo) (this : Nat) (attrs : Array Attribute := #[]) (ms : Array MethodInfo := #[]) (fl : Nat := 33) (sup : Nat := 0) (ifs : Array Nat := #[]) (fds : Array FieldInfo := #[]) : ClassFile where
  minorVersion := 0
  majorVersion := 65
  constantPool := pool
  accessFlags := fl
  thisClass := this
  superClass := sup
  interfaces := ifs
  fields := fds
  methods := ms
  attributes := attrs
def plain (name : String) (sup : Option ClassId) : Class where
  name := name
  kind := .ordinary
  loader := none
  accessFlags := 33
  super := sup
  interfaces := #[]
  cf := none
  fields := #[]
  methods := #[]
  instanceTypes := #[]
  staticTypes := #[]
  resolved := #[]
  callSites := []
  init := .initialized
  statics := none
  mirror := none

def pool0 : Array CpInfo := pool [(5, u "<init>"), (0, u "()V"), (1, .class_ 10), (1, u "java/lang/Object")] 113

def k0c0 : Code := { maxStack := 0, maxLocals := 1, code := object_method_1_code, exceptionTable := #[], attributes := #[] }
def k0m0 : Method := { name := "<init>", desc := "()V", sig := { parameters := [], returnType := none }, accessFlags := 1, code := some k0c0 }
/-- java/lang/Object -/
def k0 : Class := { plain "java/lang/Object" none with
  accessFlags := 33
  interfaces := #[]
  cf := some (fileOf pool0 8 #[] #[{ accessFlags := 1, nameIndex := 5, descriptorIndex := 6, attributes := #[] }] 33 0 #[] #[])
  fields := #[]
  methods := #[k0m0]
  instanceTypes := #[]
  staticTypes := #[]
  resolved := Array.replicate 124 none
  statics := none }

def pool1 : Array CpInfo := pool [(2, .class_ 4), (1, u "java/lang/Object"), (0, u "<init>"), (0, u "()V"), (0, .class_ 8), (0, u "com/example/firm_gate/firmgate/RefusalReason"), (0, .fieldref 7 10), (0, .nameAndType 11 12), (0, u "TOKEN_MISSING"), (0, u "Lcom/example/firm_gate/firmgate/RefusalReason;"), (0, .fieldref 7 14), (0, .nameAndType 15 12), (0, u "BAD_FORMAT"), (0, .fieldref 7 17), (0, .nameAndType 18 12), (0, u "ISSUER_NOT_ALLOWED"), (0, .fieldref 7 20), (0, .nameAndType 21 12), (0, u "KEY_RETRIEVAL_ERROR"), (0, .fieldref 7 23), (0, .nameAndType 24 12), (0, u "SIGNATURE_INVALID"), (0, .fieldref 7 26), (0, .nameAndType 27 12), (0, u "TIME_CONSTRAINT_FAILURE"), (0, .fieldref 7 29), (0, .nameAndType 30 12), (0, u "AUDIENCE_NOT_ALLOWED"), (0, .fieldref 7 32), (0, .nameAndType 33 12), (0, u "SUBJECT_NOT_ALLOWED"), (0, .methodref 35 36), (0, .class_ 37), (0, .nameAndType 38 39), (0, u "com/example/firm_gate/firmgate/TokenDecision"), (0, u "refuse"), (0, u "(Lcom/example/firm_gate/firmgate/RefusalReason;)Lcom/example/firm_gate/firmgate/TokenDecision;"), (0, .methodref 35 41), (0, .nameAndType 42 43), (0, u "accepted"), (0, u "()Z"), (0, .methodref 35 45), (0, .nameAndType 46 47), (0, u "principal"), (0, u "()Ljava/util/Optional;"), (0, .methodref 49 50), (0, .class_ 51), (0, .nameAndType 52 43), (0, u "java/util/Optional"), (0, u "isPresent"), (0, .methodref 35 54), (0, .nameAndType 55 47), (0, u "reason"), (0, .methodref 49 57), (0, .nameAndType 58 59), (0, u "get"), (0, u "()Ljava/lang/Object;"), (0, .class_ 61), (0, u "com/example/firm_gate/firmgate/TokenDecisionRefusePinLaw"), (2, u "law"), (0, u "(I)Z")] 5

def k1m0 : Method := { name := "<init>", desc := "()V", sig := { parameters := [], returnType := none }, accessFlags := 1, code := none }
def k1c1 : Code := { maxStack := 4, maxLocals := 6, code := code, exceptionTable := #[], attributes := #[] }
def k1m1 : Method := { name := "law", desc := "(I)Z", sig := { parameters := [.int], returnType := some .boolean }, accessFlags := 9, code := some k1c1 }
/-- com/example/firm_gate/firmgate/TokenDecisionRefusePinLaw -/
def k1 : Class := { plain "com/example/firm_gate/firmgate/TokenDecisionRefusePinLaw" (some 0) with
  accessFlags := 49
  interfaces := #[]
  cf := some (fileOf pool1 60 #[] #[{ accessFlags := 1, nameIndex := 5, descriptorIndex := 6, attributes := #[] }, { accessFlags := 9, nameIndex := 64, descriptorIndex := 65, attributes := #[] }] 49 2 #[] #[])
  fields := #[]
  methods := #[k1m0, k1m1]
  instanceTypes := #[]
  staticTypes := #[]
  resolved := Array.replicate 71 none
  statics := none }

def pool2 : Array CpInfo := pool [(1, .class_ 2), (0, u "java/lang/constant/Constable"), (0, .class_ 4), (0, u "java/lang/Object")] 6

/-- java/lang/constant/Constable -/
def k2 : Class := { plain "java/lang/constant/Constable" (some 0) with
  accessFlags := 1537
  interfaces := #[]
  cf := some (fileOf pool2 1 #[] #[] 1537 3 #[] #[])
  fields := #[]
  methods := #[]
  instanceTypes := #[]
  staticTypes := #[]
  resolved := Array.replicate 11 none
  statics := none }

def pool3 : Array CpInfo := pool [(1, .class_ 2), (0, u "java/lang/Comparable"), (0, .class_ 4), (0, u "java/lang/Object")] 7

/-- java/lang/Comparable -/
def k3 : Class := { plain "java/lang/Comparable" (some 0) with
  accessFlags := 1537
  interfaces := #[]
  cf := some (fileOf pool3 1 #[] #[] 1537 3 #[] #[])
  fields := #[]
  methods := #[]
  instanceTypes := #[]
  staticTypes := #[]
  resolved := Array.replicate 12 none
  statics := none }

def pool4 : Array CpInfo := pool [(1, .class_ 2), (0, u "java/io/Serializable"), (0, .class_ 4), (0, u "java/lang/Object")] 2

/-- java/io/Serializable -/
def k4 : Class := { plain "java/io/Serializable" (some 0) with
  accessFlags := 1537
  interfaces := #[]
  cf := some (fileOf pool4 1 #[] #[] 1537 3 #[] #[])
  fields := #[]
  methods := #[]
  instanceTypes := #[]
  staticTypes := #[]
  resolved := Array.replicate 7 none
  statics := none }

def pool5 : Array CpInfo := pool [(2, .class_ 4), (1, u "java/lang/Enum"), (0, u "name"), (0, u "Ljava/lang/String;"), (2, u "ordinal"), (0, u "I"), (1, .class_ 14), (1, u "java/lang/Object"), (4, u "hash"), (86, .class_ 108), (1, u "java/lang/Enum$EnumDesc"), (2, .class_ 112), (0, u "java/lang/constant/Constable"), (0, .class_ 114), (0, u "java/lang/Comparable"), (0, .class_ 116), (0, u "java/io/Serializable")] 87

/-- java/lang/Enum -/
def k5 : Class := { plain "java/lang/Enum" (some 0) with
  accessFlags := 1057
  interfaces := #[2, 3, 4]
  cf := some (fileOf pool5 2 #[.nestMembers #[106]] #[] 1057 12 #[111, 113, 115] #[{ accessFlags := 18, nameIndex := 5, descriptorIndex := 6, attributes := #[] }, { accessFlags := 18, nameIndex := 9, descriptorIndex := 10, attributes := #[] }, { accessFlags := 2, nameIndex := 19, descriptorIndex := 10, attributes := #[] }])
  fields := #[{ name := "name", type := (.object "java/lang/String"), accessFlags := 18, slot := 0, constantValue := 0 }, { name := "ordinal", type := .int, accessFlags := 18, slot := 1, constantValue := 0 }, { name := "hash", type := .int, accessFlags := 2, slot := 2, constantValue := 0 }]
  methods := #[]
  instanceTypes := #[(.object "java/lang/String"), .int, .int]
  staticTypes := #[]
  resolved := Array.replicate 204 none
  statics := none }

def pool6 : Array CpInfo := pool [(1, .class_ 2), (0, u "com/example/firm_gate/firmgate/RefusalReason"), (2, u "TOKEN_MISSING"), (0, u "Lcom/example/firm_gate/firmgate/RefusalReason;"), (2, u "BAD_FORMAT"), (2, u "ISSUER_NOT_ALLOWED"), (2, u "KEY_RETRIEVAL_ERROR"), (2, u "SIGNATURE_INVALID"), (2, u "TIME_CONSTRAINT_FAILURE"), (2, u "AUDIENCE_NOT_ALLOWED"), (2, u "SUBJECT_NOT_ALLOWED"), (2, u "$VALUES"), (0, u "[Lcom/example/firm_gate/firmgate/RefusalReason;"), (6, .class_ 40), (1, u "java/lang/Enum")] 30

/-- com/example/firm_gate/firmgate/RefusalReason -/
def k6 : Class := { plain "com/example/firm_gate/firmgate/RefusalReason" (some 5) with
  accessFlags := 16433
  interfaces := #[]
  cf := some (fileOf pool6 1 #[] #[] 16433 38 #[] #[{ accessFlags := 16409, nameIndex := 5, descriptorIndex := 6, attributes := #[] }, { accessFlags := 16409, nameIndex := 9, descriptorIndex := 6, attributes := #[] }, { accessFlags := 16409, nameIndex := 12, descriptorIndex := 6, attributes := #[] }, { accessFlags := 16409, nameIndex := 15, descriptorIndex := 6, attributes := #[] }, { accessFlags := 16409, nameIndex := 18, descriptorIndex := 6, attributes := #[] }, { accessFlags := 16409, nameIndex := 21, descriptorIndex := 6, attributes := #[] }, { accessFlags := 16409, nameIndex := 24, descriptorIndex := 6, attributes := #[] }, { accessFlags := 16409, nameIndex := 27, descriptorIndex := 6, attributes := #[] }, { accessFlags := 4122, nameIndex := 30, descriptorIndex := 31, attributes := #[] }])
  fields := #[{ name := "TOKEN_MISSING", type := (.object "com/example/firm_gate/firmgate/RefusalReason"), accessFlags := 16409, slot := 0, constantValue := 0 }, { name := "BAD_FORMAT", type := (.object "com/example/firm_gate/firmgate/RefusalReason"), accessFlags := 16409, slot := 1, constantValue := 0 }, { name := "ISSUER_NOT_ALLOWED", type := (.object "com/example/firm_gate/firmgate/RefusalReason"), accessFlags := 16409, slot := 2, constantValue := 0 }, { name := "KEY_RETRIEVAL_ERROR", type := (.object "com/example/firm_gate/firmgate/RefusalReason"), accessFlags := 16409, slot := 3, constantValue := 0 }, { name := "SIGNATURE_INVALID", type := (.object "com/example/firm_gate/firmgate/RefusalReason"), accessFlags := 16409, slot := 4, constantValue := 0 }, { name := "TIME_CONSTRAINT_FAILURE", type := (.object "com/example/firm_gate/firmgate/RefusalReason"), accessFlags := 16409, slot := 5, constantValue := 0 }, { name := "AUDIENCE_NOT_ALLOWED", type := (.object "com/example/firm_gate/firmgate/RefusalReason"), accessFlags := 16409, slot := 6, constantValue := 0 }, { name := "SUBJECT_NOT_ALLOWED", type := (.object "com/example/firm_gate/firmgate/RefusalReason"), accessFlags := 16409, slot := 7, constantValue := 0 }, { name := "$VALUES", type := (.array (.object "com/example/firm_gate/firmgate/RefusalReason")), accessFlags := 4122, slot := 8, constantValue := 0 }]
  methods := #[]
  instanceTypes := #[(.object "java/lang/String"), .int, .int]
  staticTypes := #[(.object "com/example/firm_gate/firmgate/RefusalReason"), (.object "com/example/firm_gate/firmgate/RefusalReason"), (.object "com/example/firm_gate/firmgate/RefusalReason"), (.object "com/example/firm_gate/firmgate/RefusalReason"), (.object "com/example/firm_gate/firmgate/RefusalReason"), (.object "com/example/firm_gate/firmgate/RefusalReason"), (.object "com/example/firm_gate/firmgate/RefusalReason"), (.object "com/example/firm_gate/firmgate/RefusalReason"), (.array (.object "com/example/firm_gate/firmgate/RefusalReason"))]
  resolved := Array.replicate 71 none
  statics := some 0 }

def pool7 : Array CpInfo := pool [(1, .methodref 2 3), (0, .class_ 4), (0, .nameAndType 5 6), (0, u "java/lang/Object"), (0, u "<init>"), (0, u "()V"), (0, .fieldref 8 9), (0, .class_ 10), (0, .nameAndType 11 12), (0, u "com/example/firm_gate/firmgate/TokenDecision"), (0, u "principal"), (0, u "Ljava/lang/String;"), (0, .fieldref 8 14), (0, .nameAndType 15 16), (0, u "reason"), (0, u "Lcom/example/firm_gate/firmgate/RefusalReason;"), (0, .methodref 18 19), (0, .class_ 20), (0, .nameAndType 21 22), (0, u "java/util/Objects"), (0, u "requireNonNull"), (0, u "(Ljava/lang/Object;)Ljava/lang/Object;"), (2, .methodref 8 26), (0, .nameAndType 5 27), (0, u "(Ljava/lang/String;Lcom/example/firm_gate/firmgate/RefusalReason;)V"), (0, .class_ 29), (0, u "com/example/firm_gate/firmgate/RefusalReason"), (0, .methodref 31 32), (0, .class_ 33), (0, .nameAndType 34 35), (0, u "java/util/Optional"), (0, u "ofNullable"), (0, u "(Ljava/lang/Object;)Ljava/util/Optional;"), (4, u "refuse"), (0, u "(Lcom/example/firm_gate/firmgate/RefusalReason;)Lcom/example/firm_gate/firmgate/TokenDecision;"), (0, u "accepted"), (0, u "()Z"), (1, u "()Ljava/util/Optional;")] 5

def k7c0 : Code := { maxStack := 2, maxLocals := 3, code := prog_13_method_1_code, exceptionTable := #[], attributes := #[] }
def k7m0 : Method := { name := "<init>", desc := "(Ljava/lang/String;Lcom/example/firm_gate/firmgate/RefusalReason;)V", sig := { parameters := [(.object "java/lang/String"), (.object "com/example/firm_gate/firmgate/RefusalReason")], returnType := none }, accessFlags := 2, code := some k7c0 }
def k7c1 : Code := { maxStack := 4, maxLocals := 1, code := prog_13_method_3_code, exceptionTable := #[], attributes := #[] }
def k7m1 : Method := { name := "refuse", desc := "(Lcom/example/firm_gate/firmgate/RefusalReason;)Lcom/example/firm_gate/firmgate/TokenDecision;", sig := { parameters := [(.object "com/example/firm_gate/firmgate/RefusalReason")], returnType := some (.object "com/example/firm_gate/firmgate/TokenDecision") }, accessFlags := 8, code := some k7c1 }
def k7c2 : Code := { maxStack := 1, maxLocals := 1, code := prog_13_method_4_code, exceptionTable := #[], attributes := #[] }
def k7m2 : Method := { name := "accepted", desc := "()Z", sig := { parameters := [], returnType := some .boolean }, accessFlags := 1, code := some k7c2 }
def k7c3 : Code := { maxStack := 1, maxLocals := 1, code := prog_13_method_5_code, exceptionTable := #[], attributes := #[] }
def k7m3 : Method := { name := "principal", desc := "()Ljava/util/Optional;", sig := { parameters := [], returnType := some (.object "java/util/Optional") }, accessFlags := 1, code := some k7c3 }
def k7c4 : Code := { maxStack := 1, maxLocals := 1, code := prog_13_method_6_code, exceptionTable := #[], attributes := #[] }
def k7m4 : Method := { name := "reason", desc := "()Ljava/util/Optional;", sig := { parameters := [], returnType := some (.object "java/util/Optional") }, accessFlags := 1, code := some k7c4 }
/-- com/example/firm_gate/firmgate/TokenDecision -/
def k7 : Class := { plain "com/example/firm_gate/firmgate/TokenDecision" (some 0) with
  accessFlags := 33
  interfaces := #[]
  cf := some (fileOf pool7 8 #[] #[{ accessFlags := 2, nameIndex := 5, descriptorIndex := 27, attributes := #[] }, { accessFlags := 8, nameIndex := 40, descriptorIndex := 41, attributes := #[] }, { accessFlags := 1, nameIndex := 42, descriptorIndex := 43, attributes := #[] }, { accessFlags := 1, nameIndex := 11, descriptorIndex := 45, attributes := #[] }, { accessFlags := 1, nameIndex := 15, descriptorIndex := 45, attributes := #[] }] 33 2 #[] #[{ accessFlags := 18, nameIndex := 11, descriptorIndex := 12, attributes := #[] }, { accessFlags := 18, nameIndex := 15, descriptorIndex := 16, attributes := #[] }])
  fields := #[{ name := "principal", type := (.object "java/lang/String"), accessFlags := 18, slot := 0, constantValue := 0 }, { name := "reason", type := (.object "com/example/firm_gate/firmgate/RefusalReason"), accessFlags := 18, slot := 1, constantValue := 0 }]
  methods := #[k7m0, k7m1, k7m2, k7m3, k7m4]
  instanceTypes := #[(.object "java/lang/String"), (.object "com/example/firm_gate/firmgate/RefusalReason")]
  staticTypes := #[]
  resolved := Array.replicate 51 none
  statics := none }

def pool8 : Array CpInfo := pool [(2, .class_ 4), (1, u "java/lang/Object"), (0, u "<init>"), (0, u "()V"), (35, .class_ 44), (1, u "java/util/Objects"), (0, u "requireNonNull"), (0, u "(Ljava/lang/Object;)Ljava/lang/Object;")] 137

def k8m0 : Method := { name := "<init>", desc := "()V", sig := { parameters := [], returnType := none }, accessFlags := 2, code := none }
def k8c1 : Code := { maxStack := 2, maxLocals := 1, code := jdk_31_method_10_code, exceptionTable := #[], attributes := #[] }
def k8m1 : Method := { name := "requireNonNull", desc := "(Ljava/lang/Object;)Ljava/lang/Object;", sig := { parameters := [(.object "java/lang/Object")], returnType := some (.object "java/lang/Object") }, accessFlags := 9, code := some k8c1 }
/-- java/util/Objects -/
def k8 : Class := { plain "java/util/Objects" (some 0) with
  accessFlags := 49
  interfaces := #[]
  cf := some (fileOf pool8 42 #[] #[{ accessFlags := 2, nameIndex := 5, descriptorIndex := 6, attributes := #[] }, { accessFlags := 9, nameIndex := 45, descriptorIndex := 46, attributes := #[] }] 49 2 #[] #[])
  fields := #[]
  methods := #[k8m0, k8m1]
  instanceTypes := #[]
  staticTypes := #[]
  resolved := Array.replicate 184 none
  statics := none }

def pool9 : Array CpInfo := pool [(1, .fieldref 2 3), (0, .class_ 4), (0, .nameAndType 5 6), (0, u "java/util/Optional"), (0, u "EMPTY"), (0, u "Ljava/util/Optional;"), (0, .methodref 8 9), (0, .class_ 10), (0, .nameAndType 11 12), (0, u "java/lang/Object"), (0, u "<init>"), (0, u "()V"), (0, .fieldref 2 14), (0, .nameAndType 15 16), (0, u "value"), (0, u "Ljava/lang/Object;"), (6, .methodref 2 24), (0, .nameAndType 11 25), (0, u "(Ljava/lang/Object;)V"), (20, u "()Z"), (17, u "ofNullable"), (0, u "(Ljava/lang/Object;)Ljava/util/Optional;"), (2, u "isPresent"), (4, u "get"), (0, u "()Ljava/lang/Object;")] 112

def k9c0 : Code := { maxStack := 2, maxLocals := 2, code := jdk_32_method_2_code, exceptionTable := #[], attributes := #[] }
def k9m0 : Method := { name := "<init>", desc := "(Ljava/lang/Object;)V", sig := { parameters := [(.object "java/lang/Object")], returnType := none }, accessFlags := 2, code := some k9c0 }
def k9c1 : Code := { maxStack := 3, maxLocals := 1, code := jdk_32_method_4_code, exceptionTable := #[], attributes := #[] }
def k9m1 : Method := { name := "ofNullable", desc := "(Ljava/lang/Object;)Ljava/util/Optional;", sig := { parameters := [(.object "java/lang/Object")], returnType := some (.object "java/util/Optional") }, accessFlags := 9, code := some k9c1 }
def k9c2 : Code := { maxStack := 3, maxLocals := 1, code := jdk_32_method_5_code, exceptionTable := #[], attributes := #[] }
def k9m2 : Method := { name := "get", desc := "()Ljava/lang/Object;", sig := { parameters := [], returnType := some (.object "java/lang/Object") }, accessFlags := 1, code := some k9c2 }
def k9c3 : Code := { maxStack := 1, maxLocals := 1, code := jdk_32_method_6_code, exceptionTable := #[], attributes := #[] }
def k9m3 : Method := { name := "isPresent", desc := "()Z", sig := { parameters := [], returnType := some .boolean }, accessFlags := 1, code := some k9c3 }
/-- java/util/Optional -/
def k9 : Class := { plain "java/util/Optional" (some 0) with
  accessFlags := 49
  interfaces := #[]
  cf := some (fileOf pool9 2 #[] #[{ accessFlags := 2, nameIndex := 11, descriptorIndex := 25, attributes := #[] }, { accessFlags := 9, nameIndex := 64, descriptorIndex := 65, attributes := #[] }, { accessFlags := 1, nameIndex := 73, descriptorIndex := 74, attributes := #[] }, { accessFlags := 1, nameIndex := 68, descriptorIndex := 46, attributes := #[] }] 49 8 #[] #[{ accessFlags := 26, nameIndex := 5, descriptorIndex := 6, attributes := #[] }, { accessFlags := 18, nameIndex := 15, descriptorIndex := 16, attributes := #[] }])
  fields := #[{ name := "EMPTY", type := (.object "java/util/Optional"), accessFlags := 26, slot := 0, constantValue := 0 }, { name := "value", type := (.object "java/lang/Object"), accessFlags := 18, slot := 0, constantValue := 0 }]
  methods := #[k9m0, k9m1, k9m2, k9m3]
  instanceTypes := #[(.object "java/lang/Object")]
  staticTypes := #[(.object "java/util/Optional")]
  resolved := Array.replicate 187 none
  statics := some 1 }

def pool10 : Array CpInfo := pool [(1, u "java/lang/Cloneable"), (0, .class_ 1), (0, u "java/lang/Object"), (0, .class_ 3)] 3

/-- java/lang/Cloneable -/
def k10 : Class := { plain "java/lang/Cloneable" (some 0) with
  accessFlags := 1537
  interfaces := #[]
  cf := some (fileOf pool10 2 #[] #[] 1537 4 #[] #[])
  fields := #[]
  methods := #[]
  instanceTypes := #[]
  staticTypes := #[]
  resolved := Array.replicate 8 none
  statics := none }

/-- the primitive byte -/
def k11 : Class := { plain "byte" none with kind := .primitive 'B', accessFlags := 0x411 }
/-- [B -/
def k12 : Class := { plain "[B" (some 0) with kind := .array 11 .byte, interfaces := #[10, 4], accessFlags := 1041 }

/-- the primitive int -/
def k13 : Class := { plain "int" none with kind := .primitive 'I', accessFlags := 0x411 }
/-- [I -/
def k14 : Class := { plain "[I" (some 0) with kind := .array 13 .int, interfaces := #[10, 4], accessFlags := 1041 }

/-- [Lcom/example/firm_gate/firmgate/RefusalReason; -/
def k15 : Class := { plain "[Lcom/example/firm_gate/firmgate/RefusalReason;" (some 0) with kind := .array 6 (.object "com/example/firm_gate/firmgate/RefusalReason"), interfaces := #[10, 4], accessFlags := 1041 }

def heap : Heap := #[{ cls := 6, slots := #[.ref 2, .ref 3, .ref 4, .ref 5, .ref 6, .ref 7, .ref 8, .ref 9, .null], vm := .statics 6 },
  { cls := 9, slots := #[.ref 10], vm := .statics 9 },
  { cls := 6, slots := #[.null, .int 0, .int 0], vm := .none },
  { cls := 6, slots := #[.null, .int 1, .int 0], vm := .none },
  { cls := 6, slots := #[.null, .int 2, .int 0], vm := .none },
  { cls := 6, slots := #[.null, .int 3, .int 0], vm := .none },
  { cls := 6, slots := #[.null, .int 4, .int 0], vm := .none },
  { cls := 6, slots := #[.null, .int 5, .int 0], vm := .none },
  { cls := 6, slots := #[.null, .int 6, .int 0], vm := .none },
  { cls := 6, slots := #[.null, .int 7, .int 0], vm := .none },
  { cls := 9, slots := #[.null], vm := .none }]
def classes : Array Class := #[k0, k1, k2, k3, k4, k5, k6, k7, k8, k9, k10, k11, k12, k13, k14, k15]
def interned : List (Array UInt16 × Addr) := []
def slotsUsed : Nat := 35
def theMethod : MethodId := ⟨1, 1⟩
def args0 : Array Value := #[.int 5]
def aboutOver (below : List Frame) : State where
  vm := { classes := classes, interned := interned.toArray }
  heap := heap
  slotsUsed := slotsUsed
  threads := #[{ frames := .invoking theMethod args0 :: below }]
def below0 : List Frame := [.native { method := ⟨0, 0⟩, args := #[] }]
def about1 : State := aboutOver below0
def p0 : Program := .bare "" "" ""
def e0 : Env := launch0.env 0 0 0
theorem w_frames : about1.frames = Frame.invoking theMethod args0 :: below0 := rfl
set_option maxRecDepth 65536 in
theorem w_args : argsFit about1.vm theMethod args0 = true := by decide +kernel
set_option maxRecDepth 65536 in
theorem w_heap : heapFits about1 = true := by decide +kernel
set_option maxRecDepth 65536 in
theorem w_runnable : about1.curStatus? = some .runnable := by decide +kernel
set_option maxRecDepth 65536 in
theorem w_alone : about1.alone = true := by decide +kernel
set_option maxRecDepth 65536 in
theorem w_named : about1.methodNamed? x = some theMethod := by decide +kernel
set_option maxRecDepth 65536 in
theorem w_hears : about1.hears theMethod below0 = true := by decide +kernel
set_option maxRecDepth 65536 in
theorem w_ripe : about1.ripe theMethod args0 below0 = true := by decide +kernel
theorem w_running : about1.status = .running := rfl
set_option maxRecDepth 65536 in
theorem w_room : about1.hasRoom e0.platform room_1 = true :=
  launch0.hasRoom_least _ room_1 (by decide +kernel) (by decide +kernel) (by decide +kernel) (by decide +kernel) (by decide +kernel) (by decide +kernel)
theorem allAtoms_all (ts : List Jvm.Cond) (a : Array Jvm.Value) (st : Jvm.State) : (allAtoms ts).before a st = ts.all (fun c => c.before a st) := by
  induction ts with
  | nil => rfl
  | cons c t ih =>
    show (Jvm.Cond.and c (allAtoms t)).before a st = _
    rw [Jvm.Cond.before_and, ih, List.all_cons]
def words1 : List Jvm.Cond := Jvm.Cond.code x code maxLocals ret :: tables_1
/-- a 'code' word, met by the world's own term for the bytes: nothing is compared byte by byte -/
theorem code_word {y : MethodName} {bytes : ByteArray} {mx : Nat} {rt : Option FieldType} {a : Array Value} {s : State} {m : MethodId} {meth : Method} {c : Code} (h1 : s.methodNamed? y = some m) (h2 : s.vm.method? m = some meth) (h3 : meth.code = some c) (h4 : c.code = bytes)
    (h5 : (c.maxLocals == mx && c.exceptionTable.isEmpty && decide (c.maxStack ≤ mostOperands) && decide (meth.sig.returnType = rt) && !meth.locks && decide (parseMethodDescriptor y.desc = some meth.sig)) = true) : (Jvm.Cond.code y bytes mx rt).before a s = true := by
  simp only [Bool.and_eq_true, beq_iff_eq, Bool.not_eq_true', decide_eq_true_eq] at h5
  obtain ⟨⟨⟨⟨⟨g1, g2⟩, g3⟩, g4⟩, g5⟩, g6⟩ := h5
  simp [Cond.before, Cond.holds, Cond.value, h1, h2, h3, h4, g1, g2, g3, g4, g5, g6]
def isCode : Jvm.Cond → Bool
  | .code _ _ _ _ => true
  | _ => false
theorem all_split {L : List Jvm.Cond} {P : Jvm.Cond → Bool} (h1 : L.all (fun c => isCode c || P c) = true) (h2 : ∀ c ∈ L.filter isCode, P c = true) : L.all P = true := by
  refine List.all_eq_true.mpr fun c hc => ?_
  have h := List.all_eq_true.mp h1 c hc
  rcases Bool.eq_false_or_eq_true (isCode c) with hi | hi
  · exact h2 c (List.mem_filter.mpr ⟨hc, hi⟩)
  · simpa [hi] using h
set_option maxRecDepth 65536 in
theorem w_c0 : (Jvm.Cond.code x code maxLocals ret).before args0 about1 = true := code_word (m := ⟨1, 1⟩) (meth := k1m1) (c := k1c1) (by decide +kernel) rfl rfl rfl (by decide +kernel)
set_option maxRecDepth 65536 in
theorem w_c1 : (Jvm.Cond.code ({ cls := "com/example/firm_gate/firmgate/TokenDecision", name := "refuse", desc := "(Lcom/example/firm_gate/firmgate/RefusalReason;)Lcom/example/firm_gate/firmgate/TokenDecision;" } : Jvm.MethodName) prog_13_method_3_code (1 : Nat) (Option.some (Jvm.ClassFile.FieldType.object "com/example/firm_gate/firmgate/TokenDecision"))).before args0 about1 = true := code_word (m := ⟨7, 1⟩) (meth := k7m1) (c := k7c1) (by decide +kernel) rfl rfl rfl (by decide +kernel)
set_option maxRecDepth 65536 in
theorem w_c2 : (Jvm.Cond.code ({ cls := "java/util/Objects", name := "requireNonNull", desc := "(Ljava/lang/Object;)Ljava/lang/Object;" } : Jvm.MethodName) jdk_31_method_10_code (1 : Nat) (Option.some (Jvm.ClassFile.FieldType.object "java/lang/Object"))).before args0 about1 = true := code_word (m := ⟨8, 1⟩) (meth := k8m1) (c := k8c1) (by decide +kernel) rfl rfl rfl (by decide +kernel)
set_option maxRecDepth 65536 in
theorem w_c3 : (Jvm.Cond.code ({ cls := "com/example/firm_gate/firmgate/TokenDecision", name := "<init>", desc := "(Ljava/lang/String;Lcom/example/firm_gate/firmgate/RefusalReason;)V" } : Jvm.MethodName) prog_13_method_1_code (3 : Nat) (Option.none : Option Jvm.ClassFile.FieldType)).before args0 about1 = true := code_word (m := ⟨7, 0⟩) (meth := k7m0) (c := k7c0) (by decide +kernel) rfl rfl rfl (by decide +kernel)
set_option maxRecDepth 65536 in
theorem w_c4 : (Jvm.Cond.code ({ cls := "java/lang/Object", name := "<init>", desc := "()V" } : Jvm.MethodName) object_method_1_code (1 : Nat) (Option.none : Option Jvm.ClassFile.FieldType)).before args0 about1 = true := code_word (m := ⟨0, 0⟩) (meth := k0m0) (c := k0c0) (by decide +kernel) rfl rfl rfl (by decide +kernel)
set_option maxRecDepth 65536 in
theorem w_c5 : (Jvm.Cond.code ({ cls := "com/example/firm_gate/firmgate/TokenDecision", name := "accepted", desc := "()Z" } : Jvm.MethodName) prog_13_method_4_code (1 : Nat) (Option.some Jvm.ClassFile.FieldType.boolean)).before args0 about1 = true := code_word (m := ⟨7, 2⟩) (meth := k7m2) (c := k7c2) (by decide +kernel) rfl rfl rfl (by decide +kernel)
set_option maxRecDepth 65536 in
theorem w_c6 : (Jvm.Cond.code ({ cls := "com/example/firm_gate/firmgate/TokenDecision", name := "principal", desc := "()Ljava/util/Optional;" } : Jvm.MethodName) prog_13_method_5_code (1 : Nat) (Option.some (Jvm.ClassFile.FieldType.object "java/util/Optional"))).before args0 about1 = true := code_word (m := ⟨7, 3⟩) (meth := k7m3) (c := k7c3) (by decide +kernel) rfl rfl rfl (by decide +kernel)
set_option maxRecDepth 65536 in
theorem w_c7 : (Jvm.Cond.code ({ cls := "java/util/Optional", name := "ofNullable", desc := "(Ljava/lang/Object;)Ljava/util/Optional;" } : Jvm.MethodName) jdk_32_method_4_code (1 : Nat) (Option.some (Jvm.ClassFile.FieldType.object "java/util/Optional"))).before args0 about1 = true := code_word (m := ⟨9, 1⟩) (meth := k9m1) (c := k9c1) (by decide +kernel) rfl rfl rfl (by decide +kernel)
set_option maxRecDepth 65536 in
theorem w_c8 : (Jvm.Cond.code ({ cls := "java/util/Optional", name := "isPresent", desc := "()Z" } : Jvm.MethodName) jdk_32_method_6_code (1 : Nat) (Option.some Jvm.ClassFile.FieldType.boolean)).before args0 about1 = true := code_word (m := ⟨9, 3⟩) (meth := k9m3) (c := k9c3) (by decide +kernel) rfl rfl rfl (by decide +kernel)
set_option maxRecDepth 65536 in
theorem w_c9 : (Jvm.Cond.code ({ cls := "com/example/firm_gate/firmgate/TokenDecision", name := "reason", desc := "()Ljava/util/Optional;" } : Jvm.MethodName) prog_13_method_6_code (1 : Nat) (Option.some (Jvm.ClassFile.FieldType.object "java/util/Optional"))).before args0 about1 = true := code_word (m := ⟨7, 4⟩) (meth := k7m4) (c := k7c4) (by decide +kernel) rfl rfl rfl (by decide +kernel)
set_option maxRecDepth 65536 in
theorem w_c10 : (Jvm.Cond.code ({ cls := "java/util/Optional", name := "<init>", desc := "(Ljava/lang/Object;)V" } : Jvm.MethodName) jdk_32_method_2_code (2 : Nat) (Option.none : Option Jvm.ClassFile.FieldType)).before args0 about1 = true := code_word (m := ⟨9, 0⟩) (meth := k9m0) (c := k9c0) (by decide +kernel) rfl rfl rfl (by decide +kernel)
set_option maxRecDepth 65536 in
theorem w_c11 : (Jvm.Cond.code ({ cls := "java/util/Optional", name := "get", desc := "()Ljava/lang/Object;" } : Jvm.MethodName) jdk_32_method_5_code (1 : Nat) (Option.some (Jvm.ClassFile.FieldType.object "java/lang/Object"))).before args0 about1 = true := code_word (m := ⟨9, 2⟩) (meth := k9m2) (c := k9c2) (by decide +kernel) rfl rfl rfl (by decide +kernel)
def codes1 : List Jvm.Cond := [Jvm.Cond.code x code maxLocals ret, Jvm.Cond.code ({ cls := "com/example/firm_gate/firmgate/TokenDecision", name := "refuse", desc := "(Lcom/example/firm_gate/firmgate/RefusalReason;)Lcom/example/firm_gate/firmgate/TokenDecision;" } : Jvm.MethodName) prog_13_method_3_code (1 : Nat) (Option.some (Jvm.ClassFile.FieldType.object "com/example/firm_gate/firmgate/TokenDecision")), Jvm.Cond.code ({ cls := "java/util/Objects", name := "requireNonNull", desc := "(Ljava/lang/Object;)Ljava/lang/Object;" } : Jvm.MethodName) jdk_31_method_10_code (1 : Nat) (Option.some (Jvm.ClassFile.FieldType.object "java/lang/Object")), Jvm.Cond.code ({ cls := "com/example/firm_gate/firmgate/TokenDecision", name := "<init>", desc := "(Ljava/lang/String;Lcom/example/firm_gate/firmgate/RefusalReason;)V" } : Jvm.MethodName) prog_13_method_1_code (3 : Nat) (Option.none : Option Jvm.ClassFile.FieldType), Jvm.Cond.code ({ cls := "java/lang/Object", name := "<init>", desc := "()V" } : Jvm.MethodName) object_method_1_code (1 : Nat) (Option.none : Option Jvm.ClassFile.FieldType), Jvm.Cond.code ({ cls := "com/example/firm_gate/firmgate/TokenDecision", name := "accepted", desc := "()Z" } : Jvm.MethodName) prog_13_method_4_code (1 : Nat) (Option.some Jvm.ClassFile.FieldType.boolean), Jvm.Cond.code ({ cls := "com/example/firm_gate/firmgate/TokenDecision", name := "principal", desc := "()Ljava/util/Optional;" } : Jvm.MethodName) prog_13_method_5_code (1 : Nat) (Option.some (Jvm.ClassFile.FieldType.object "java/util/Optional")), Jvm.Cond.code ({ cls := "java/util/Optional", name := "ofNullable", desc := "(Ljava/lang/Object;)Ljava/util/Optional;" } : Jvm.MethodName) jdk_32_method_4_code (1 : Nat) (Option.some (Jvm.ClassFile.FieldType.object "java/util/Optional")), Jvm.Cond.code ({ cls := "java/util/Optional", name := "isPresent", desc := "()Z" } : Jvm.MethodName) jdk_32_method_6_code (1 : Nat) (Option.some Jvm.ClassFile.FieldType.boolean), Jvm.Cond.code ({ cls := "com/example/firm_gate/firmgate/TokenDecision", name := "reason", desc := "()Ljava/util/Optional;" } : Jvm.MethodName) prog_13_method_6_code (1 : Nat) (Option.some (Jvm.ClassFile.FieldType.object "java/util/Optional")), Jvm.Cond.code ({ cls := "java/util/Optional", name := "<init>", desc := "(Ljava/lang/Object;)V" } : Jvm.MethodName) jdk_32_method_2_code (2 : Nat) (Option.none : Option Jvm.ClassFile.FieldType), Jvm.Cond.code ({ cls := "java/util/Optional", name := "get", desc := "()Ljava/lang/Object;" } : Jvm.MethodName) jdk_32_method_5_code (1 : Nat) (Option.some (Jvm.ClassFile.FieldType.object "java/lang/Object"))]
set_option maxRecDepth 65536 in
theorem codes_eq : words1.filter isCode = codes1 := rfl
theorem w_codes : ∀ c ∈ words1.filter isCode, c.before args0 about1 = true := by
  rw [codes_eq]
  intro c hc
  simp only [codes1, List.mem_cons, List.not_mem_nil, or_false] at hc
  rcases hc with rfl | rfl | rfl | rfl | rfl | rfl | rfl | rfl | rfl | rfl | rfl | rfl
  · exact w_c0
  · exact w_c1
  · exact w_c2
  · exact w_c3
  · exact w_c4
  · exact w_c5
  · exact w_c6
  · exact w_c7
  · exact w_c8
  · exact w_c9
  · exact w_c10
  · exact w_c11
set_option maxRecDepth 65536 in
theorem w_t1 : (words1.take 24).all (fun c => isCode c || c.before args0 about1) = true := by decide +kernel
set_option maxRecDepth 65536 in
theorem w_t2 : ((words1.drop 24).take 24).all (fun c => isCode c || c.before args0 about1) = true := by decide +kernel
set_option maxRecDepth 65536 in
theorem w_t3 : (((words1.drop 24).drop 24).take 24).all (fun c => isCode c || c.before args0 about1) = true := by decide +kernel
set_option maxRecDepth 65536 in
theorem w_t4 : (((words1.drop 24).drop 24).drop 24).all (fun c => isCode c || c.before args0 about1) = true := by decide +kernel
theorem w_tables : (allAtoms (Jvm.Cond.code x code maxLocals ret :: tables_1)).before args0 about1 = true := by
  rw [allAtoms_all]
  show words1.all (fun c => c.before args0 about1) = true
  refine all_split ?_ w_codes
  rw [← List.take_append_drop 24 words1, List.all_append, w_t1, ← List.take_append_drop 24 (words1.drop 24), List.all_append, w_t2, ← List.take_append_drop 24 ((words1.drop 24).drop 24), List.all_append, w_t3, w_t4]
  rfl
set_option maxRecDepth 65536 in
theorem w_rest : rest_1_c.before args0 about1 = true := by decide +kernel
set_option maxRecDepth 65536 in
theorem w_case : (Jvm.Cond.and given_1 narrow_1).before args0 about1 = true := by decide +kernel
theorem w_applies : (headSpec (Jvm.Cond.code x code maxLocals ret :: tables_1) room_1).applies x e0.platform about1 = true :=
  (Spec.applies_iff w_frames).mpr ⟨w_running, w_runnable, w_alone, w_named, w_hears, w_ripe, w_room, w_tables⟩
theorem atStart : AtStart classFile x code maxLocals ret World_1 tables_1 room_1 Calls_1 rest_1 Pre_1 launch0 p0 e0 about1 theMethod args0 below0 :=
  ⟨lists_1, trivial, launch0.admits_env _ _ _, launch0.least_env, fairChoices_fair.cas, fairChoices_fair.clock, w_frames, w_args, w_heap, w_applies, trivial, w_rest, w_case⟩
end start1
theorem witness_1 : WitnessClaimed_1 := ⟨start1.p0, start1.e0, start1.about1, start1.theMethod, start1.args0, start1.below0, start1.atStart⟩
end Jvm.Pilot.@@N@@
