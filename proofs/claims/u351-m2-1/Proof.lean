import JvmDerived
import JvmDerived.Pilot.@@N@@Statement
import JvmDerived.Pilot.@@N@@Code
set_option linter.unusedVariables false
set_option linter.unusedSimpArgs false
namespace Jvm.Pilot.@@N@@
open Jvm Jvm.ClassFile Sem Op Lib Jvm.Free Jvm.Stand Jvm.LawKit Jvm.RoadKit Bundle Jvm.Pilot.@@N@@.Jvm.D
/-! own: the run from A ends well -/
def Go (tb : Tables) (e : Env) (below : List Frame) (A : State) (P : State → Outcome → Prop) : Prop := ∃ t o, Steps tb e below A t ∧ P t o
theorem own_on {tb : Tables} {e : Env} {below : List Frame} {A B : State} {P : State → Outcome → Prop} (k : ∀ t, Steps tb e below B t → Steps tb e below A t) (h : Go tb e below B P) : Go tb e below A P := by
  obtain ⟨t, o, h1, h2⟩ := h
  exact ⟨t, o, k t h1, h2⟩
theorem own_of {tb : Tables} {e : Env} {below : List Frame} {A : State} {P : State → Outcome → Prop} (h : Go tb e below A P) : ∃ t o, Steps tb e below A t ∧ P t o := h
theorem own_old {Z : State} {n0 : Nat} {h : Heap} (O : Old Z n0 h) : n0 ≤ h.size := O.1 ▸ O.2.1
theorem own_retV {p : Program} {l : Launch} {e : Env} {R : Room} {s : State} {m : MethodId} {args : Array Value} {below : List Frame} {meth : Method} {c : Code} {T : State} {locs : List Loc} {cells slots : Nat}
    (X : Stand p l e R s m args below meth c T locs cells slots) (hx : p.tables.exec = Jvm.exec) {pc : Nat} {Ls : Array Slot} {w : Value} {t : FieldType} {rest : List Value} (hret : meth.sig.returnType = some t) (ht : t.isReference = true) (hw : w.isRef = true) (hd : decode c.code pc = .ok (.areturn, 1)) {fs : List Frame}
    (hl : ∀ (f : JFrame) (acts : List Action), f.method = m → f.locked = none → f.entered = [] → (doReturn e (T.setTop f) acts (some w)).1 = T.setFrames fs) : Steps p.tables e below (T.setTop (mkF m pc Ls (w :: rest))) (T.setFrames fs) :=
  retOut X hx hret (by cases t <;> first | (simp [FieldType.isReference] at ht; done) | (cases w <;> first | rfl | (simp [Value.isRef] at hw))) (Or.inr (Or.inr (Or.inr (Or.inr ⟨rfl, ht, hw⟩)))) hd hl
theorem own_retI {p : Program} {l : Launch} {e : Env} {R : Room} {s : State} {m : MethodId} {args : Array Value} {below : List Frame} {meth : Method} {c : Code} {T : State} {locs : List Loc} {cells slots : Nat}
    (X : Stand p l e R s m args below meth c T locs cells slots) (hx : p.tables.exec = Jvm.exec) {pc : Nat} {Ls : Array Slot} {z : Int32} {rest : List Value} (hret : meth.sig.returnType = some .int) (hd : decode c.code pc = .ok (.ireturn, 1)) {fs : List Frame}
    (hl : ∀ (f : JFrame) (acts : List Action), f.method = m → f.locked = none → f.entered = [] → (doReturn e (T.setTop f) acts (some (.int z))).1 = T.setFrames fs) : Steps p.tables e below (T.setTop (mkF m pc Ls (.int z :: rest))) (T.setFrames fs) :=
  retOut X hx hret rfl (Or.inl ⟨rfl, Or.inl rfl, z, rfl⟩) hd hl
theorem own_retN {p : Program} {l : Launch} {e : Env} {R : Room} {s : State} {m : MethodId} {args : Array Value} {below : List Frame} {meth : Method} {c : Code} {T : State} {locs : List Loc} {cells slots : Nat}
    (X : Stand p l e R s m args below meth c T locs cells slots) (hx : p.tables.exec = Jvm.exec) {pc : Nat} {Ls : Array Slot} {z : Int32} {t : FieldType} {rest : List Value} (hret : meth.sig.returnType = some t) (ht : t = .boolean ∨ t = .byte ∨ t = .char ∨ t = .short) (hz : nar t z = z) (hd : decode c.code pc = .ok (.ireturn, 1)) {fs : List Frame}
    (hl : ∀ (f : JFrame) (acts : List Action), f.method = m → f.locked = none → f.entered = [] → (doReturn e (T.setTop f) acts (some (.int z))).1 = T.setFrames fs) : Steps p.tables e below (T.setTop (mkF m pc Ls (.int z :: rest))) (T.setFrames fs) :=
  retN X hx hret ht hd (by rw [hz]; exact hl)
theorem own_retD {p : Program} {l : Launch} {e : Env} {R : Room} {s : State} {m : MethodId} {args : Array Value} {below : List Frame} {meth : Method} {c : Code} {T : State} {locs : List Loc} {cells slots : Nat}
    (X : Stand p l e R s m args below meth c T locs cells slots) (hx : p.tables.exec = Jvm.exec) {pc : Nat} {Ls : Array Slot} {z : UInt64} {rest : List Value} (hret : meth.sig.returnType = some .double) (hd : decode c.code pc = .ok (.dreturn, 1)) {fs : List Frame}
    (hl : ∀ (f : JFrame) (acts : List Action), f.method = m → f.locked = none → f.entered = [] → (doReturn e (T.setTop f) acts (some (.double z))).1 = T.setFrames fs) : Steps p.tables e below (T.setTop (mkF m pc Ls (.double z :: rest))) (T.setFrames fs) :=
  retOut X hx hret rfl (Or.inr (Or.inr (Or.inl ⟨rfl, rfl, z, rfl⟩))) hd hl
theorem own_retJ {p : Program} {l : Launch} {e : Env} {R : Room} {s : State} {m : MethodId} {args : Array Value} {below : List Frame} {meth : Method} {c : Code} {T : State} {locs : List Loc} {cells slots : Nat}
    (X : Stand p l e R s m args below meth c T locs cells slots) (hx : p.tables.exec = Jvm.exec) {pc : Nat} {Ls : Array Slot} {z : Int64} {rest : List Value} (hret : meth.sig.returnType = some .long) (hd : decode c.code pc = .ok (.lreturn, 1)) {fs : List Frame}
    (hl : ∀ (f : JFrame) (acts : List Action), f.method = m → f.locked = none → f.entered = [] → (doReturn e (T.setTop f) acts (some (.long z))).1 = T.setFrames fs) : Steps p.tables e below (T.setTop (mkF m pc Ls (.long z :: rest))) (T.setFrames fs) :=
  retOut X hx hret rfl (Or.inr (Or.inl ⟨rfl, rfl, z, rfl⟩)) hd hl
theorem own_fldI {Z : State} {args : Array Value} {t : Term} {x : Addr} {C n d : String} {k : Int32} (ev : t.eval args Z none [] Z = some (.ref x)) (h : (Cond.eq (.field t C n d) (.int k)).value args Z none Z [] = some true) : Fld Z Z.heap x C n d (.int k) := by
  refine Fld.start ?_
  cases hf : Z.fieldOf? x C n d with
  | none => simp [Cond.value, Term.eval, ev, hf] at h
  | some v => cases v <;> simp [Cond.value, Term.eval, ev, hf] at h; subst h; rfl
theorem own_nar {t : FieldType} {v : Value} (h : v.isRef = true) : narrow t v = v := by rcases ref_cases h with rfl | ⟨r, rfl⟩ <;> cases t <;> rfl
theorem own_fit {t : FieldType} {v : Value} (h : v.isRef = true) (ht : t.isReference = true := by rfl) : fits t v = true := by rcases ref_cases h with rfl | ⟨r, rfl⟩ <;> cases t <;> first | rfl | (simp [FieldType.isReference] at ht)
theorem own_st {l l' : Array Slot} {i : Nat} {v : Value} {o : Slot} (hold : l[i]? = some o) (ho : o = .unset ∨ ∃ w, o = .val w ∧ w.category = 1) (hv : v.category = 1) (e : l.setIfInBounds i (.val v) = l' := by rfl) : storeLocals l i v = some l' := e ▸ Jvm.Free.XS.store1 hold ho hv
theorem own_lremM {p : Program} {l : Launch} {e : Env} {R : Room} {s : State} {m : MethodId} {args : Array Value} {below : List Frame} {meth : Method} {c : Code} {T : State} {locs : List Loc} {cells slots : Nat} {g : JFrame} {target : State}
    (X : Stand p l e R s m args below meth c T locs cells slots) (hx : p.tables.exec = Jvm.exec) (hg : g.method = m) {x y : Int64} {rest : List Value} (hd : decode c.code g.pc = .ok (.lrem, 1)) (hs : g.stack = .long y :: .long x :: rest) (hy : y ≠ 0)
    (hr : Steps p.tables e below (T.setTop { g with pc := g.pc + 1, stack := .long (x % y) :: rest }) target) : Steps p.tables e below (T.setTop g) target :=
  Jvm.Free.XT.lrem X.here hx hg hd hs hy (by rw [lrem_mod]; exact hr)
def OwnMir (Z : State) (C : String) (m : Addr) : Prop := ∃ (c : ClassId) (k : Class), Z.vm.findClass C = some c ∧ Z.vm.classes[c]? = some k ∧ k.mirror = some m
theorem own_gcls {p : Program} {l : Launch} {e : Env} {R : Room} {s : State} {m : MethodId} {args : Array Value} {below : List Frame} {meth : Method} {c : Code} {T : State} {locs : List Loc} {cells slots : Nat} {Z : State} {h : Heap} {a : Addr}
    (X : Stand p l e R s m args below meth c T locs cells slots) (hx : p.tables.exec = Jvm.exec) (hZ : Z.Warmed39 s.vm) {a0 : Array Value} {own C : String} {index : Nat} (hown : s.vm.findClass own = some m.cls)
    (w1 : (Cond.methodLink own index Jvm.Stand.gcN).before a0 Z = true) (w2 : (Cond.declares Jvm.Stand.gcN).before a0 Z = true) (w4 : (Cond.selects C Jvm.Stand.gcN Jvm.Stand.gcN).before a0 Z = true) (w5 : (Cond.instanceMethod Jvm.Stand.gcN).before a0 Z = true) (w6 : (Cond.native Jvm.Stand.gcN).before a0 Z = true)
    (eT : T.heap = h) (E : Exa Z h a C) {mr : Addr} (M : OwnMir Z C mr)
    {g : JFrame} (hg : g.method = m) (hsize : g.locals.size = c.maxLocals) {rest : List Value} (hs : g.stack = .ref a :: rest) (hd : decode c.code g.pc = .ok (.invokevirtual index, 3)) (hf : 1 ≤ R.frames) {W : Nat} (hW : 2 * g.monitorRoom + (rest.map fun v => v.category).sum ≤ W) (hl : W + (nativeFrameWords "java/lang/Object" "getClass" 1 + 11) ≤ R.locals) :
    ∃ T', Stand p l e R s m args below meth c T' locs cells slots ∧ T'.heap = h ∧ ∀ target, Steps p.tables e below (T'.setTop { g with pc := g.pc + 3, stack := .ref mr :: rest }) target → Steps p.tables e below (T.setTop g) target := by
  obtain ⟨cB, kB, i1, i2, i3⟩ := isOf hZ eT E
  obtain ⟨cc, kc, m1, m2, m3⟩ := M
  rw [hZ.alike.findClass] at i1
  cases i1.symm.trans m1
  obtain ⟨k', q, ek⟩ := hZ.alike.2.2 _ _ m2
  obtain ⟨vm', X', st⟩ := X.getClassOf hx hown (mvT hZ w1) (mvT hZ w2) (notFace_of_selects (args := #[]) (mvT hZ w4)) (mvT hZ w4) (mvT hZ w5) (mvT hZ w6) (by rw [hZ.alike.findClass]; exact m1) i3 q (by rw [ek]; exact m3) hg hsize hs hd hf (by omega)
  exact ⟨_, X', eT, st⟩
theorem own_idx (x k : Int32) (h : (x &&& (2147483647 : Int32)) % (22 : Int32) = k) : ¬ k < 0 ∧ k < 22 ∧ k.toNatClampNeg < 22 := by
  have e := c_mask x 2147483647 31 (by decide) (by decide)
  have e2 := (c_irem (x &&& 2147483647) 22 22 (by decide)).1 (by omega)
  rw [h] at e2
  have z : (0 : Int32).toInt = 0 := rfl
  have z2 : (22 : Int32).toInt = 22 := rfl
  refine ⟨?_, ?_, ?_⟩
  · rw [Int32.lt_iff_toInt_lt]; omega
  · rw [Int32.lt_iff_toInt_lt]; omega
  · show k.toInt.toNat < 22; omega
theorem own_cmp (i j : Int32) (h1 : ¬ i < 0) (h2 : i < 22) (h3 : ¬ j < 0) (h4 : j < 22) : (if (0 : Int32) < (i - j) then (1 : Int32) else (0 : Int32)) = (if j < i then (1 : Int32) else (0 : Int32)) := by
  have z : (0 : Int32).toInt = 0 := rfl
  have z2 : (22 : Int32).toInt = 22 := rfl
  rw [Int32.lt_iff_toInt_lt] at h1 h2 h3 h4
  have q := c_isub i j
  have r := rng32 (i - j)
  have e : ((0 : Int32) < i - j) = (j < i) := by
    rw [Int32.lt_iff_toInt_lt, Int32.lt_iff_toInt_lt]
    exact propext ⟨fun _ => by omega, fun _ => by omega⟩
  simp only [e]
theorem own_at (w : Nat → Addr) : ∀ i, i < 22 → ([(.ref (w 0)), (.ref (w 1)), (.ref (w 2)), (.ref (w 3)), (.ref (w 4)), (.ref (w 5)), (.ref (w 6)), (.ref (w 7)), (.ref (w 8)), (.ref (w 9)), (.ref (w 10)), (.ref (w 11)), (.ref (w 12)), (.ref (w 13)), (.ref (w 14)), (.ref (w 15)), (.ref (w 16)), (.ref (w 17)), (.ref (w 18)), (.ref (w 19)), (.ref (w 20)), (.ref (w 21))] : List Value).getD i .null = .ref (w i)
  | 0, _ => rfl
  | 1, _ => rfl
  | 2, _ => rfl
  | 3, _ => rfl
  | 4, _ => rfl
  | 5, _ => rfl
  | 6, _ => rfl
  | 7, _ => rfl
  | 8, _ => rfl
  | 9, _ => rfl
  | 10, _ => rfl
  | 11, _ => rfl
  | 12, _ => rfl
  | 13, _ => rfl
  | 14, _ => rfl
  | 15, _ => rfl
  | 16, _ => rfl
  | 17, _ => rfl
  | 18, _ => rfl
  | 19, _ => rfl
  | 20, _ => rfl
  | 21, _ => rfl
  | n + 22, h => absurd h (by omega)
theorem own_pn_java_lang_Enum : plainName "java/lang/Enum" = true := by first | (simp [plainName, overriddenIn]; done) | decide +kernel
theorem own_ef_2 (m : MethodId) (x0 : Addr) (x1 : Addr) : entryFrame m #[(.ref x0), (.ref x1)] 4 = mkF m 0 #[.val (.ref x0), .val (.ref x1), .unset, .unset] [] := by first | (simp [entryFrame, mkF, argsToLocals, Value.category]; done) | rfl
def Q2 (Z : State) (u0 : Addr) (u1 : Addr) (oa : Int32) (ob : Int32) (mr : Addr) (h0 : Heap) (n0 : Nat) (v : Option Value) (h : Heap) (L : List Loc) : Prop := v = some (.int (oa - ob)) ∧ Fr n0 L ∧ h = h0
theorem own_d2_0 : decode jdk_37_method_8_code 0 = .ok (.aload_n 1, 1) := by decide +kernel
theorem own_d2_1 : decode jdk_37_method_8_code 1 = .ok (.astore_n 2, 1) := by decide +kernel
theorem own_d2_2 : decode jdk_37_method_8_code 2 = .ok (.aload_n 0, 1) := by decide +kernel
theorem own_d2_3 : decode jdk_37_method_8_code 3 = .ok (.astore_n 3, 1) := by decide +kernel
theorem own_d2_4 : decode jdk_37_method_8_code 4 = .ok (.aload_n 3, 1) := by decide +kernel
theorem own_d2_5 : decode jdk_37_method_8_code 5 = .ok (.invokevirtual 29, 3) := by decide +kernel
theorem own_d2_8 : decode jdk_37_method_8_code 8 = .ok (.aload_n 2, 1) := by decide +kernel
theorem own_d2_9 : decode jdk_37_method_8_code 9 = .ok (.invokevirtual 29, 3) := by decide +kernel
theorem own_d2_12 : decode jdk_37_method_8_code 12 = .ok (.if_acmp .eq 22, 3) := by decide +kernel
theorem own_d2_34 : decode jdk_37_method_8_code 34 = .ok (.aload_n 3, 1) := by decide +kernel
theorem own_d2_35 : decode jdk_37_method_8_code 35 = .ok (.getfield 7, 3) := by decide +kernel
theorem own_d2_38 : decode jdk_37_method_8_code 38 = .ok (.aload_n 2, 1) := by decide +kernel
theorem own_d2_39 : decode jdk_37_method_8_code 39 = .ok (.getfield 7, 3) := by decide +kernel
theorem own_d2_42 : decode jdk_37_method_8_code 42 = .ok (.isub, 1) := by decide +kernel
theorem own_d2_43 : decode jdk_37_method_8_code 43 = .ok (.ireturn, 1) := by decide +kernel
set_option maxRecDepth 65536 in
set_option maxHeartbeats 40000000 in
theorem rm2 (l : Launch) (Z : State) (a0 : Array Value) (hw : ∀ d ∈ tables_1, d.before a0 Z = true) (ws : List Jvm.Cond) (u0 : Addr) (u1 : Addr) (oa : Int32) (ob : Int32) (mr : Addr) (h0 : Heap) (n0 : Nat) (O0 : Old Z n0 h0) (Ea : Exa Z Z.heap u0 "com/example/stackwright/stackwright/CreditGrade") (Eb : Exa Z Z.heap u1 "com/example/stackwright/stackwright/CreditGrade") (Fa : Fld Z Z.heap u0 "java/lang/Enum" "ordinal" "I" (.int oa)) (Fb : Fld Z Z.heap u1 "java/lang/Enum" "ordinal" "I" (.int ob)) (Mr : OwnMir Z "com/example/stackwright/stackwright/CreditGrade" mr) :
    MetFree l (⟨"java/lang/Enum", "compareTo", "(Ljava/lang/Enum;)I"⟩ : MethodName) (head1 (Jvm.Cond.code (⟨"java/lang/Enum", "compareTo", "(Ljava/lang/Enum;)I"⟩ : MethodName) jdk_37_method_8_code 4 (some .int) :: ws) ({ frames := 1, cells := 0, slots := 0, locals := 24 } : Room)) (fun a U => a = #[(.ref u0), (.ref u1)] ∧ Z.Warmed39 U.vm ∧ U.heap = h0) (fun _ _ _ _ _ => True) (fun _ U o U' => ∃ v L, o = .returned v ∧ Q2 Z u0 u1 oa ob mr h0 n0 v U'.heap L ∧ FrameEnd U o U' L ({ frames := 1, cells := 0, slots := 0, locals := 24 } : Room).cells ({ frames := 1, cells := 0, slots := 0, locals := 24 } : Room).slots) := by
  refine MetFree.of_bodySF (plainFor_of_name own_pn_java_lang_Enum) hisR ?_
  intro p e s m args below meth c s₁ Bd hml0 hP hK
  obtain ⟨rfl, hZ, hh⟩ := hP
  have hx := Bd.exec
  have hby := Bd.bytes
  have hml : c.maxLocals = 4 := hml0
  have hown : s.vm.findClass "java/lang/Enum" = some m.cls := findClass_of_methodNamed Bd.named
  have hnm := (name_of_methodNamed Bd.named Bd.method).1
  have X0 : Stand p l e ({ frames := 1, cells := 0, slots := 0, locals := 24 } : Room) s m #[(.ref u0), (.ref u1)] below meth c s₁ [] 0 0 := Stand.of_body Bd
  have e0 : s₁.heap = h0 := by rw [← hh, Bd.state]; rfl
  have N0 := Fr.nil n0
  change Go p.tables e below _ _
  refine own_on (B := s₁.setTop (mkF m 0 #[.val (.ref u0), .val (.ref u1), .unset, .unset] [])) (fun tz kz => castTop (own_ef_2 m u0 u1) kz) ?_
  refine own_on (B := s₁.setTop (mkF m 5 #[.val (.ref u0), .val (.ref u1), .val (.ref u1), .val (.ref u0)] [(.ref u0)])) (fun tz kz => ?_) ?_
  · show Steps p.tables e below (s₁.setTop (mkF m 0 #[.val (.ref u0), .val (.ref u1), .unset, .unset] [])) tz
    refine XS.aloadN X0.here hx rfl (hb hby own_d2_0) rfl rfl ?_
    show Steps p.tables e below (s₁.setTop (mkF m 1 #[.val (.ref u0), .val (.ref u1), .unset, .unset] [(.ref u1)])) tz
    refine XS.astoreN X0.here hx rfl (hb hby own_d2_1) rfl rfl (l' := #[.val (.ref u0), .val (.ref u1), .val (.ref u1), .unset]) rfl ?_
    show Steps p.tables e below (s₁.setTop (mkF m 2 #[.val (.ref u0), .val (.ref u1), .val (.ref u1), .unset] [])) tz
    refine XS.aloadN X0.here hx rfl (hb hby own_d2_2) rfl rfl ?_
    show Steps p.tables e below (s₁.setTop (mkF m 3 #[.val (.ref u0), .val (.ref u1), .val (.ref u1), .unset] [(.ref u0)])) tz
    refine XS.astoreN X0.here hx rfl (hb hby own_d2_3) rfl rfl (l' := #[.val (.ref u0), .val (.ref u1), .val (.ref u1), .val (.ref u0)]) rfl ?_
    show Steps p.tables e below (s₁.setTop (mkF m 4 #[.val (.ref u0), .val (.ref u1), .val (.ref u1), .val (.ref u0)] [])) tz
    refine XS.aloadN X0.here hx rfl (hb hby own_d2_4) rfl rfl ?_
    exact kz
  obtain ⟨T1, X1, e1, st1⟩ := own_gcls X0 hx hZ hown (hw _ (List.mem_of_getElem? (i := 61) rfl)) (hw _ (List.mem_of_getElem? (i := 62) rfl)) (hw _ (List.mem_of_getElem? (i := 64) rfl)) (hw _ (List.mem_of_getElem? (i := 63) rfl)) (hw _ (List.mem_of_getElem? (i := 65) rfl)) e0 (Ea.ext O0.2) Mr (g := (mkF m 5 #[.val (.ref u0), .val (.ref u1), .val (.ref u1), .val (.ref u0)] [(.ref u0)])) rfl (by rw [hml]; rfl) rfl (hb hby own_d2_5) (by decide) (W := 0) (by show 2 * 0 + _ ≤ _; exact Nat.le_of_eq rfl) (by decide)
  refine own_on (B := T1.setTop (mkF m 8 #[.val (.ref u0), .val (.ref u1), .val (.ref u1), .val (.ref u0)] [(.ref mr)])) (fun tz kz => st1 _ kz) ?_
  refine own_on (B := T1.setTop (mkF m 9 #[.val (.ref u0), .val (.ref u1), .val (.ref u1), .val (.ref u0)] [(.ref u1), (.ref mr)])) (fun tz kz => ?_) ?_
  · show Steps p.tables e below (T1.setTop (mkF m 8 #[.val (.ref u0), .val (.ref u1), .val (.ref u1), .val (.ref u0)] [(.ref mr)])) tz
    refine XS.aloadN X1.here hx rfl (hb hby own_d2_8) rfl rfl ?_
    exact kz
  obtain ⟨T2, X2, e2, st2⟩ := own_gcls X1 hx hZ hown (hw _ (List.mem_of_getElem? (i := 61) rfl)) (hw _ (List.mem_of_getElem? (i := 62) rfl)) (hw _ (List.mem_of_getElem? (i := 64) rfl)) (hw _ (List.mem_of_getElem? (i := 63) rfl)) (hw _ (List.mem_of_getElem? (i := 65) rfl)) e1 (Eb.ext O0.2) Mr (g := (mkF m 9 #[.val (.ref u0), .val (.ref u1), .val (.ref u1), .val (.ref u0)] [(.ref u1), (.ref mr)])) rfl (by rw [hml]; rfl) rfl (hb hby own_d2_9) (by decide) (W := 1) (by show 2 * 0 + _ ≤ _; exact Nat.le_of_eq rfl) (by decide)
  refine own_on (B := T2.setTop (mkF m 12 #[.val (.ref u0), .val (.ref u1), .val (.ref u1), .val (.ref u0)] [(.ref mr), (.ref mr)])) (fun tz kz => st2 _ kz) ?_
  refine own_on (B := T2.setTop (mkF m 35 #[.val (.ref u0), .val (.ref u1), .val (.ref u1), .val (.ref u0)] [(.ref u0)])) (fun tz kz => ?_) ?_
  · show Steps p.tables e below (T2.setTop (mkF m 12 #[.val (.ref u0), .val (.ref u1), .val (.ref u1), .val (.ref u0)] [(.ref mr), (.ref mr)])) tz
    refine Jvm.RoadKit.acmp (g := (mkF m 12 #[.val (.ref u0), .val (.ref u1), .val (.ref u1), .val (.ref u0)] [(.ref mr), (.ref mr)])) X2 hx rfl rfl rfl (pc0 := 12) (pc' := 34) (same := true) rfl (hb hby own_d2_12) rfl (decide_eq_true (congrArg Value.ref rfl)) (by decide) (by decide) ?_
    show Steps p.tables e below (T2.setTop (mkF m 34 #[.val (.ref u0), .val (.ref u1), .val (.ref u1), .val (.ref u0)] [])) tz
    refine XS.aloadN X2.here hx rfl (hb hby own_d2_34) rfl rfl ?_
    exact kz
  obtain ⟨T3, X3, e3, st3⟩ := getF X2 hx hZ hown (host := "") (Or.inl (hw _ (List.mem_of_getElem? (i := 66) rfl))) Via.refl e2 (Fa.ext O0.2) (g := (mkF m 35 #[.val (.ref u0), .val (.ref u1), .val (.ref u1), .val (.ref u0)] [(.ref u0)])) rfl rfl (hb hby own_d2_35)
  refine own_on (B := T3.setTop (mkF m 38 #[.val (.ref u0), .val (.ref u1), .val (.ref u1), .val (.ref u0)] [(.int oa)])) (fun tz kz => st3 _ kz) ?_
  refine own_on (B := T3.setTop (mkF m 39 #[.val (.ref u0), .val (.ref u1), .val (.ref u1), .val (.ref u0)] [(.ref u1), (.int oa)])) (fun tz kz => ?_) ?_
  · show Steps p.tables e below (T3.setTop (mkF m 38 #[.val (.ref u0), .val (.ref u1), .val (.ref u1), .val (.ref u0)] [(.int oa)])) tz
    refine XS.aloadN X3.here hx rfl (hb hby own_d2_38) rfl rfl ?_
    exact kz
  obtain ⟨T4, X4, e4, st4⟩ := getF X3 hx hZ hown (host := "") (Or.inl (hw _ (List.mem_of_getElem? (i := 66) rfl))) Via.refl e3 (Fb.ext O0.2) (g := (mkF m 39 #[.val (.ref u0), .val (.ref u1), .val (.ref u1), .val (.ref u0)] [(.ref u1), (.int oa)])) rfl rfl (hb hby own_d2_39)
  refine own_on (B := T4.setTop (mkF m 42 #[.val (.ref u0), .val (.ref u1), .val (.ref u1), .val (.ref u0)] [(.int ob), (.int oa)])) (fun tz kz => st4 _ kz) ?_
  refine own_on (B := T4.setTop (mkF m 43 #[.val (.ref u0), .val (.ref u1), .val (.ref u1), .val (.ref u0)] [(.int (oa - ob))])) (fun tz kz => ?_) ?_
  · show Steps p.tables e below (T4.setTop (mkF m 42 #[.val (.ref u0), .val (.ref u1), .val (.ref u1), .val (.ref u0)] [(.int ob), (.int oa)])) tz
    refine XS.isub X4.here hx rfl (hb hby own_d2_42) rfl ?_
    exact kz
  obtain ⟨fs, hr, hrun, hended, hW, hsame⟩ := X4.leave (v := some (.int (oa - ob))) (fun h => by rw [Bd.returns] at h; cases h)
  refine own_of ⟨_, _, ?_, hrun, hended, _, _, rfl, ?_, ⟨_, rfl⟩, hW, hsame.mono (by decide) (by decide)⟩
  · show Steps p.tables e below (T4.setTop (mkF m 43 #[.val (.ref u0), .val (.ref u1), .val (.ref u1), .val (.ref u0)] [(.int (oa - ob))])) _
    exact own_retI X4 hx Bd.returns (hb hby own_d2_43) hr
  · show Q2 Z u0 u1 oa ob mr h0 n0 _ T4.heap _
    rw [e4]
    exact ⟨rfl, N0, rfl⟩
theorem own_pn_com_example_stackwright_stackwright_CreditGrade : plainName "com/example/stackwright/stackwright/CreditGrade" = true := by first | (simp [plainName, overriddenIn]; done) | decide +kernel
theorem own_ef_1 (m : MethodId) (x0 : Addr) (x1 : Addr) : entryFrame m #[(.ref x0), (.ref x1)] 2 = mkF m 0 #[.val (.ref x0), .val (.ref x1)] [] := by first | (simp [entryFrame, mkF, argsToLocals, Value.category]; done) | rfl
def Q1 (Z : State) (u0 : Addr) (u1 : Addr) (oa : Int32) (ob : Int32) (mr : Addr) (h0 : Heap) (n0 : Nat) (v : Option Value) (h : Heap) (L : List Loc) : Prop := v = some (.int (if (0 : Int32) < (oa - ob) then (1 : Int32) else (0 : Int32))) ∧ Fr n0 L ∧ h = h0
theorem own_d1_0 : decode prog_2_method_5_code 0 = .ok (.aload_n 0, 1) := by decide +kernel
theorem own_d1_1 : decode prog_2_method_5_code 1 = .ok (.aload_n 1, 1) := by decide +kernel
theorem own_pd0 : parseMethodDescriptor "(Ljava/lang/Enum;)I" = some ⟨[(.object "java/lang/Enum")], some .int⟩ := by decide +kernel
theorem own_d1_2 : decode prog_2_method_5_code 2 = .ok (.invokevirtual 96, 3) := by decide +kernel
theorem own_d1_5 : decode prog_2_method_5_code 5 = .ok (.ifCond .le 7, 3) := by decide +kernel
theorem own_d1_8 : decode prog_2_method_5_code 8 = .ok (.iconst 1, 1) := by decide +kernel
theorem own_d1_9 : decode prog_2_method_5_code 9 = .ok (.goto 4, 3) := by decide +kernel
theorem own_d1_12 : decode prog_2_method_5_code 12 = .ok (.iconst 0, 1) := by decide +kernel
theorem own_d1_13 : decode prog_2_method_5_code 13 = .ok (.ireturn, 1) := by decide +kernel
set_option maxRecDepth 65536 in
set_option maxHeartbeats 40000000 in
theorem rm1 (l : Launch) (Z : State) (a0 : Array Value) (hw : ∀ d ∈ tables_1, d.before a0 Z = true) (ws : List Jvm.Cond) (u0 : Addr) (u1 : Addr) (oa : Int32) (ob : Int32) (mr : Addr) (h0 : Heap) (n0 : Nat) (O0 : Old Z n0 h0) (Ea : Exa Z Z.heap u0 "com/example/stackwright/stackwright/CreditGrade") (Eb : Exa Z Z.heap u1 "com/example/stackwright/stackwright/CreditGrade") (Fa : Fld Z Z.heap u0 "java/lang/Enum" "ordinal" "I" (.int oa)) (Fb : Fld Z Z.heap u1 "java/lang/Enum" "ordinal" "I" (.int ob)) (Mr : OwnMir Z "com/example/stackwright/stackwright/CreditGrade" mr) :
    MetFree l (⟨"com/example/stackwright/stackwright/CreditGrade", "isWorseThan", "(Lcom/example/stackwright/stackwright/CreditGrade;)Z"⟩ : MethodName) (head1 (Jvm.Cond.code (⟨"com/example/stackwright/stackwright/CreditGrade", "isWorseThan", "(Lcom/example/stackwright/stackwright/CreditGrade;)Z"⟩ : MethodName) prog_2_method_5_code 2 (some .boolean) :: ws) ({ frames := 2, cells := 0, slots := 0, locals := 48 } : Room)) (fun a U => a = #[(.ref u0), (.ref u1)] ∧ Z.Warmed39 U.vm ∧ U.heap = h0) (fun _ _ _ _ _ => True) (fun _ U o U' => ∃ v L, o = .returned v ∧ Q1 Z u0 u1 oa ob mr h0 n0 v U'.heap L ∧ FrameEnd U o U' L ({ frames := 2, cells := 0, slots := 0, locals := 48 } : Room).cells ({ frames := 2, cells := 0, slots := 0, locals := 48 } : Room).slots) := by
  refine MetFree.of_bodySF (plainFor_of_name own_pn_com_example_stackwright_stackwright_CreditGrade) hisR ?_
  intro p e s m args below meth c s₁ Bd hml0 hP hK
  obtain ⟨rfl, hZ, hh⟩ := hP
  have hx := Bd.exec
  have hby := Bd.bytes
  have hml : c.maxLocals = 2 := hml0
  have hown : s.vm.findClass "com/example/stackwright/stackwright/CreditGrade" = some m.cls := findClass_of_methodNamed Bd.named
  have hnm := (name_of_methodNamed Bd.named Bd.method).1
  have X0 : Stand p l e ({ frames := 2, cells := 0, slots := 0, locals := 48 } : Room) s m #[(.ref u0), (.ref u1)] below meth c s₁ [] 0 0 := Stand.of_body Bd
  have e0 : s₁.heap = h0 := by rw [← hh, Bd.state]; rfl
  have N0 := Fr.nil n0
  change Go p.tables e below _ _
  refine own_on (B := s₁.setTop (mkF m 0 #[.val (.ref u0), .val (.ref u1)] [])) (fun tz kz => castTop (own_ef_1 m u0 u1) kz) ?_
  refine own_on (B := s₁.setTop (mkF m 2 #[.val (.ref u0), .val (.ref u1)] [(.ref u1), (.ref u0)])) (fun tz kz => ?_) ?_
  · show Steps p.tables e below (s₁.setTop (mkF m 0 #[.val (.ref u0), .val (.ref u1)] [])) tz
    refine XS.aloadN X0.here hx rfl (hb hby own_d1_0) rfl rfl ?_
    show Steps p.tables e below (s₁.setTop (mkF m 1 #[.val (.ref u0), .val (.ref u1)] [(.ref u0)])) tz
    refine XS.aloadN X0.here hx rfl (hb hby own_d1_1) rfl rfl ?_
    exact kz
  obtain ⟨cq1, kq1, q1a, q1b, q1c⟩ := isOf hZ e0 (Ea.ext O0.2)
  obtain ⟨_, _, ⟨T1, L1, k1, n1⟩, -, X1, ⟨Lc1, hQ1, l1, y1, z1⟩, st1⟩ := X0.virtualBackUp hx (x := (⟨"com/example/stackwright/stackwright/CreditGrade", "compareTo", "(Ljava/lang/Enum;)I"⟩ : MethodName)) (y := (⟨"java/lang/Enum", "compareTo", "(Ljava/lang/Enum;)I"⟩ : MethodName)) (owner := "java/lang/Enum") hown (mvT hZ (hw _ (List.mem_of_getElem? (i := 54) rfl))) (mvT hZ (hw _ (List.mem_of_getElem? (i := 55) rfl))) (mvT hZ (hw _ (List.mem_of_getElem? (i := 56) rfl))) (by decide) (mvT hZ (hw _ (List.mem_of_getElem? (i := 58) rfl))) (mvT hZ (hw _ (List.mem_of_getElem? (i := 57) rfl))) (backOf (W := 0) (rm2 l Z a0 hw [] u0 u1 oa ob mr h0 n0 O0 Ea Eb Fa Fb Mr) hZ (hw _ (List.mem_of_getElem? (i := 60) rfl)) (hw _ (List.mem_of_getElem? (i := 59) rfl)) (by decide) (by decide)) q1a q1c (g := (mkF m 2 #[.val (.ref u0), .val (.ref u1)] [(.ref u1), (.ref u0)])) rfl (by rw [hml]; rfl) (Steps.refl _) (argsL := [(.ref u1)]) (rest := []) (lenOf own_pd0 rfl) rfl (by show 2 * 0 + _ ≤ _; exact Nat.le_of_eq rfl) (hb hby own_d1_2) (fun _ _ => ⟨rfl, e0, (by decide : 0 + 0 ≤ _), (by decide : 0 + 0 ≤ _)⟩)
  dsimp only [Pt.U, Pt.locs, Pt.cells, Pt.slots] at X1 l1 y1 z1 st1 hQ1
  subst l1 y1 z1
  obtain ⟨rfl, Nq1, e1⟩ := hQ1
  have N1 := Fr.app N0 Nq1
  refine own_on (B := T1.setTop (mkF m 5 #[.val (.ref u0), .val (.ref u1)] [(.int (oa - ob))])) (fun tz kz => st1.trans kz) ?_
  obtain ⟨mv3, hmv3⟩ : ∃ z, z = (if (0 : Int32) < (oa - ob) then (1 : Int32) else (0 : Int32)) := ⟨_, rfl⟩
  refine own_on (B := T1.setTop (mkF m 13 #[.val (.ref u0), .val (.ref u1)] [(.int mv3)])) (fun tz kz => ?_) ?_
  · show Steps p.tables e below (T1.setTop (mkF m 5 #[.val (.ref u0), .val (.ref u1)] [(.int (oa - ob))])) tz
    by_cases hm2 : (0 : Int32) < (oa - ob)
    · refine XS.ifNo X1.here hx rfl (hb hby own_d1_5) rfl ((if0 _ _).trans (tlt hm2).2.2.2) ?_
      show Steps p.tables e below (T1.setTop (mkF m 8 #[.val (.ref u0), .val (.ref u1)] [])) tz
      refine XS.iconst X1.here hx rfl (hb hby own_d1_8) ?_
      show Steps p.tables e below (T1.setTop (mkF m 9 #[.val (.ref u0), .val (.ref u1)] [(.int (1 : Int32))])) tz
      refine XS.goto X1.here hx rfl (pc0 := 9) (pc' := 13) rfl (hb hby own_d1_9) (by decide) (by decide) ?_
      show Steps p.tables e below (T1.setTop (mkF m 13 #[.val (.ref u0), .val (.ref u1)] [(.int (1 : Int32))])) tz
      rw [if_pos hm2] at hmv3
      rw [hmv3] at kz
      exact kz
    · refine XS.ifYes X1.here hx rfl (pc0 := 5) (pc' := 12) rfl (hb hby own_d1_5) rfl ((if0 _ _).trans (flt hm2).2.2.2) (by decide) (by decide) ?_
      show Steps p.tables e below (T1.setTop (mkF m 12 #[.val (.ref u0), .val (.ref u1)] [])) tz
      refine XS.iconst X1.here hx rfl (hb hby own_d1_12) ?_
      show Steps p.tables e below (T1.setTop (mkF m 13 #[.val (.ref u0), .val (.ref u1)] [(.int (0 : Int32))])) tz
      rw [if_neg hm2] at hmv3
      rw [hmv3] at kz
      exact kz
  rw [hmv3]
  obtain ⟨fs, hr, hrun, hended, hW, hsame⟩ := X1.leave (v := some (.int (if (0 : Int32) < (oa - ob) then (1 : Int32) else (0 : Int32)))) (fun h => by rw [Bd.returns] at h; cases h)
  refine own_of ⟨_, _, ?_, hrun, hended, _, _, rfl, ?_, ⟨_, rfl⟩, hW, hsame.mono (by decide) (by decide)⟩
  · show Steps p.tables e below (T1.setTop (mkF m 13 #[.val (.ref u0), .val (.ref u1)] [(.int (if (0 : Int32) < (oa - ob) then (1 : Int32) else (0 : Int32)))])) _
    exact own_retN X1 hx (t := .boolean) Bd.returns (by simp) (by first | rfl | (split <;> first | rfl | (split <;> first | rfl | (split <;> rfl)))) (hb hby own_d1_13) hr
  · show Q1 Z u0 u1 oa ob mr h0 n0 _ T1.heap _
    rw [e1]
    exact ⟨rfl, N1, rfl⟩
theorem own_pn_com_example_stackwright_stackwright_CreditGradeIsWorseThanPinLaw : plainName "com/example/stackwright/stackwright/CreditGradeIsWorseThanPinLaw" = true := by first | (simp [plainName, overriddenIn]; done) | decide +kernel
theorem own_ef_0 (m : MethodId) (x0 : Int32) (x1 : Int32) : entryFrame m #[(.int x0), (.int x1)] maxLocals = mkF m 0 #[.val (.int x0), .val (.int x1), .unset, .unset, .unset, .unset] [] := by first | (simp [entryFrame, mkF, argsToLocals, Value.category, maxLocals]; done) | rfl
def Q0 (Z : State) (p0 : Int32) (p1 : Int32) (w : Nat → Addr) (mr : Addr) (h0 : Heap) (n0 : Nat) (v : Option Value) (h : Heap) (L : List Loc) : Prop := v = some (.int 1) ∧ Fr n0 L
theorem own_pd1 : parseMethodDescriptor "(Lcom/example/stackwright/stackwright/CreditGrade;)Z" = some ⟨[(.object "com/example/stackwright/stackwright/CreditGrade")], some .boolean⟩ := by decide +kernel
set_option maxRecDepth 65536 in
set_option maxHeartbeats 40000000 in
theorem rm0 (l : Launch) (Z : State) (a0 : Array Value) (hw : ∀ d ∈ tables_1, d.before a0 Z = true) (ws : List Jvm.Cond) (p0 : Int32) (p1 : Int32) (w : Nat → Addr) (mr : Addr) (h0 : Heap) (n0 : Nat) (O0 : Old Z n0 h0) (S_AAA : Sta Z Z.heap "com/example/stackwright/stackwright/CreditGrade" "AAA" "Lcom/example/stackwright/stackwright/CreditGrade;" (.ref (w 0))) (S_AA_PLUS : Sta Z Z.heap "com/example/stackwright/stackwright/CreditGrade" "AA_PLUS" "Lcom/example/stackwright/stackwright/CreditGrade;" (.ref (w 1))) (S_AA : Sta Z Z.heap "com/example/stackwright/stackwright/CreditGrade" "AA" "Lcom/example/stackwright/stackwright/CreditGrade;" (.ref (w 2))) (S_AA_MINUS : Sta Z Z.heap "com/example/stackwright/stackwright/CreditGrade" "AA_MINUS" "Lcom/example/stackwright/stackwright/CreditGrade;" (.ref (w 3))) (S_A_PLUS : Sta Z Z.heap "com/example/stackwright/stackwright/CreditGrade" "A_PLUS" "Lcom/example/stackwright/stackwright/CreditGrade;" (.ref (w 4))) (S_A : Sta Z Z.heap "com/example/stackwright/stackwright/CreditGrade" "A" "Lcom/example/stackwright/stackwright/CreditGrade;" (.ref (w 5))) (S_A_MINUS : Sta Z Z.heap "com/example/stackwright/stackwright/CreditGrade" "A_MINUS" "Lcom/example/stackwright/stackwright/CreditGrade;" (.ref (w 6))) (S_BBB_PLUS : Sta Z Z.heap "com/example/stackwright/stackwright/CreditGrade" "BBB_PLUS" "Lcom/example/stackwright/stackwright/CreditGrade;" (.ref (w 7))) (S_BBB : Sta Z Z.heap "com/example/stackwright/stackwright/CreditGrade" "BBB" "Lcom/example/stackwright/stackwright/CreditGrade;" (.ref (w 8))) (S_BBB_MINUS : Sta Z Z.heap "com/example/stackwright/stackwright/CreditGrade" "BBB_MINUS" "Lcom/example/stackwright/stackwright/CreditGrade;" (.ref (w 9))) (S_BB_PLUS : Sta Z Z.heap "com/example/stackwright/stackwright/CreditGrade" "BB_PLUS" "Lcom/example/stackwright/stackwright/CreditGrade;" (.ref (w 10))) (S_BB : Sta Z Z.heap "com/example/stackwright/stackwright/CreditGrade" "BB" "Lcom/example/stackwright/stackwright/CreditGrade;" (.ref (w 11))) (S_BB_MINUS : Sta Z Z.heap "com/example/stackwright/stackwright/CreditGrade" "BB_MINUS" "Lcom/example/stackwright/stackwright/CreditGrade;" (.ref (w 12))) (S_B_PLUS : Sta Z Z.heap "com/example/stackwright/stackwright/CreditGrade" "B_PLUS" "Lcom/example/stackwright/stackwright/CreditGrade;" (.ref (w 13))) (S_B : Sta Z Z.heap "com/example/stackwright/stackwright/CreditGrade" "B" "Lcom/example/stackwright/stackwright/CreditGrade;" (.ref (w 14))) (S_B_MINUS : Sta Z Z.heap "com/example/stackwright/stackwright/CreditGrade" "B_MINUS" "Lcom/example/stackwright/stackwright/CreditGrade;" (.ref (w 15))) (S_CCC_PLUS : Sta Z Z.heap "com/example/stackwright/stackwright/CreditGrade" "CCC_PLUS" "Lcom/example/stackwright/stackwright/CreditGrade;" (.ref (w 16))) (S_CCC : Sta Z Z.heap "com/example/stackwright/stackwright/CreditGrade" "CCC" "Lcom/example/stackwright/stackwright/CreditGrade;" (.ref (w 17))) (S_CCC_MINUS : Sta Z Z.heap "com/example/stackwright/stackwright/CreditGrade" "CCC_MINUS" "Lcom/example/stackwright/stackwright/CreditGrade;" (.ref (w 18))) (S_CC : Sta Z Z.heap "com/example/stackwright/stackwright/CreditGrade" "CC" "Lcom/example/stackwright/stackwright/CreditGrade;" (.ref (w 19))) (S_C : Sta Z Z.heap "com/example/stackwright/stackwright/CreditGrade" "C" "Lcom/example/stackwright/stackwright/CreditGrade;" (.ref (w 20))) (S_D : Sta Z Z.heap "com/example/stackwright/stackwright/CreditGrade" "D" "Lcom/example/stackwright/stackwright/CreditGrade;" (.ref (w 21))) (hE : ∀ i, i < 22 → Exa Z Z.heap (w i) "com/example/stackwright/stackwright/CreditGrade") (hF : ∀ i, i < 22 → Fld Z Z.heap (w i) "java/lang/Enum" "ordinal" "I" (.int i.toInt32)) (Mr : OwnMir Z "com/example/stackwright/stackwright/CreditGrade" mr) :
    MetFree l x (head1 (Jvm.Cond.code x code maxLocals ret :: ws) room_1) (fun a U => a = #[(.int p0), (.int p1)] ∧ Z.Warmed39 U.vm ∧ U.heap = h0) (fun _ _ _ _ _ => True) (fun _ U o U' => ∃ v L, o = .returned v ∧ Q0 Z p0 p1 w mr h0 n0 v U'.heap L ∧ FrameEnd U o U' L room_1.cells room_1.slots) := by
  refine MetFree.of_bodySF (plainFor_of_name own_pn_com_example_stackwright_stackwright_CreditGradeIsWorseThanPinLaw) hisR ?_
  intro p e s m args below meth c s₁ Bd hml0 hP hK
  obtain ⟨rfl, hZ, hh⟩ := hP
  have hx := Bd.exec
  have hby := Bd.bytes
  have hml : c.maxLocals = 6 := hml0
  have hown : s.vm.findClass "com/example/stackwright/stackwright/CreditGradeIsWorseThanPinLaw" = some m.cls := findClass_of_methodNamed Bd.named
  have hnm := (name_of_methodNamed Bd.named Bd.method).1
  have X0 : Stand p l e room_1 s m #[(.int p0), (.int p1)] below meth c s₁ [] 0 0 := Stand.of_body Bd
  have e0 : s₁.heap = h0 := by rw [← hh, Bd.state]; rfl
  have N0 := Fr.nil n0
  change Go p.tables e below _ _
  refine own_on (B := s₁.setTop (mkF m 0 #[.val (.int p0), .val (.int p1), .unset, .unset, .unset, .unset] [])) (fun tz kz => castTop (own_ef_0 m p0 p1) kz) ?_
  refine own_on (B := s₁.setTop (mkF m 2 #[.val (.int p0), .val (.int p1), .unset, .unset, .unset, .unset] [(.int (22 : Int32))])) (fun tz kz => ?_) ?_
  · show Steps p.tables e below (s₁.setTop (mkF m 0 #[.val (.int p0), .val (.int p1), .unset, .unset, .unset, .unset] [])) tz
    refine XS.bipush X0.here hx rfl (hb hby at_0) ?_
    exact kz
  obtain ⟨T1, h1, k1, X1, e1, E1, A1, Ov1, st1⟩ := newR X0 hx hZ hown (hw _ (List.mem_of_getElem? (i := 0) rfl)) (hw _ (List.mem_of_getElem? (i := 1) rfl)) e0 (g := (mkF m 2 #[.val (.int p0), .val (.int p1), .unset, .unset, .unset, .unset] [(.int (22 : Int32))])) rfl (hb hby at_2) rfl (by decide) (cap := 22) (by decide) (by decide) (by decide) (by decide)
  obtain ⟨b1, g1⟩ : ∃ z, z = h0.size := ⟨_, rfl⟩
  rw [← g1] at A1 st1
  have g_b1 : n0 ≤ b1 := Nat.le_trans (own_old O0) (Nat.le_of_eq g1.symm)
  have sz_b1 : h0.size ≤ b1 := Nat.le_trans (Keep.refl h0 []).1 (Nat.le_of_eq g1.symm)
  have O2 := O0.ext E1
  have K2 : Keep h0 h1 [] := (Keep.refl h0 []).ext E1
  have V1 : Arv Z h1 b1 k1 (.object "com/example/stackwright/stackwright/CreditGrade") (22 : Int32) [.null, .null, .null, .null, .null, .null, .null, .null, .null, .null, .null, .null, .null, .null, .null, .null, .null, .null, .null, .null, .null, .null] .null := (Arv.new A1 (by decide)).pad (pad_rep [] .null 22)
  refine own_on (B := T1.setTop (mkF m 5 #[.val (.int p0), .val (.int p1), .unset, .unset, .unset, .unset] [(.ref b1)])) (fun tz kz => st1 _ kz) ?_
  refine own_on (B := T1.setTop (mkF m 7 #[.val (.int p0), .val (.int p1), .unset, .unset, .unset, .unset] [(.int (0 : Int32)), (.ref b1), (.ref b1)])) (fun tz kz => ?_) ?_
  · show Steps p.tables e below (T1.setTop (mkF m 5 #[.val (.int p0), .val (.int p1), .unset, .unset, .unset, .unset] [(.ref b1)])) tz
    refine XS.dup X1.here hx rfl (hb hby at_5) rfl rfl ?_
    show Steps p.tables e below (T1.setTop (mkF m 6 #[.val (.int p0), .val (.int p1), .unset, .unset, .unset, .unset] [(.ref b1), (.ref b1)])) tz
    refine XS.iconst X1.here hx rfl (hb hby at_6) ?_
    exact kz
  obtain ⟨T3, X3, e3, st3⟩ := getS2 X1 hx hZ hown (host := "") (Or.inl (hw _ (List.mem_of_getElem? (i := 2) rfl))) Via.refl e1 (S_AAA.ext O2.2) (g := (mkF m 7 #[.val (.int p0), .val (.int p1), .unset, .unset, .unset, .unset] [(.int (0 : Int32)), (.ref b1), (.ref b1)])) rfl (hb hby at_7)
  refine own_on (B := T3.setTop (mkF m 10 #[.val (.int p0), .val (.int p1), .unset, .unset, .unset, .unset] [(.ref (w 0)), (.int (0 : Int32)), (.ref b1), (.ref b1)])) (fun tz kz => st3 _ kz) ?_
  obtain ⟨cl4, Ar4, q4, S4, M4, H4, G4⟩ := id V1
  have hin5 : ¬ ((0 : Int32) < 0 ∨ cl4.slots.size ≤ ((0 : Int32)).toNatClampNeg) := inb_of S4 ⟨by decide, by decide⟩
  obtain ⟨T5, h5, X5, e5, W5, st5⟩ := stR X3 hx hZ e3 Ar4 (j := (0 : Int32)) (v := (.ref (w 0))) hin5 rfl (Sto.ofV Ar4 q4 Ov1 (Ins.self ((hE 0 (by decide)).ext O2.2))) (g := (mkF m 10 #[.val (.int p0), .val (.int p1), .unset, .unset, .unset, .unset] [(.ref (w 0)), (.int (0 : Int32)), (.ref b1), (.ref b1)])) rfl rfl (hb hby at_10)
  have V5 : Arv Z h5 b1 k1 (.object "com/example/stackwright/stackwright/CreditGrade") (22 : Int32) [(.ref (w 0)), .null, .null, .null, .null, .null, .null, .null, .null, .null, .null, .null, .null, .null, .null, .null, .null, .null, .null, .null, .null, .null] .null := Arv.set Ar4 q4 S4 M4 H4 G4 rfl W5 0 rfl (Nat.le_of_ble_eq_true rfl)
  have N5 := Fr.snoc X5 N0 g_b1
  have O6 := O2.wr W5 g_b1
  have K6 : Keep h0 h5 [] := K2.wr W5 (Or.inr sz_b1)
  refine own_on (B := T5.setTop (mkF m 11 #[.val (.int p0), .val (.int p1), .unset, .unset, .unset, .unset] [(.ref b1)])) (fun tz kz => st5 _ kz) ?_
  refine own_on (B := T5.setTop (mkF m 13 #[.val (.int p0), .val (.int p1), .unset, .unset, .unset, .unset] [(.int (1 : Int32)), (.ref b1), (.ref b1)])) (fun tz kz => ?_) ?_
  · show Steps p.tables e below (T5.setTop (mkF m 11 #[.val (.int p0), .val (.int p1), .unset, .unset, .unset, .unset] [(.ref b1)])) tz
    refine XS.dup X5.here hx rfl (hb hby at_11) rfl rfl ?_
    show Steps p.tables e below (T5.setTop (mkF m 12 #[.val (.int p0), .val (.int p1), .unset, .unset, .unset, .unset] [(.ref b1), (.ref b1)])) tz
    refine XS.iconst X5.here hx rfl (hb hby at_12) ?_
    exact kz
  obtain ⟨T7, X7, e7, st7⟩ := getS2 X5 hx hZ hown (host := "") (Or.inl (hw _ (List.mem_of_getElem? (i := 6) rfl))) Via.refl e5 (S_AA_PLUS.ext O6.2) (g := (mkF m 13 #[.val (.int p0), .val (.int p1), .unset, .unset, .unset, .unset] [(.int (1 : Int32)), (.ref b1), (.ref b1)])) rfl (hb hby at_13)
  refine own_on (B := T7.setTop (mkF m 16 #[.val (.int p0), .val (.int p1), .unset, .unset, .unset, .unset] [(.ref (w 1)), (.int (1 : Int32)), (.ref b1), (.ref b1)])) (fun tz kz => st7 _ kz) ?_
  obtain ⟨cl8, Ar8, q8, S8, M8, H8, G8⟩ := id V5
  have hin9 : ¬ ((1 : Int32) < 0 ∨ cl8.slots.size ≤ ((1 : Int32)).toNatClampNeg) := inb_of S8 ⟨by decide, by decide⟩
  obtain ⟨T9, h9, X9, e9, W9, st9⟩ := stR X7 hx hZ e7 Ar8 (j := (1 : Int32)) (v := (.ref (w 1))) hin9 rfl (Sto.ofV Ar8 q8 Ov1 (Ins.self ((hE 1 (by decide)).ext O6.2))) (g := (mkF m 16 #[.val (.int p0), .val (.int p1), .unset, .unset, .unset, .unset] [(.ref (w 1)), (.int (1 : Int32)), (.ref b1), (.ref b1)])) rfl rfl (hb hby at_16)
  have V9 : Arv Z h9 b1 k1 (.object "com/example/stackwright/stackwright/CreditGrade") (22 : Int32) [(.ref (w 0)), (.ref (w 1)), .null, .null, .null, .null, .null, .null, .null, .null, .null, .null, .null, .null, .null, .null, .null, .null, .null, .null, .null, .null] .null := Arv.set Ar8 q8 S8 M8 H8 G8 rfl W9 1 rfl (Nat.le_of_ble_eq_true rfl)
  have N9 := Fr.snoc X9 N5 g_b1
  have O10 := O6.wr W9 g_b1
  have K10 : Keep h0 h9 [] := K6.wr W9 (Or.inr sz_b1)
  refine own_on (B := T9.setTop (mkF m 17 #[.val (.int p0), .val (.int p1), .unset, .unset, .unset, .unset] [(.ref b1)])) (fun tz kz => st9 _ kz) ?_
  refine own_on (B := T9.setTop (mkF m 19 #[.val (.int p0), .val (.int p1), .unset, .unset, .unset, .unset] [(.int (2 : Int32)), (.ref b1), (.ref b1)])) (fun tz kz => ?_) ?_
  · show Steps p.tables e below (T9.setTop (mkF m 17 #[.val (.int p0), .val (.int p1), .unset, .unset, .unset, .unset] [(.ref b1)])) tz
    refine XS.dup X9.here hx rfl (hb hby at_17) rfl rfl ?_
    show Steps p.tables e below (T9.setTop (mkF m 18 #[.val (.int p0), .val (.int p1), .unset, .unset, .unset, .unset] [(.ref b1), (.ref b1)])) tz
    refine XS.iconst X9.here hx rfl (hb hby at_18) ?_
    exact kz
  obtain ⟨T11, X11, e11, st11⟩ := getS2 X9 hx hZ hown (host := "") (Or.inl (hw _ (List.mem_of_getElem? (i := 8) rfl))) Via.refl e9 (S_AA.ext O10.2) (g := (mkF m 19 #[.val (.int p0), .val (.int p1), .unset, .unset, .unset, .unset] [(.int (2 : Int32)), (.ref b1), (.ref b1)])) rfl (hb hby at_19)
  refine own_on (B := T11.setTop (mkF m 22 #[.val (.int p0), .val (.int p1), .unset, .unset, .unset, .unset] [(.ref (w 2)), (.int (2 : Int32)), (.ref b1), (.ref b1)])) (fun tz kz => st11 _ kz) ?_
  obtain ⟨cl12, Ar12, q12, S12, M12, H12, G12⟩ := id V9
  have hin13 : ¬ ((2 : Int32) < 0 ∨ cl12.slots.size ≤ ((2 : Int32)).toNatClampNeg) := inb_of S12 ⟨by decide, by decide⟩
  obtain ⟨T13, h13, X13, e13, W13, st13⟩ := stR X11 hx hZ e11 Ar12 (j := (2 : Int32)) (v := (.ref (w 2))) hin13 rfl (Sto.ofV Ar12 q12 Ov1 (Ins.self ((hE 2 (by decide)).ext O10.2))) (g := (mkF m 22 #[.val (.int p0), .val (.int p1), .unset, .unset, .unset, .unset] [(.ref (w 2)), (.int (2 : Int32)), (.ref b1), (.ref b1)])) rfl rfl (hb hby at_22)
  have V13 : Arv Z h13 b1 k1 (.object "com/example/stackwright/stackwright/CreditGrade") (22 : Int32) [(.ref (w 0)), (.ref (w 1)), (.ref (w 2)), .null, .null, .null, .null, .null, .null, .null, .null, .null, .null, .null, .null, .null, .null, .null, .null, .null, .null, .null] .null := Arv.set Ar12 q12 S12 M12 H12 G12 rfl W13 2 rfl (Nat.le_of_ble_eq_true rfl)
  have N13 := Fr.snoc X13 N9 g_b1
  have O14 := O10.wr W13 g_b1
  have K14 : Keep h0 h13 [] := K10.wr W13 (Or.inr sz_b1)
  refine own_on (B := T13.setTop (mkF m 23 #[.val (.int p0), .val (.int p1), .unset, .unset, .unset, .unset] [(.ref b1)])) (fun tz kz => st13 _ kz) ?_
  refine own_on (B := T13.setTop (mkF m 25 #[.val (.int p0), .val (.int p1), .unset, .unset, .unset, .unset] [(.int (3 : Int32)), (.ref b1), (.ref b1)])) (fun tz kz => ?_) ?_
  · show Steps p.tables e below (T13.setTop (mkF m 23 #[.val (.int p0), .val (.int p1), .unset, .unset, .unset, .unset] [(.ref b1)])) tz
    refine XS.dup X13.here hx rfl (hb hby at_23) rfl rfl ?_
    show Steps p.tables e below (T13.setTop (mkF m 24 #[.val (.int p0), .val (.int p1), .unset, .unset, .unset, .unset] [(.ref b1), (.ref b1)])) tz
    refine XS.iconst X13.here hx rfl (hb hby at_24) ?_
    exact kz
  obtain ⟨T15, X15, e15, st15⟩ := getS2 X13 hx hZ hown (host := "") (Or.inl (hw _ (List.mem_of_getElem? (i := 10) rfl))) Via.refl e13 (S_AA_MINUS.ext O14.2) (g := (mkF m 25 #[.val (.int p0), .val (.int p1), .unset, .unset, .unset, .unset] [(.int (3 : Int32)), (.ref b1), (.ref b1)])) rfl (hb hby at_25)
  refine own_on (B := T15.setTop (mkF m 28 #[.val (.int p0), .val (.int p1), .unset, .unset, .unset, .unset] [(.ref (w 3)), (.int (3 : Int32)), (.ref b1), (.ref b1)])) (fun tz kz => st15 _ kz) ?_
  obtain ⟨cl16, Ar16, q16, S16, M16, H16, G16⟩ := id V13
  have hin17 : ¬ ((3 : Int32) < 0 ∨ cl16.slots.size ≤ ((3 : Int32)).toNatClampNeg) := inb_of S16 ⟨by decide, by decide⟩
  obtain ⟨T17, h17, X17, e17, W17, st17⟩ := stR X15 hx hZ e15 Ar16 (j := (3 : Int32)) (v := (.ref (w 3))) hin17 rfl (Sto.ofV Ar16 q16 Ov1 (Ins.self ((hE 3 (by decide)).ext O14.2))) (g := (mkF m 28 #[.val (.int p0), .val (.int p1), .unset, .unset, .unset, .unset] [(.ref (w 3)), (.int (3 : Int32)), (.ref b1), (.ref b1)])) rfl rfl (hb hby at_28)
  have V17 : Arv Z h17 b1 k1 (.object "com/example/stackwright/stackwright/CreditGrade") (22 : Int32) [(.ref (w 0)), (.ref (w 1)), (.ref (w 2)), (.ref (w 3)), .null, .null, .null, .null, .null, .null, .null, .null, .null, .null, .null, .null, .null, .null, .null, .null, .null, .null] .null := Arv.set Ar16 q16 S16 M16 H16 G16 rfl W17 3 rfl (Nat.le_of_ble_eq_true rfl)
  have N17 := Fr.snoc X17 N13 g_b1
  have O18 := O14.wr W17 g_b1
  have K18 : Keep h0 h17 [] := K14.wr W17 (Or.inr sz_b1)
  refine own_on (B := T17.setTop (mkF m 29 #[.val (.int p0), .val (.int p1), .unset, .unset, .unset, .unset] [(.ref b1)])) (fun tz kz => st17 _ kz) ?_
  refine own_on (B := T17.setTop (mkF m 31 #[.val (.int p0), .val (.int p1), .unset, .unset, .unset, .unset] [(.int (4 : Int32)), (.ref b1), (.ref b1)])) (fun tz kz => ?_) ?_
  · show Steps p.tables e below (T17.setTop (mkF m 29 #[.val (.int p0), .val (.int p1), .unset, .unset, .unset, .unset] [(.ref b1)])) tz
    refine XS.dup X17.here hx rfl (hb hby at_29) rfl rfl ?_
    show Steps p.tables e below (T17.setTop (mkF m 30 #[.val (.int p0), .val (.int p1), .unset, .unset, .unset, .unset] [(.ref b1), (.ref b1)])) tz
    refine XS.iconst X17.here hx rfl (hb hby at_30) ?_
    exact kz
  obtain ⟨T19, X19, e19, st19⟩ := getS2 X17 hx hZ hown (host := "") (Or.inl (hw _ (List.mem_of_getElem? (i := 12) rfl))) Via.refl e17 (S_A_PLUS.ext O18.2) (g := (mkF m 31 #[.val (.int p0), .val (.int p1), .unset, .unset, .unset, .unset] [(.int (4 : Int32)), (.ref b1), (.ref b1)])) rfl (hb hby at_31)
  refine own_on (B := T19.setTop (mkF m 34 #[.val (.int p0), .val (.int p1), .unset, .unset, .unset, .unset] [(.ref (w 4)), (.int (4 : Int32)), (.ref b1), (.ref b1)])) (fun tz kz => st19 _ kz) ?_
  obtain ⟨cl20, Ar20, q20, S20, M20, H20, G20⟩ := id V17
  have hin21 : ¬ ((4 : Int32) < 0 ∨ cl20.slots.size ≤ ((4 : Int32)).toNatClampNeg) := inb_of S20 ⟨by decide, by decide⟩
  obtain ⟨T21, h21, X21, e21, W21, st21⟩ := stR X19 hx hZ e19 Ar20 (j := (4 : Int32)) (v := (.ref (w 4))) hin21 rfl (Sto.ofV Ar20 q20 Ov1 (Ins.self ((hE 4 (by decide)).ext O18.2))) (g := (mkF m 34 #[.val (.int p0), .val (.int p1), .unset, .unset, .unset, .unset] [(.ref (w 4)), (.int (4 : Int32)), (.ref b1), (.ref b1)])) rfl rfl (hb hby at_34)
  have V21 : Arv Z h21 b1 k1 (.object "com/example/stackwright/stackwright/CreditGrade") (22 : Int32) [(.ref (w 0)), (.ref (w 1)), (.ref (w 2)), (.ref (w 3)), (.ref (w 4)), .null, .null, .null, .null, .null, .null, .null, .null, .null, .null, .null, .null, .null, .null, .null, .null, .null] .null := Arv.set Ar20 q20 S20 M20 H20 G20 rfl W21 4 rfl (Nat.le_of_ble_eq_true rfl)
  have N21 := Fr.snoc X21 N17 g_b1
  have O22 := O18.wr W21 g_b1
  have K22 : Keep h0 h21 [] := K18.wr W21 (Or.inr sz_b1)
  refine own_on (B := T21.setTop (mkF m 35 #[.val (.int p0), .val (.int p1), .unset, .unset, .unset, .unset] [(.ref b1)])) (fun tz kz => st21 _ kz) ?_
  refine own_on (B := T21.setTop (mkF m 37 #[.val (.int p0), .val (.int p1), .unset, .unset, .unset, .unset] [(.int (5 : Int32)), (.ref b1), (.ref b1)])) (fun tz kz => ?_) ?_
  · show Steps p.tables e below (T21.setTop (mkF m 35 #[.val (.int p0), .val (.int p1), .unset, .unset, .unset, .unset] [(.ref b1)])) tz
    refine XS.dup X21.here hx rfl (hb hby at_35) rfl rfl ?_
    show Steps p.tables e below (T21.setTop (mkF m 36 #[.val (.int p0), .val (.int p1), .unset, .unset, .unset, .unset] [(.ref b1), (.ref b1)])) tz
    refine XS.iconst X21.here hx rfl (hb hby at_36) ?_
    exact kz
  obtain ⟨T23, X23, e23, st23⟩ := getS2 X21 hx hZ hown (host := "") (Or.inl (hw _ (List.mem_of_getElem? (i := 14) rfl))) Via.refl e21 (S_A.ext O22.2) (g := (mkF m 37 #[.val (.int p0), .val (.int p1), .unset, .unset, .unset, .unset] [(.int (5 : Int32)), (.ref b1), (.ref b1)])) rfl (hb hby at_37)
  refine own_on (B := T23.setTop (mkF m 40 #[.val (.int p0), .val (.int p1), .unset, .unset, .unset, .unset] [(.ref (w 5)), (.int (5 : Int32)), (.ref b1), (.ref b1)])) (fun tz kz => st23 _ kz) ?_
  obtain ⟨cl24, Ar24, q24, S24, M24, H24, G24⟩ := id V21
  have hin25 : ¬ ((5 : Int32) < 0 ∨ cl24.slots.size ≤ ((5 : Int32)).toNatClampNeg) := inb_of S24 ⟨by decide, by decide⟩
  obtain ⟨T25, h25, X25, e25, W25, st25⟩ := stR X23 hx hZ e23 Ar24 (j := (5 : Int32)) (v := (.ref (w 5))) hin25 rfl (Sto.ofV Ar24 q24 Ov1 (Ins.self ((hE 5 (by decide)).ext O22.2))) (g := (mkF m 40 #[.val (.int p0), .val (.int p1), .unset, .unset, .unset, .unset] [(.ref (w 5)), (.int (5 : Int32)), (.ref b1), (.ref b1)])) rfl rfl (hb hby at_40)
  have V25 : Arv Z h25 b1 k1 (.object "com/example/stackwright/stackwright/CreditGrade") (22 : Int32) [(.ref (w 0)), (.ref (w 1)), (.ref (w 2)), (.ref (w 3)), (.ref (w 4)), (.ref (w 5)), .null, .null, .null, .null, .null, .null, .null, .null, .null, .null, .null, .null, .null, .null, .null, .null] .null := Arv.set Ar24 q24 S24 M24 H24 G24 rfl W25 5 rfl (Nat.le_of_ble_eq_true rfl)
  have N25 := Fr.snoc X25 N21 g_b1
  have O26 := O22.wr W25 g_b1
  have K26 : Keep h0 h25 [] := K22.wr W25 (Or.inr sz_b1)
  refine own_on (B := T25.setTop (mkF m 41 #[.val (.int p0), .val (.int p1), .unset, .unset, .unset, .unset] [(.ref b1)])) (fun tz kz => st25 _ kz) ?_
  refine own_on (B := T25.setTop (mkF m 44 #[.val (.int p0), .val (.int p1), .unset, .unset, .unset, .unset] [(.int (6 : Int32)), (.ref b1), (.ref b1)])) (fun tz kz => ?_) ?_
  · show Steps p.tables e below (T25.setTop (mkF m 41 #[.val (.int p0), .val (.int p1), .unset, .unset, .unset, .unset] [(.ref b1)])) tz
    refine XS.dup X25.here hx rfl (hb hby at_41) rfl rfl ?_
    show Steps p.tables e below (T25.setTop (mkF m 42 #[.val (.int p0), .val (.int p1), .unset, .unset, .unset, .unset] [(.ref b1), (.ref b1)])) tz
    refine XS.bipush X25.here hx rfl (hb hby at_42) ?_
    exact kz
  obtain ⟨T27, X27, e27, st27⟩ := getS2 X25 hx hZ hown (host := "") (Or.inl (hw _ (List.mem_of_getElem? (i := 16) rfl))) Via.refl e25 (S_A_MINUS.ext O26.2) (g := (mkF m 44 #[.val (.int p0), .val (.int p1), .unset, .unset, .unset, .unset] [(.int (6 : Int32)), (.ref b1), (.ref b1)])) rfl (hb hby at_44)
  refine own_on (B := T27.setTop (mkF m 47 #[.val (.int p0), .val (.int p1), .unset, .unset, .unset, .unset] [(.ref (w 6)), (.int (6 : Int32)), (.ref b1), (.ref b1)])) (fun tz kz => st27 _ kz) ?_
  obtain ⟨cl28, Ar28, q28, S28, M28, H28, G28⟩ := id V25
  have hin29 : ¬ ((6 : Int32) < 0 ∨ cl28.slots.size ≤ ((6 : Int32)).toNatClampNeg) := inb_of S28 ⟨by decide, by decide⟩
  obtain ⟨T29, h29, X29, e29, W29, st29⟩ := stR X27 hx hZ e27 Ar28 (j := (6 : Int32)) (v := (.ref (w 6))) hin29 rfl (Sto.ofV Ar28 q28 Ov1 (Ins.self ((hE 6 (by decide)).ext O26.2))) (g := (mkF m 47 #[.val (.int p0), .val (.int p1), .unset, .unset, .unset, .unset] [(.ref (w 6)), (.int (6 : Int32)), (.ref b1), (.ref b1)])) rfl rfl (hb hby at_47)
  have V29 : Arv Z h29 b1 k1 (.object "com/example/stackwright/stackwright/CreditGrade") (22 : Int32) [(.ref (w 0)), (.ref (w 1)), (.ref (w 2)), (.ref (w 3)), (.ref (w 4)), (.ref (w 5)), (.ref (w 6)), .null, .null, .null, .null, .null, .null, .null, .null, .null, .null, .null, .null, .null, .null, .null] .null := Arv.set Ar28 q28 S28 M28 H28 G28 rfl W29 6 rfl (Nat.le_of_ble_eq_true rfl)
  have N29 := Fr.snoc X29 N25 g_b1
  have O30 := O26.wr W29 g_b1
  have K30 : Keep h0 h29 [] := K26.wr W29 (Or.inr sz_b1)
  refine own_on (B := T29.setTop (mkF m 48 #[.val (.int p0), .val (.int p1), .unset, .unset, .unset, .unset] [(.ref b1)])) (fun tz kz => st29 _ kz) ?_
  refine own_on (B := T29.setTop (mkF m 51 #[.val (.int p0), .val (.int p1), .unset, .unset, .unset, .unset] [(.int (7 : Int32)), (.ref b1), (.ref b1)])) (fun tz kz => ?_) ?_
  · show Steps p.tables e below (T29.setTop (mkF m 48 #[.val (.int p0), .val (.int p1), .unset, .unset, .unset, .unset] [(.ref b1)])) tz
    refine XS.dup X29.here hx rfl (hb hby at_48) rfl rfl ?_
    show Steps p.tables e below (T29.setTop (mkF m 49 #[.val (.int p0), .val (.int p1), .unset, .unset, .unset, .unset] [(.ref b1), (.ref b1)])) tz
    refine XS.bipush X29.here hx rfl (hb hby at_49) ?_
    exact kz
  obtain ⟨T31, X31, e31, st31⟩ := getS2 X29 hx hZ hown (host := "") (Or.inl (hw _ (List.mem_of_getElem? (i := 18) rfl))) Via.refl e29 (S_BBB_PLUS.ext O30.2) (g := (mkF m 51 #[.val (.int p0), .val (.int p1), .unset, .unset, .unset, .unset] [(.int (7 : Int32)), (.ref b1), (.ref b1)])) rfl (hb hby at_51)
  refine own_on (B := T31.setTop (mkF m 54 #[.val (.int p0), .val (.int p1), .unset, .unset, .unset, .unset] [(.ref (w 7)), (.int (7 : Int32)), (.ref b1), (.ref b1)])) (fun tz kz => st31 _ kz) ?_
  obtain ⟨cl32, Ar32, q32, S32, M32, H32, G32⟩ := id V29
  have hin33 : ¬ ((7 : Int32) < 0 ∨ cl32.slots.size ≤ ((7 : Int32)).toNatClampNeg) := inb_of S32 ⟨by decide, by decide⟩
  obtain ⟨T33, h33, X33, e33, W33, st33⟩ := stR X31 hx hZ e31 Ar32 (j := (7 : Int32)) (v := (.ref (w 7))) hin33 rfl (Sto.ofV Ar32 q32 Ov1 (Ins.self ((hE 7 (by decide)).ext O30.2))) (g := (mkF m 54 #[.val (.int p0), .val (.int p1), .unset, .unset, .unset, .unset] [(.ref (w 7)), (.int (7 : Int32)), (.ref b1), (.ref b1)])) rfl rfl (hb hby at_54)
  have V33 : Arv Z h33 b1 k1 (.object "com/example/stackwright/stackwright/CreditGrade") (22 : Int32) [(.ref (w 0)), (.ref (w 1)), (.ref (w 2)), (.ref (w 3)), (.ref (w 4)), (.ref (w 5)), (.ref (w 6)), (.ref (w 7)), .null, .null, .null, .null, .null, .null, .null, .null, .null, .null, .null, .null, .null, .null] .null := Arv.set Ar32 q32 S32 M32 H32 G32 rfl W33 7 rfl (Nat.le_of_ble_eq_true rfl)
  have N33 := Fr.snoc X33 N29 g_b1
  have O34 := O30.wr W33 g_b1
  have K34 : Keep h0 h33 [] := K30.wr W33 (Or.inr sz_b1)
  refine own_on (B := T33.setTop (mkF m 55 #[.val (.int p0), .val (.int p1), .unset, .unset, .unset, .unset] [(.ref b1)])) (fun tz kz => st33 _ kz) ?_
  refine own_on (B := T33.setTop (mkF m 58 #[.val (.int p0), .val (.int p1), .unset, .unset, .unset, .unset] [(.int (8 : Int32)), (.ref b1), (.ref b1)])) (fun tz kz => ?_) ?_
  · show Steps p.tables e below (T33.setTop (mkF m 55 #[.val (.int p0), .val (.int p1), .unset, .unset, .unset, .unset] [(.ref b1)])) tz
    refine XS.dup X33.here hx rfl (hb hby at_55) rfl rfl ?_
    show Steps p.tables e below (T33.setTop (mkF m 56 #[.val (.int p0), .val (.int p1), .unset, .unset, .unset, .unset] [(.ref b1), (.ref b1)])) tz
    refine XS.bipush X33.here hx rfl (hb hby at_56) ?_
    exact kz
  obtain ⟨T35, X35, e35, st35⟩ := getS2 X33 hx hZ hown (host := "") (Or.inl (hw _ (List.mem_of_getElem? (i := 20) rfl))) Via.refl e33 (S_BBB.ext O34.2) (g := (mkF m 58 #[.val (.int p0), .val (.int p1), .unset, .unset, .unset, .unset] [(.int (8 : Int32)), (.ref b1), (.ref b1)])) rfl (hb hby at_58)
  refine own_on (B := T35.setTop (mkF m 61 #[.val (.int p0), .val (.int p1), .unset, .unset, .unset, .unset] [(.ref (w 8)), (.int (8 : Int32)), (.ref b1), (.ref b1)])) (fun tz kz => st35 _ kz) ?_
  obtain ⟨cl36, Ar36, q36, S36, M36, H36, G36⟩ := id V33
  have hin37 : ¬ ((8 : Int32) < 0 ∨ cl36.slots.size ≤ ((8 : Int32)).toNatClampNeg) := inb_of S36 ⟨by decide, by decide⟩
  obtain ⟨T37, h37, X37, e37, W37, st37⟩ := stR X35 hx hZ e35 Ar36 (j := (8 : Int32)) (v := (.ref (w 8))) hin37 rfl (Sto.ofV Ar36 q36 Ov1 (Ins.self ((hE 8 (by decide)).ext O34.2))) (g := (mkF m 61 #[.val (.int p0), .val (.int p1), .unset, .unset, .unset, .unset] [(.ref (w 8)), (.int (8 : Int32)), (.ref b1), (.ref b1)])) rfl rfl (hb hby at_61)
  have V37 : Arv Z h37 b1 k1 (.object "com/example/stackwright/stackwright/CreditGrade") (22 : Int32) [(.ref (w 0)), (.ref (w 1)), (.ref (w 2)), (.ref (w 3)), (.ref (w 4)), (.ref (w 5)), (.ref (w 6)), (.ref (w 7)), (.ref (w 8)), .null, .null, .null, .null, .null, .null, .null, .null, .null, .null, .null, .null, .null] .null := Arv.set Ar36 q36 S36 M36 H36 G36 rfl W37 8 rfl (Nat.le_of_ble_eq_true rfl)
  have N37 := Fr.snoc X37 N33 g_b1
  have O38 := O34.wr W37 g_b1
  have K38 : Keep h0 h37 [] := K34.wr W37 (Or.inr sz_b1)
  refine own_on (B := T37.setTop (mkF m 62 #[.val (.int p0), .val (.int p1), .unset, .unset, .unset, .unset] [(.ref b1)])) (fun tz kz => st37 _ kz) ?_
  refine own_on (B := T37.setTop (mkF m 65 #[.val (.int p0), .val (.int p1), .unset, .unset, .unset, .unset] [(.int (9 : Int32)), (.ref b1), (.ref b1)])) (fun tz kz => ?_) ?_
  · show Steps p.tables e below (T37.setTop (mkF m 62 #[.val (.int p0), .val (.int p1), .unset, .unset, .unset, .unset] [(.ref b1)])) tz
    refine XS.dup X37.here hx rfl (hb hby at_62) rfl rfl ?_
    show Steps p.tables e below (T37.setTop (mkF m 63 #[.val (.int p0), .val (.int p1), .unset, .unset, .unset, .unset] [(.ref b1), (.ref b1)])) tz
    refine XS.bipush X37.here hx rfl (hb hby at_63) ?_
    exact kz
  obtain ⟨T39, X39, e39, st39⟩ := getS2 X37 hx hZ hown (host := "") (Or.inl (hw _ (List.mem_of_getElem? (i := 22) rfl))) Via.refl e37 (S_BBB_MINUS.ext O38.2) (g := (mkF m 65 #[.val (.int p0), .val (.int p1), .unset, .unset, .unset, .unset] [(.int (9 : Int32)), (.ref b1), (.ref b1)])) rfl (hb hby at_65)
  refine own_on (B := T39.setTop (mkF m 68 #[.val (.int p0), .val (.int p1), .unset, .unset, .unset, .unset] [(.ref (w 9)), (.int (9 : Int32)), (.ref b1), (.ref b1)])) (fun tz kz => st39 _ kz) ?_
  obtain ⟨cl40, Ar40, q40, S40, M40, H40, G40⟩ := id V37
  have hin41 : ¬ ((9 : Int32) < 0 ∨ cl40.slots.size ≤ ((9 : Int32)).toNatClampNeg) := inb_of S40 ⟨by decide, by decide⟩
  obtain ⟨T41, h41, X41, e41, W41, st41⟩ := stR X39 hx hZ e39 Ar40 (j := (9 : Int32)) (v := (.ref (w 9))) hin41 rfl (Sto.ofV Ar40 q40 Ov1 (Ins.self ((hE 9 (by decide)).ext O38.2))) (g := (mkF m 68 #[.val (.int p0), .val (.int p1), .unset, .unset, .unset, .unset] [(.ref (w 9)), (.int (9 : Int32)), (.ref b1), (.ref b1)])) rfl rfl (hb hby at_68)
  have V41 : Arv Z h41 b1 k1 (.object "com/example/stackwright/stackwright/CreditGrade") (22 : Int32) [(.ref (w 0)), (.ref (w 1)), (.ref (w 2)), (.ref (w 3)), (.ref (w 4)), (.ref (w 5)), (.ref (w 6)), (.ref (w 7)), (.ref (w 8)), (.ref (w 9)), .null, .null, .null, .null, .null, .null, .null, .null, .null, .null, .null, .null] .null := Arv.set Ar40 q40 S40 M40 H40 G40 rfl W41 9 rfl (Nat.le_of_ble_eq_true rfl)
  have N41 := Fr.snoc X41 N37 g_b1
  have O42 := O38.wr W41 g_b1
  have K42 : Keep h0 h41 [] := K38.wr W41 (Or.inr sz_b1)
  refine own_on (B := T41.setTop (mkF m 69 #[.val (.int p0), .val (.int p1), .unset, .unset, .unset, .unset] [(.ref b1)])) (fun tz kz => st41 _ kz) ?_
  refine own_on (B := T41.setTop (mkF m 72 #[.val (.int p0), .val (.int p1), .unset, .unset, .unset, .unset] [(.int (10 : Int32)), (.ref b1), (.ref b1)])) (fun tz kz => ?_) ?_
  · show Steps p.tables e below (T41.setTop (mkF m 69 #[.val (.int p0), .val (.int p1), .unset, .unset, .unset, .unset] [(.ref b1)])) tz
    refine XS.dup X41.here hx rfl (hb hby at_69) rfl rfl ?_
    show Steps p.tables e below (T41.setTop (mkF m 70 #[.val (.int p0), .val (.int p1), .unset, .unset, .unset, .unset] [(.ref b1), (.ref b1)])) tz
    refine XS.bipush X41.here hx rfl (hb hby at_70) ?_
    exact kz
  obtain ⟨T43, X43, e43, st43⟩ := getS2 X41 hx hZ hown (host := "") (Or.inl (hw _ (List.mem_of_getElem? (i := 24) rfl))) Via.refl e41 (S_BB_PLUS.ext O42.2) (g := (mkF m 72 #[.val (.int p0), .val (.int p1), .unset, .unset, .unset, .unset] [(.int (10 : Int32)), (.ref b1), (.ref b1)])) rfl (hb hby at_72)
  refine own_on (B := T43.setTop (mkF m 75 #[.val (.int p0), .val (.int p1), .unset, .unset, .unset, .unset] [(.ref (w 10)), (.int (10 : Int32)), (.ref b1), (.ref b1)])) (fun tz kz => st43 _ kz) ?_
  obtain ⟨cl44, Ar44, q44, S44, M44, H44, G44⟩ := id V41
  have hin45 : ¬ ((10 : Int32) < 0 ∨ cl44.slots.size ≤ ((10 : Int32)).toNatClampNeg) := inb_of S44 ⟨by decide, by decide⟩
  obtain ⟨T45, h45, X45, e45, W45, st45⟩ := stR X43 hx hZ e43 Ar44 (j := (10 : Int32)) (v := (.ref (w 10))) hin45 rfl (Sto.ofV Ar44 q44 Ov1 (Ins.self ((hE 10 (by decide)).ext O42.2))) (g := (mkF m 75 #[.val (.int p0), .val (.int p1), .unset, .unset, .unset, .unset] [(.ref (w 10)), (.int (10 : Int32)), (.ref b1), (.ref b1)])) rfl rfl (hb hby at_75)
  have V45 : Arv Z h45 b1 k1 (.object "com/example/stackwright/stackwright/CreditGrade") (22 : Int32) [(.ref (w 0)), (.ref (w 1)), (.ref (w 2)), (.ref (w 3)), (.ref (w 4)), (.ref (w 5)), (.ref (w 6)), (.ref (w 7)), (.ref (w 8)), (.ref (w 9)), (.ref (w 10)), .null, .null, .null, .null, .null, .null, .null, .null, .null, .null, .null] .null := Arv.set Ar44 q44 S44 M44 H44 G44 rfl W45 10 rfl (Nat.le_of_ble_eq_true rfl)
  have N45 := Fr.snoc X45 N41 g_b1
  have O46 := O42.wr W45 g_b1
  have K46 : Keep h0 h45 [] := K42.wr W45 (Or.inr sz_b1)
  refine own_on (B := T45.setTop (mkF m 76 #[.val (.int p0), .val (.int p1), .unset, .unset, .unset, .unset] [(.ref b1)])) (fun tz kz => st45 _ kz) ?_
  refine own_on (B := T45.setTop (mkF m 79 #[.val (.int p0), .val (.int p1), .unset, .unset, .unset, .unset] [(.int (11 : Int32)), (.ref b1), (.ref b1)])) (fun tz kz => ?_) ?_
  · show Steps p.tables e below (T45.setTop (mkF m 76 #[.val (.int p0), .val (.int p1), .unset, .unset, .unset, .unset] [(.ref b1)])) tz
    refine XS.dup X45.here hx rfl (hb hby at_76) rfl rfl ?_
    show Steps p.tables e below (T45.setTop (mkF m 77 #[.val (.int p0), .val (.int p1), .unset, .unset, .unset, .unset] [(.ref b1), (.ref b1)])) tz
    refine XS.bipush X45.here hx rfl (hb hby at_77) ?_
    exact kz
  obtain ⟨T47, X47, e47, st47⟩ := getS2 X45 hx hZ hown (host := "") (Or.inl (hw _ (List.mem_of_getElem? (i := 26) rfl))) Via.refl e45 (S_BB.ext O46.2) (g := (mkF m 79 #[.val (.int p0), .val (.int p1), .unset, .unset, .unset, .unset] [(.int (11 : Int32)), (.ref b1), (.ref b1)])) rfl (hb hby at_79)
  refine own_on (B := T47.setTop (mkF m 82 #[.val (.int p0), .val (.int p1), .unset, .unset, .unset, .unset] [(.ref (w 11)), (.int (11 : Int32)), (.ref b1), (.ref b1)])) (fun tz kz => st47 _ kz) ?_
  obtain ⟨cl48, Ar48, q48, S48, M48, H48, G48⟩ := id V45
  have hin49 : ¬ ((11 : Int32) < 0 ∨ cl48.slots.size ≤ ((11 : Int32)).toNatClampNeg) := inb_of S48 ⟨by decide, by decide⟩
  obtain ⟨T49, h49, X49, e49, W49, st49⟩ := stR X47 hx hZ e47 Ar48 (j := (11 : Int32)) (v := (.ref (w 11))) hin49 rfl (Sto.ofV Ar48 q48 Ov1 (Ins.self ((hE 11 (by decide)).ext O46.2))) (g := (mkF m 82 #[.val (.int p0), .val (.int p1), .unset, .unset, .unset, .unset] [(.ref (w 11)), (.int (11 : Int32)), (.ref b1), (.ref b1)])) rfl rfl (hb hby at_82)
  have V49 : Arv Z h49 b1 k1 (.object "com/example/stackwright/stackwright/CreditGrade") (22 : Int32) [(.ref (w 0)), (.ref (w 1)), (.ref (w 2)), (.ref (w 3)), (.ref (w 4)), (.ref (w 5)), (.ref (w 6)), (.ref (w 7)), (.ref (w 8)), (.ref (w 9)), (.ref (w 10)), (.ref (w 11)), .null, .null, .null, .null, .null, .null, .null, .null, .null, .null] .null := Arv.set Ar48 q48 S48 M48 H48 G48 rfl W49 11 rfl (Nat.le_of_ble_eq_true rfl)
  have N49 := Fr.snoc X49 N45 g_b1
  have O50 := O46.wr W49 g_b1
  have K50 : Keep h0 h49 [] := K46.wr W49 (Or.inr sz_b1)
  refine own_on (B := T49.setTop (mkF m 83 #[.val (.int p0), .val (.int p1), .unset, .unset, .unset, .unset] [(.ref b1)])) (fun tz kz => st49 _ kz) ?_
  refine own_on (B := T49.setTop (mkF m 86 #[.val (.int p0), .val (.int p1), .unset, .unset, .unset, .unset] [(.int (12 : Int32)), (.ref b1), (.ref b1)])) (fun tz kz => ?_) ?_
  · show Steps p.tables e below (T49.setTop (mkF m 83 #[.val (.int p0), .val (.int p1), .unset, .unset, .unset, .unset] [(.ref b1)])) tz
    refine XS.dup X49.here hx rfl (hb hby at_83) rfl rfl ?_
    show Steps p.tables e below (T49.setTop (mkF m 84 #[.val (.int p0), .val (.int p1), .unset, .unset, .unset, .unset] [(.ref b1), (.ref b1)])) tz
    refine XS.bipush X49.here hx rfl (hb hby at_84) ?_
    exact kz
  obtain ⟨T51, X51, e51, st51⟩ := getS2 X49 hx hZ hown (host := "") (Or.inl (hw _ (List.mem_of_getElem? (i := 28) rfl))) Via.refl e49 (S_BB_MINUS.ext O50.2) (g := (mkF m 86 #[.val (.int p0), .val (.int p1), .unset, .unset, .unset, .unset] [(.int (12 : Int32)), (.ref b1), (.ref b1)])) rfl (hb hby at_86)
  refine own_on (B := T51.setTop (mkF m 89 #[.val (.int p0), .val (.int p1), .unset, .unset, .unset, .unset] [(.ref (w 12)), (.int (12 : Int32)), (.ref b1), (.ref b1)])) (fun tz kz => st51 _ kz) ?_
  obtain ⟨cl52, Ar52, q52, S52, M52, H52, G52⟩ := id V49
  have hin53 : ¬ ((12 : Int32) < 0 ∨ cl52.slots.size ≤ ((12 : Int32)).toNatClampNeg) := inb_of S52 ⟨by decide, by decide⟩
  obtain ⟨T53, h53, X53, e53, W53, st53⟩ := stR X51 hx hZ e51 Ar52 (j := (12 : Int32)) (v := (.ref (w 12))) hin53 rfl (Sto.ofV Ar52 q52 Ov1 (Ins.self ((hE 12 (by decide)).ext O50.2))) (g := (mkF m 89 #[.val (.int p0), .val (.int p1), .unset, .unset, .unset, .unset] [(.ref (w 12)), (.int (12 : Int32)), (.ref b1), (.ref b1)])) rfl rfl (hb hby at_89)
  have V53 : Arv Z h53 b1 k1 (.object "com/example/stackwright/stackwright/CreditGrade") (22 : Int32) [(.ref (w 0)), (.ref (w 1)), (.ref (w 2)), (.ref (w 3)), (.ref (w 4)), (.ref (w 5)), (.ref (w 6)), (.ref (w 7)), (.ref (w 8)), (.ref (w 9)), (.ref (w 10)), (.ref (w 11)), (.ref (w 12)), .null, .null, .null, .null, .null, .null, .null, .null, .null] .null := Arv.set Ar52 q52 S52 M52 H52 G52 rfl W53 12 rfl (Nat.le_of_ble_eq_true rfl)
  have N53 := Fr.snoc X53 N49 g_b1
  have O54 := O50.wr W53 g_b1
  have K54 : Keep h0 h53 [] := K50.wr W53 (Or.inr sz_b1)
  refine own_on (B := T53.setTop (mkF m 90 #[.val (.int p0), .val (.int p1), .unset, .unset, .unset, .unset] [(.ref b1)])) (fun tz kz => st53 _ kz) ?_
  refine own_on (B := T53.setTop (mkF m 93 #[.val (.int p0), .val (.int p1), .unset, .unset, .unset, .unset] [(.int (13 : Int32)), (.ref b1), (.ref b1)])) (fun tz kz => ?_) ?_
  · show Steps p.tables e below (T53.setTop (mkF m 90 #[.val (.int p0), .val (.int p1), .unset, .unset, .unset, .unset] [(.ref b1)])) tz
    refine XS.dup X53.here hx rfl (hb hby at_90) rfl rfl ?_
    show Steps p.tables e below (T53.setTop (mkF m 91 #[.val (.int p0), .val (.int p1), .unset, .unset, .unset, .unset] [(.ref b1), (.ref b1)])) tz
    refine XS.bipush X53.here hx rfl (hb hby at_91) ?_
    exact kz
  obtain ⟨T55, X55, e55, st55⟩ := getS2 X53 hx hZ hown (host := "") (Or.inl (hw _ (List.mem_of_getElem? (i := 30) rfl))) Via.refl e53 (S_B_PLUS.ext O54.2) (g := (mkF m 93 #[.val (.int p0), .val (.int p1), .unset, .unset, .unset, .unset] [(.int (13 : Int32)), (.ref b1), (.ref b1)])) rfl (hb hby at_93)
  refine own_on (B := T55.setTop (mkF m 96 #[.val (.int p0), .val (.int p1), .unset, .unset, .unset, .unset] [(.ref (w 13)), (.int (13 : Int32)), (.ref b1), (.ref b1)])) (fun tz kz => st55 _ kz) ?_
  obtain ⟨cl56, Ar56, q56, S56, M56, H56, G56⟩ := id V53
  have hin57 : ¬ ((13 : Int32) < 0 ∨ cl56.slots.size ≤ ((13 : Int32)).toNatClampNeg) := inb_of S56 ⟨by decide, by decide⟩
  obtain ⟨T57, h57, X57, e57, W57, st57⟩ := stR X55 hx hZ e55 Ar56 (j := (13 : Int32)) (v := (.ref (w 13))) hin57 rfl (Sto.ofV Ar56 q56 Ov1 (Ins.self ((hE 13 (by decide)).ext O54.2))) (g := (mkF m 96 #[.val (.int p0), .val (.int p1), .unset, .unset, .unset, .unset] [(.ref (w 13)), (.int (13 : Int32)), (.ref b1), (.ref b1)])) rfl rfl (hb hby at_96)
  have V57 : Arv Z h57 b1 k1 (.object "com/example/stackwright/stackwright/CreditGrade") (22 : Int32) [(.ref (w 0)), (.ref (w 1)), (.ref (w 2)), (.ref (w 3)), (.ref (w 4)), (.ref (w 5)), (.ref (w 6)), (.ref (w 7)), (.ref (w 8)), (.ref (w 9)), (.ref (w 10)), (.ref (w 11)), (.ref (w 12)), (.ref (w 13)), .null, .null, .null, .null, .null, .null, .null, .null] .null := Arv.set Ar56 q56 S56 M56 H56 G56 rfl W57 13 rfl (Nat.le_of_ble_eq_true rfl)
  have N57 := Fr.snoc X57 N53 g_b1
  have O58 := O54.wr W57 g_b1
  have K58 : Keep h0 h57 [] := K54.wr W57 (Or.inr sz_b1)
  refine own_on (B := T57.setTop (mkF m 97 #[.val (.int p0), .val (.int p1), .unset, .unset, .unset, .unset] [(.ref b1)])) (fun tz kz => st57 _ kz) ?_
  refine own_on (B := T57.setTop (mkF m 100 #[.val (.int p0), .val (.int p1), .unset, .unset, .unset, .unset] [(.int (14 : Int32)), (.ref b1), (.ref b1)])) (fun tz kz => ?_) ?_
  · show Steps p.tables e below (T57.setTop (mkF m 97 #[.val (.int p0), .val (.int p1), .unset, .unset, .unset, .unset] [(.ref b1)])) tz
    refine XS.dup X57.here hx rfl (hb hby at_97) rfl rfl ?_
    show Steps p.tables e below (T57.setTop (mkF m 98 #[.val (.int p0), .val (.int p1), .unset, .unset, .unset, .unset] [(.ref b1), (.ref b1)])) tz
    refine XS.bipush X57.here hx rfl (hb hby at_98) ?_
    exact kz
  obtain ⟨T59, X59, e59, st59⟩ := getS2 X57 hx hZ hown (host := "") (Or.inl (hw _ (List.mem_of_getElem? (i := 32) rfl))) Via.refl e57 (S_B.ext O58.2) (g := (mkF m 100 #[.val (.int p0), .val (.int p1), .unset, .unset, .unset, .unset] [(.int (14 : Int32)), (.ref b1), (.ref b1)])) rfl (hb hby at_100)
  refine own_on (B := T59.setTop (mkF m 103 #[.val (.int p0), .val (.int p1), .unset, .unset, .unset, .unset] [(.ref (w 14)), (.int (14 : Int32)), (.ref b1), (.ref b1)])) (fun tz kz => st59 _ kz) ?_
  obtain ⟨cl60, Ar60, q60, S60, M60, H60, G60⟩ := id V57
  have hin61 : ¬ ((14 : Int32) < 0 ∨ cl60.slots.size ≤ ((14 : Int32)).toNatClampNeg) := inb_of S60 ⟨by decide, by decide⟩
  obtain ⟨T61, h61, X61, e61, W61, st61⟩ := stR X59 hx hZ e59 Ar60 (j := (14 : Int32)) (v := (.ref (w 14))) hin61 rfl (Sto.ofV Ar60 q60 Ov1 (Ins.self ((hE 14 (by decide)).ext O58.2))) (g := (mkF m 103 #[.val (.int p0), .val (.int p1), .unset, .unset, .unset, .unset] [(.ref (w 14)), (.int (14 : Int32)), (.ref b1), (.ref b1)])) rfl rfl (hb hby at_103)
  have V61 : Arv Z h61 b1 k1 (.object "com/example/stackwright/stackwright/CreditGrade") (22 : Int32) [(.ref (w 0)), (.ref (w 1)), (.ref (w 2)), (.ref (w 3)), (.ref (w 4)), (.ref (w 5)), (.ref (w 6)), (.ref (w 7)), (.ref (w 8)), (.ref (w 9)), (.ref (w 10)), (.ref (w 11)), (.ref (w 12)), (.ref (w 13)), (.ref (w 14)), .null, .null, .null, .null, .null, .null, .null] .null := Arv.set Ar60 q60 S60 M60 H60 G60 rfl W61 14 rfl (Nat.le_of_ble_eq_true rfl)
  have N61 := Fr.snoc X61 N57 g_b1
  have O62 := O58.wr W61 g_b1
  have K62 : Keep h0 h61 [] := K58.wr W61 (Or.inr sz_b1)
  refine own_on (B := T61.setTop (mkF m 104 #[.val (.int p0), .val (.int p1), .unset, .unset, .unset, .unset] [(.ref b1)])) (fun tz kz => st61 _ kz) ?_
  refine own_on (B := T61.setTop (mkF m 107 #[.val (.int p0), .val (.int p1), .unset, .unset, .unset, .unset] [(.int (15 : Int32)), (.ref b1), (.ref b1)])) (fun tz kz => ?_) ?_
  · show Steps p.tables e below (T61.setTop (mkF m 104 #[.val (.int p0), .val (.int p1), .unset, .unset, .unset, .unset] [(.ref b1)])) tz
    refine XS.dup X61.here hx rfl (hb hby at_104) rfl rfl ?_
    show Steps p.tables e below (T61.setTop (mkF m 105 #[.val (.int p0), .val (.int p1), .unset, .unset, .unset, .unset] [(.ref b1), (.ref b1)])) tz
    refine XS.bipush X61.here hx rfl (hb hby at_105) ?_
    exact kz
  obtain ⟨T63, X63, e63, st63⟩ := getS2 X61 hx hZ hown (host := "") (Or.inl (hw _ (List.mem_of_getElem? (i := 34) rfl))) Via.refl e61 (S_B_MINUS.ext O62.2) (g := (mkF m 107 #[.val (.int p0), .val (.int p1), .unset, .unset, .unset, .unset] [(.int (15 : Int32)), (.ref b1), (.ref b1)])) rfl (hb hby at_107)
  refine own_on (B := T63.setTop (mkF m 110 #[.val (.int p0), .val (.int p1), .unset, .unset, .unset, .unset] [(.ref (w 15)), (.int (15 : Int32)), (.ref b1), (.ref b1)])) (fun tz kz => st63 _ kz) ?_
  obtain ⟨cl64, Ar64, q64, S64, M64, H64, G64⟩ := id V61
  have hin65 : ¬ ((15 : Int32) < 0 ∨ cl64.slots.size ≤ ((15 : Int32)).toNatClampNeg) := inb_of S64 ⟨by decide, by decide⟩
  obtain ⟨T65, h65, X65, e65, W65, st65⟩ := stR X63 hx hZ e63 Ar64 (j := (15 : Int32)) (v := (.ref (w 15))) hin65 rfl (Sto.ofV Ar64 q64 Ov1 (Ins.self ((hE 15 (by decide)).ext O62.2))) (g := (mkF m 110 #[.val (.int p0), .val (.int p1), .unset, .unset, .unset, .unset] [(.ref (w 15)), (.int (15 : Int32)), (.ref b1), (.ref b1)])) rfl rfl (hb hby at_110)
  have V65 : Arv Z h65 b1 k1 (.object "com/example/stackwright/stackwright/CreditGrade") (22 : Int32) [(.ref (w 0)), (.ref (w 1)), (.ref (w 2)), (.ref (w 3)), (.ref (w 4)), (.ref (w 5)), (.ref (w 6)), (.ref (w 7)), (.ref (w 8)), (.ref (w 9)), (.ref (w 10)), (.ref (w 11)), (.ref (w 12)), (.ref (w 13)), (.ref (w 14)), (.ref (w 15)), .null, .null, .null, .null, .null, .null] .null := Arv.set Ar64 q64 S64 M64 H64 G64 rfl W65 15 rfl (Nat.le_of_ble_eq_true rfl)
  have N65 := Fr.snoc X65 N61 g_b1
  have O66 := O62.wr W65 g_b1
  have K66 : Keep h0 h65 [] := K62.wr W65 (Or.inr sz_b1)
  refine own_on (B := T65.setTop (mkF m 111 #[.val (.int p0), .val (.int p1), .unset, .unset, .unset, .unset] [(.ref b1)])) (fun tz kz => st65 _ kz) ?_
  refine own_on (B := T65.setTop (mkF m 114 #[.val (.int p0), .val (.int p1), .unset, .unset, .unset, .unset] [(.int (16 : Int32)), (.ref b1), (.ref b1)])) (fun tz kz => ?_) ?_
  · show Steps p.tables e below (T65.setTop (mkF m 111 #[.val (.int p0), .val (.int p1), .unset, .unset, .unset, .unset] [(.ref b1)])) tz
    refine XS.dup X65.here hx rfl (hb hby at_111) rfl rfl ?_
    show Steps p.tables e below (T65.setTop (mkF m 112 #[.val (.int p0), .val (.int p1), .unset, .unset, .unset, .unset] [(.ref b1), (.ref b1)])) tz
    refine XS.bipush X65.here hx rfl (hb hby at_112) ?_
    exact kz
  obtain ⟨T67, X67, e67, st67⟩ := getS2 X65 hx hZ hown (host := "") (Or.inl (hw _ (List.mem_of_getElem? (i := 36) rfl))) Via.refl e65 (S_CCC_PLUS.ext O66.2) (g := (mkF m 114 #[.val (.int p0), .val (.int p1), .unset, .unset, .unset, .unset] [(.int (16 : Int32)), (.ref b1), (.ref b1)])) rfl (hb hby at_114)
  refine own_on (B := T67.setTop (mkF m 117 #[.val (.int p0), .val (.int p1), .unset, .unset, .unset, .unset] [(.ref (w 16)), (.int (16 : Int32)), (.ref b1), (.ref b1)])) (fun tz kz => st67 _ kz) ?_
  obtain ⟨cl68, Ar68, q68, S68, M68, H68, G68⟩ := id V65
  have hin69 : ¬ ((16 : Int32) < 0 ∨ cl68.slots.size ≤ ((16 : Int32)).toNatClampNeg) := inb_of S68 ⟨by decide, by decide⟩
  obtain ⟨T69, h69, X69, e69, W69, st69⟩ := stR X67 hx hZ e67 Ar68 (j := (16 : Int32)) (v := (.ref (w 16))) hin69 rfl (Sto.ofV Ar68 q68 Ov1 (Ins.self ((hE 16 (by decide)).ext O66.2))) (g := (mkF m 117 #[.val (.int p0), .val (.int p1), .unset, .unset, .unset, .unset] [(.ref (w 16)), (.int (16 : Int32)), (.ref b1), (.ref b1)])) rfl rfl (hb hby at_117)
  have V69 : Arv Z h69 b1 k1 (.object "com/example/stackwright/stackwright/CreditGrade") (22 : Int32) [(.ref (w 0)), (.ref (w 1)), (.ref (w 2)), (.ref (w 3)), (.ref (w 4)), (.ref (w 5)), (.ref (w 6)), (.ref (w 7)), (.ref (w 8)), (.ref (w 9)), (.ref (w 10)), (.ref (w 11)), (.ref (w 12)), (.ref (w 13)), (.ref (w 14)), (.ref (w 15)), (.ref (w 16)), .null, .null, .null, .null, .null] .null := Arv.set Ar68 q68 S68 M68 H68 G68 rfl W69 16 rfl (Nat.le_of_ble_eq_true rfl)
  have N69 := Fr.snoc X69 N65 g_b1
  have O70 := O66.wr W69 g_b1
  have K70 : Keep h0 h69 [] := K66.wr W69 (Or.inr sz_b1)
  refine own_on (B := T69.setTop (mkF m 118 #[.val (.int p0), .val (.int p1), .unset, .unset, .unset, .unset] [(.ref b1)])) (fun tz kz => st69 _ kz) ?_
  refine own_on (B := T69.setTop (mkF m 121 #[.val (.int p0), .val (.int p1), .unset, .unset, .unset, .unset] [(.int (17 : Int32)), (.ref b1), (.ref b1)])) (fun tz kz => ?_) ?_
  · show Steps p.tables e below (T69.setTop (mkF m 118 #[.val (.int p0), .val (.int p1), .unset, .unset, .unset, .unset] [(.ref b1)])) tz
    refine XS.dup X69.here hx rfl (hb hby at_118) rfl rfl ?_
    show Steps p.tables e below (T69.setTop (mkF m 119 #[.val (.int p0), .val (.int p1), .unset, .unset, .unset, .unset] [(.ref b1), (.ref b1)])) tz
    refine XS.bipush X69.here hx rfl (hb hby at_119) ?_
    exact kz
  obtain ⟨T71, X71, e71, st71⟩ := getS2 X69 hx hZ hown (host := "") (Or.inl (hw _ (List.mem_of_getElem? (i := 38) rfl))) Via.refl e69 (S_CCC.ext O70.2) (g := (mkF m 121 #[.val (.int p0), .val (.int p1), .unset, .unset, .unset, .unset] [(.int (17 : Int32)), (.ref b1), (.ref b1)])) rfl (hb hby at_121)
  refine own_on (B := T71.setTop (mkF m 124 #[.val (.int p0), .val (.int p1), .unset, .unset, .unset, .unset] [(.ref (w 17)), (.int (17 : Int32)), (.ref b1), (.ref b1)])) (fun tz kz => st71 _ kz) ?_
  obtain ⟨cl72, Ar72, q72, S72, M72, H72, G72⟩ := id V69
  have hin73 : ¬ ((17 : Int32) < 0 ∨ cl72.slots.size ≤ ((17 : Int32)).toNatClampNeg) := inb_of S72 ⟨by decide, by decide⟩
  obtain ⟨T73, h73, X73, e73, W73, st73⟩ := stR X71 hx hZ e71 Ar72 (j := (17 : Int32)) (v := (.ref (w 17))) hin73 rfl (Sto.ofV Ar72 q72 Ov1 (Ins.self ((hE 17 (by decide)).ext O70.2))) (g := (mkF m 124 #[.val (.int p0), .val (.int p1), .unset, .unset, .unset, .unset] [(.ref (w 17)), (.int (17 : Int32)), (.ref b1), (.ref b1)])) rfl rfl (hb hby at_124)
  have V73 : Arv Z h73 b1 k1 (.object "com/example/stackwright/stackwright/CreditGrade") (22 : Int32) [(.ref (w 0)), (.ref (w 1)), (.ref (w 2)), (.ref (w 3)), (.ref (w 4)), (.ref (w 5)), (.ref (w 6)), (.ref (w 7)), (.ref (w 8)), (.ref (w 9)), (.ref (w 10)), (.ref (w 11)), (.ref (w 12)), (.ref (w 13)), (.ref (w 14)), (.ref (w 15)), (.ref (w 16)), (.ref (w 17)), .null, .null, .null, .null] .null := Arv.set Ar72 q72 S72 M72 H72 G72 rfl W73 17 rfl (Nat.le_of_ble_eq_true rfl)
  have N73 := Fr.snoc X73 N69 g_b1
  have O74 := O70.wr W73 g_b1
  have K74 : Keep h0 h73 [] := K70.wr W73 (Or.inr sz_b1)
  refine own_on (B := T73.setTop (mkF m 125 #[.val (.int p0), .val (.int p1), .unset, .unset, .unset, .unset] [(.ref b1)])) (fun tz kz => st73 _ kz) ?_
  refine own_on (B := T73.setTop (mkF m 128 #[.val (.int p0), .val (.int p1), .unset, .unset, .unset, .unset] [(.int (18 : Int32)), (.ref b1), (.ref b1)])) (fun tz kz => ?_) ?_
  · show Steps p.tables e below (T73.setTop (mkF m 125 #[.val (.int p0), .val (.int p1), .unset, .unset, .unset, .unset] [(.ref b1)])) tz
    refine XS.dup X73.here hx rfl (hb hby at_125) rfl rfl ?_
    show Steps p.tables e below (T73.setTop (mkF m 126 #[.val (.int p0), .val (.int p1), .unset, .unset, .unset, .unset] [(.ref b1), (.ref b1)])) tz
    refine XS.bipush X73.here hx rfl (hb hby at_126) ?_
    exact kz
  obtain ⟨T75, X75, e75, st75⟩ := getS2 X73 hx hZ hown (host := "") (Or.inl (hw _ (List.mem_of_getElem? (i := 40) rfl))) Via.refl e73 (S_CCC_MINUS.ext O74.2) (g := (mkF m 128 #[.val (.int p0), .val (.int p1), .unset, .unset, .unset, .unset] [(.int (18 : Int32)), (.ref b1), (.ref b1)])) rfl (hb hby at_128)
  refine own_on (B := T75.setTop (mkF m 131 #[.val (.int p0), .val (.int p1), .unset, .unset, .unset, .unset] [(.ref (w 18)), (.int (18 : Int32)), (.ref b1), (.ref b1)])) (fun tz kz => st75 _ kz) ?_
  obtain ⟨cl76, Ar76, q76, S76, M76, H76, G76⟩ := id V73
  have hin77 : ¬ ((18 : Int32) < 0 ∨ cl76.slots.size ≤ ((18 : Int32)).toNatClampNeg) := inb_of S76 ⟨by decide, by decide⟩
  obtain ⟨T77, h77, X77, e77, W77, st77⟩ := stR X75 hx hZ e75 Ar76 (j := (18 : Int32)) (v := (.ref (w 18))) hin77 rfl (Sto.ofV Ar76 q76 Ov1 (Ins.self ((hE 18 (by decide)).ext O74.2))) (g := (mkF m 131 #[.val (.int p0), .val (.int p1), .unset, .unset, .unset, .unset] [(.ref (w 18)), (.int (18 : Int32)), (.ref b1), (.ref b1)])) rfl rfl (hb hby at_131)
  have V77 : Arv Z h77 b1 k1 (.object "com/example/stackwright/stackwright/CreditGrade") (22 : Int32) [(.ref (w 0)), (.ref (w 1)), (.ref (w 2)), (.ref (w 3)), (.ref (w 4)), (.ref (w 5)), (.ref (w 6)), (.ref (w 7)), (.ref (w 8)), (.ref (w 9)), (.ref (w 10)), (.ref (w 11)), (.ref (w 12)), (.ref (w 13)), (.ref (w 14)), (.ref (w 15)), (.ref (w 16)), (.ref (w 17)), (.ref (w 18)), .null, .null, .null] .null := Arv.set Ar76 q76 S76 M76 H76 G76 rfl W77 18 rfl (Nat.le_of_ble_eq_true rfl)
  have N77 := Fr.snoc X77 N73 g_b1
  have O78 := O74.wr W77 g_b1
  have K78 : Keep h0 h77 [] := K74.wr W77 (Or.inr sz_b1)
  refine own_on (B := T77.setTop (mkF m 132 #[.val (.int p0), .val (.int p1), .unset, .unset, .unset, .unset] [(.ref b1)])) (fun tz kz => st77 _ kz) ?_
  refine own_on (B := T77.setTop (mkF m 135 #[.val (.int p0), .val (.int p1), .unset, .unset, .unset, .unset] [(.int (19 : Int32)), (.ref b1), (.ref b1)])) (fun tz kz => ?_) ?_
  · show Steps p.tables e below (T77.setTop (mkF m 132 #[.val (.int p0), .val (.int p1), .unset, .unset, .unset, .unset] [(.ref b1)])) tz
    refine XS.dup X77.here hx rfl (hb hby at_132) rfl rfl ?_
    show Steps p.tables e below (T77.setTop (mkF m 133 #[.val (.int p0), .val (.int p1), .unset, .unset, .unset, .unset] [(.ref b1), (.ref b1)])) tz
    refine XS.bipush X77.here hx rfl (hb hby at_133) ?_
    exact kz
  obtain ⟨T79, X79, e79, st79⟩ := getS2 X77 hx hZ hown (host := "") (Or.inl (hw _ (List.mem_of_getElem? (i := 42) rfl))) Via.refl e77 (S_CC.ext O78.2) (g := (mkF m 135 #[.val (.int p0), .val (.int p1), .unset, .unset, .unset, .unset] [(.int (19 : Int32)), (.ref b1), (.ref b1)])) rfl (hb hby at_135)
  refine own_on (B := T79.setTop (mkF m 138 #[.val (.int p0), .val (.int p1), .unset, .unset, .unset, .unset] [(.ref (w 19)), (.int (19 : Int32)), (.ref b1), (.ref b1)])) (fun tz kz => st79 _ kz) ?_
  obtain ⟨cl80, Ar80, q80, S80, M80, H80, G80⟩ := id V77
  have hin81 : ¬ ((19 : Int32) < 0 ∨ cl80.slots.size ≤ ((19 : Int32)).toNatClampNeg) := inb_of S80 ⟨by decide, by decide⟩
  obtain ⟨T81, h81, X81, e81, W81, st81⟩ := stR X79 hx hZ e79 Ar80 (j := (19 : Int32)) (v := (.ref (w 19))) hin81 rfl (Sto.ofV Ar80 q80 Ov1 (Ins.self ((hE 19 (by decide)).ext O78.2))) (g := (mkF m 138 #[.val (.int p0), .val (.int p1), .unset, .unset, .unset, .unset] [(.ref (w 19)), (.int (19 : Int32)), (.ref b1), (.ref b1)])) rfl rfl (hb hby at_138)
  have V81 : Arv Z h81 b1 k1 (.object "com/example/stackwright/stackwright/CreditGrade") (22 : Int32) [(.ref (w 0)), (.ref (w 1)), (.ref (w 2)), (.ref (w 3)), (.ref (w 4)), (.ref (w 5)), (.ref (w 6)), (.ref (w 7)), (.ref (w 8)), (.ref (w 9)), (.ref (w 10)), (.ref (w 11)), (.ref (w 12)), (.ref (w 13)), (.ref (w 14)), (.ref (w 15)), (.ref (w 16)), (.ref (w 17)), (.ref (w 18)), (.ref (w 19)), .null, .null] .null := Arv.set Ar80 q80 S80 M80 H80 G80 rfl W81 19 rfl (Nat.le_of_ble_eq_true rfl)
  have N81 := Fr.snoc X81 N77 g_b1
  have O82 := O78.wr W81 g_b1
  have K82 : Keep h0 h81 [] := K78.wr W81 (Or.inr sz_b1)
  refine own_on (B := T81.setTop (mkF m 139 #[.val (.int p0), .val (.int p1), .unset, .unset, .unset, .unset] [(.ref b1)])) (fun tz kz => st81 _ kz) ?_
  refine own_on (B := T81.setTop (mkF m 142 #[.val (.int p0), .val (.int p1), .unset, .unset, .unset, .unset] [(.int (20 : Int32)), (.ref b1), (.ref b1)])) (fun tz kz => ?_) ?_
  · show Steps p.tables e below (T81.setTop (mkF m 139 #[.val (.int p0), .val (.int p1), .unset, .unset, .unset, .unset] [(.ref b1)])) tz
    refine XS.dup X81.here hx rfl (hb hby at_139) rfl rfl ?_
    show Steps p.tables e below (T81.setTop (mkF m 140 #[.val (.int p0), .val (.int p1), .unset, .unset, .unset, .unset] [(.ref b1), (.ref b1)])) tz
    refine XS.bipush X81.here hx rfl (hb hby at_140) ?_
    exact kz
  obtain ⟨T83, X83, e83, st83⟩ := getS2 X81 hx hZ hown (host := "") (Or.inl (hw _ (List.mem_of_getElem? (i := 44) rfl))) Via.refl e81 (S_C.ext O82.2) (g := (mkF m 142 #[.val (.int p0), .val (.int p1), .unset, .unset, .unset, .unset] [(.int (20 : Int32)), (.ref b1), (.ref b1)])) rfl (hb hby at_142)
  refine own_on (B := T83.setTop (mkF m 145 #[.val (.int p0), .val (.int p1), .unset, .unset, .unset, .unset] [(.ref (w 20)), (.int (20 : Int32)), (.ref b1), (.ref b1)])) (fun tz kz => st83 _ kz) ?_
  obtain ⟨cl84, Ar84, q84, S84, M84, H84, G84⟩ := id V81
  have hin85 : ¬ ((20 : Int32) < 0 ∨ cl84.slots.size ≤ ((20 : Int32)).toNatClampNeg) := inb_of S84 ⟨by decide, by decide⟩
  obtain ⟨T85, h85, X85, e85, W85, st85⟩ := stR X83 hx hZ e83 Ar84 (j := (20 : Int32)) (v := (.ref (w 20))) hin85 rfl (Sto.ofV Ar84 q84 Ov1 (Ins.self ((hE 20 (by decide)).ext O82.2))) (g := (mkF m 145 #[.val (.int p0), .val (.int p1), .unset, .unset, .unset, .unset] [(.ref (w 20)), (.int (20 : Int32)), (.ref b1), (.ref b1)])) rfl rfl (hb hby at_145)
  have V85 : Arv Z h85 b1 k1 (.object "com/example/stackwright/stackwright/CreditGrade") (22 : Int32) [(.ref (w 0)), (.ref (w 1)), (.ref (w 2)), (.ref (w 3)), (.ref (w 4)), (.ref (w 5)), (.ref (w 6)), (.ref (w 7)), (.ref (w 8)), (.ref (w 9)), (.ref (w 10)), (.ref (w 11)), (.ref (w 12)), (.ref (w 13)), (.ref (w 14)), (.ref (w 15)), (.ref (w 16)), (.ref (w 17)), (.ref (w 18)), (.ref (w 19)), (.ref (w 20)), .null] .null := Arv.set Ar84 q84 S84 M84 H84 G84 rfl W85 20 rfl (Nat.le_of_ble_eq_true rfl)
  have N85 := Fr.snoc X85 N81 g_b1
  have O86 := O82.wr W85 g_b1
  have K86 : Keep h0 h85 [] := K82.wr W85 (Or.inr sz_b1)
  refine own_on (B := T85.setTop (mkF m 146 #[.val (.int p0), .val (.int p1), .unset, .unset, .unset, .unset] [(.ref b1)])) (fun tz kz => st85 _ kz) ?_
  refine own_on (B := T85.setTop (mkF m 149 #[.val (.int p0), .val (.int p1), .unset, .unset, .unset, .unset] [(.int (21 : Int32)), (.ref b1), (.ref b1)])) (fun tz kz => ?_) ?_
  · show Steps p.tables e below (T85.setTop (mkF m 146 #[.val (.int p0), .val (.int p1), .unset, .unset, .unset, .unset] [(.ref b1)])) tz
    refine XS.dup X85.here hx rfl (hb hby at_146) rfl rfl ?_
    show Steps p.tables e below (T85.setTop (mkF m 147 #[.val (.int p0), .val (.int p1), .unset, .unset, .unset, .unset] [(.ref b1), (.ref b1)])) tz
    refine XS.bipush X85.here hx rfl (hb hby at_147) ?_
    exact kz
  obtain ⟨T87, X87, e87, st87⟩ := getS2 X85 hx hZ hown (host := "") (Or.inl (hw _ (List.mem_of_getElem? (i := 46) rfl))) Via.refl e85 (S_D.ext O86.2) (g := (mkF m 149 #[.val (.int p0), .val (.int p1), .unset, .unset, .unset, .unset] [(.int (21 : Int32)), (.ref b1), (.ref b1)])) rfl (hb hby at_149)
  refine own_on (B := T87.setTop (mkF m 152 #[.val (.int p0), .val (.int p1), .unset, .unset, .unset, .unset] [(.ref (w 21)), (.int (21 : Int32)), (.ref b1), (.ref b1)])) (fun tz kz => st87 _ kz) ?_
  obtain ⟨cl88, Ar88, q88, S88, M88, H88, G88⟩ := id V85
  have hin89 : ¬ ((21 : Int32) < 0 ∨ cl88.slots.size ≤ ((21 : Int32)).toNatClampNeg) := inb_of S88 ⟨by decide, by decide⟩
  obtain ⟨T89, h89, X89, e89, W89, st89⟩ := stR X87 hx hZ e87 Ar88 (j := (21 : Int32)) (v := (.ref (w 21))) hin89 rfl (Sto.ofV Ar88 q88 Ov1 (Ins.self ((hE 21 (by decide)).ext O86.2))) (g := (mkF m 152 #[.val (.int p0), .val (.int p1), .unset, .unset, .unset, .unset] [(.ref (w 21)), (.int (21 : Int32)), (.ref b1), (.ref b1)])) rfl rfl (hb hby at_152)
  have V89 : Arv Z h89 b1 k1 (.object "com/example/stackwright/stackwright/CreditGrade") (22 : Int32) [(.ref (w 0)), (.ref (w 1)), (.ref (w 2)), (.ref (w 3)), (.ref (w 4)), (.ref (w 5)), (.ref (w 6)), (.ref (w 7)), (.ref (w 8)), (.ref (w 9)), (.ref (w 10)), (.ref (w 11)), (.ref (w 12)), (.ref (w 13)), (.ref (w 14)), (.ref (w 15)), (.ref (w 16)), (.ref (w 17)), (.ref (w 18)), (.ref (w 19)), (.ref (w 20)), (.ref (w 21))] .null := Arv.set Ar88 q88 S88 M88 H88 G88 rfl W89 21 rfl (Nat.le_of_ble_eq_true rfl)
  have N89 := Fr.snoc X89 N85 g_b1
  have O90 := O86.wr W89 g_b1
  have K90 : Keep h0 h89 [] := K86.wr W89 (Or.inr sz_b1)
  refine own_on (B := T89.setTop (mkF m 153 #[.val (.int p0), .val (.int p1), .unset, .unset, .unset, .unset] [(.ref b1)])) (fun tz kz => st89 _ kz) ?_
  refine own_on (B := T89.setTop (mkF m 171 #[.val (.int p0), .val (.int p1), .val (.ref b1), .val (.int ((p0 &&& (2147483647 : Int32)) % (22 : Int32))), .val (.int ((p1 &&& (2147483647 : Int32)) % (22 : Int32))), .unset] [])) (fun tz kz => ?_) ?_
  · show Steps p.tables e below (T89.setTop (mkF m 153 #[.val (.int p0), .val (.int p1), .unset, .unset, .unset, .unset] [(.ref b1)])) tz
    refine XS.astoreN X89.here hx rfl (hb hby at_153) rfl rfl (l' := #[.val (.int p0), .val (.int p1), .val (.ref b1), .unset, .unset, .unset]) rfl ?_
    show Steps p.tables e below (T89.setTop (mkF m 154 #[.val (.int p0), .val (.int p1), .val (.ref b1), .unset, .unset, .unset] [])) tz
    refine XS.iloadN X89.here hx rfl (hb hby at_154) rfl ?_
    show Steps p.tables e below (T89.setTop (mkF m 155 #[.val (.int p0), .val (.int p1), .val (.ref b1), .unset, .unset, .unset] [(.int p0)])) tz
    refine X89.ldcInt hx hown (mvT hZ (hw _ (List.mem_of_getElem? (i := 48) rfl))) (g := (mkF m 155 #[.val (.int p0), .val (.int p1), .val (.ref b1), .unset, .unset, .unset] [(.int p0)])) rfl (hb hby at_155) _ ?_
    show Steps p.tables e below (T89.setTop (mkF m 157 #[.val (.int p0), .val (.int p1), .val (.ref b1), .unset, .unset, .unset] [(.int (2147483647 : Int32)), (.int p0)])) tz
    refine XS.iand X89.here hx rfl (hb hby at_157) rfl ?_
    show Steps p.tables e below (T89.setTop (mkF m 158 #[.val (.int p0), .val (.int p1), .val (.ref b1), .unset, .unset, .unset] [(.int (p0 &&& (2147483647 : Int32)))])) tz
    refine XS.bipush X89.here hx rfl (hb hby at_158) ?_
    show Steps p.tables e below (T89.setTop (mkF m 160 #[.val (.int p0), .val (.int p1), .val (.ref b1), .unset, .unset, .unset] [(.int (22 : Int32)), (.int (p0 &&& (2147483647 : Int32)))])) tz
    refine iremM (g := (mkF m 160 #[.val (.int p0), .val (.int p1), .val (.ref b1), .unset, .unset, .unset] [(.int (22 : Int32)), (.int (p0 &&& (2147483647 : Int32)))])) X89 hx rfl (hb hby at_160) rfl (by decide) ?_
    show Steps p.tables e below (T89.setTop (mkF m 161 #[.val (.int p0), .val (.int p1), .val (.ref b1), .unset, .unset, .unset] [(.int ((p0 &&& (2147483647 : Int32)) % (22 : Int32)))])) tz
    refine XS.istoreN X89.here hx rfl (hb hby at_161) rfl (l' := #[.val (.int p0), .val (.int p1), .val (.ref b1), .val (.int ((p0 &&& (2147483647 : Int32)) % (22 : Int32))), .unset, .unset]) rfl ?_
    show Steps p.tables e below (T89.setTop (mkF m 162 #[.val (.int p0), .val (.int p1), .val (.ref b1), .val (.int ((p0 &&& (2147483647 : Int32)) % (22 : Int32))), .unset, .unset] [])) tz
    refine XS.iloadN X89.here hx rfl (hb hby at_162) rfl ?_
    show Steps p.tables e below (T89.setTop (mkF m 163 #[.val (.int p0), .val (.int p1), .val (.ref b1), .val (.int ((p0 &&& (2147483647 : Int32)) % (22 : Int32))), .unset, .unset] [(.int p1)])) tz
    refine X89.ldcInt hx hown (mvT hZ (hw _ (List.mem_of_getElem? (i := 48) rfl))) (g := (mkF m 163 #[.val (.int p0), .val (.int p1), .val (.ref b1), .val (.int ((p0 &&& (2147483647 : Int32)) % (22 : Int32))), .unset, .unset] [(.int p1)])) rfl (hb hby at_163) _ ?_
    show Steps p.tables e below (T89.setTop (mkF m 165 #[.val (.int p0), .val (.int p1), .val (.ref b1), .val (.int ((p0 &&& (2147483647 : Int32)) % (22 : Int32))), .unset, .unset] [(.int (2147483647 : Int32)), (.int p1)])) tz
    refine XS.iand X89.here hx rfl (hb hby at_165) rfl ?_
    show Steps p.tables e below (T89.setTop (mkF m 166 #[.val (.int p0), .val (.int p1), .val (.ref b1), .val (.int ((p0 &&& (2147483647 : Int32)) % (22 : Int32))), .unset, .unset] [(.int (p1 &&& (2147483647 : Int32)))])) tz
    refine XS.bipush X89.here hx rfl (hb hby at_166) ?_
    show Steps p.tables e below (T89.setTop (mkF m 168 #[.val (.int p0), .val (.int p1), .val (.ref b1), .val (.int ((p0 &&& (2147483647 : Int32)) % (22 : Int32))), .unset, .unset] [(.int (22 : Int32)), (.int (p1 &&& (2147483647 : Int32)))])) tz
    refine iremM (g := (mkF m 168 #[.val (.int p0), .val (.int p1), .val (.ref b1), .val (.int ((p0 &&& (2147483647 : Int32)) % (22 : Int32))), .unset, .unset] [(.int (22 : Int32)), (.int (p1 &&& (2147483647 : Int32)))])) X89 hx rfl (hb hby at_168) rfl (by decide) ?_
    show Steps p.tables e below (T89.setTop (mkF m 169 #[.val (.int p0), .val (.int p1), .val (.ref b1), .val (.int ((p0 &&& (2147483647 : Int32)) % (22 : Int32))), .unset, .unset] [(.int ((p1 &&& (2147483647 : Int32)) % (22 : Int32)))])) tz
    refine XS.istore X89.here hx rfl (hb hby at_169) rfl (l' := #[.val (.int p0), .val (.int p1), .val (.ref b1), .val (.int ((p0 &&& (2147483647 : Int32)) % (22 : Int32))), .val (.int ((p1 &&& (2147483647 : Int32)) % (22 : Int32))), .unset]) rfl ?_
    exact kz
  generalize hv_i : ((p0 &&& (2147483647 : Int32)) % (22 : Int32)) = i
  generalize hv_j : ((p1 &&& (2147483647 : Int32)) % (22 : Int32)) = j
  obtain ⟨hi0, hi1, hi2⟩ := own_idx _ _ hv_i
  obtain ⟨hj0, hj1, hj2⟩ := own_idx _ _ hv_j
  have Fi : Fld Z Z.heap (w i.toNatClampNeg) "java/lang/Enum" "ordinal" "I" (.int i) := by have q := hF _ hi2; rw [(back32 hi0).1] at q; exact q
  have Fj : Fld Z Z.heap (w j.toNatClampNeg) "java/lang/Enum" "ordinal" "I" (.int j) := by have q := hF _ hj2; rw [(back32 hj0).1] at q; exact q
  refine own_on (B := T89.setTop (mkF m 174 #[.val (.int p0), .val (.int p1), .val (.ref b1), .val (.int i), .val (.int j), .unset] [(.int j), (.int i)])) (fun tz kz => ?_) ?_
  · show Steps p.tables e below (T89.setTop (mkF m 171 #[.val (.int p0), .val (.int p1), .val (.ref b1), .val (.int i), .val (.int j), .unset] [])) tz
    refine XS.iloadN X89.here hx rfl (hb hby at_171) rfl ?_
    show Steps p.tables e below (T89.setTop (mkF m 172 #[.val (.int p0), .val (.int p1), .val (.ref b1), .val (.int i), .val (.int j), .unset] [(.int i)])) tz
    refine XS.iload X89.here hx rfl (hb hby at_172) rfl ?_
    exact kz
  obtain ⟨mv92, hmv92⟩ : ∃ z, z = (if j < i then (1 : Int32) else (0 : Int32)) := ⟨_, rfl⟩
  refine own_on (B := T89.setTop (mkF m 182 #[.val (.int p0), .val (.int p1), .val (.ref b1), .val (.int i), .val (.int j), .unset] [(.int mv92)])) (fun tz kz => ?_) ?_
  · show Steps p.tables e below (T89.setTop (mkF m 174 #[.val (.int p0), .val (.int p1), .val (.ref b1), .val (.int i), .val (.int j), .unset] [(.int j), (.int i)])) tz
    by_cases hm91 : j < i
    · refine XS.icmpNo X89.here hx rfl (hb hby at_174) rfl (tlt hm91).2.2.2 ?_
      show Steps p.tables e below (T89.setTop (mkF m 177 #[.val (.int p0), .val (.int p1), .val (.ref b1), .val (.int i), .val (.int j), .unset] [])) tz
      refine XS.iconst X89.here hx rfl (hb hby at_177) ?_
      show Steps p.tables e below (T89.setTop (mkF m 178 #[.val (.int p0), .val (.int p1), .val (.ref b1), .val (.int i), .val (.int j), .unset] [(.int (1 : Int32))])) tz
      refine XS.goto X89.here hx rfl (pc0 := 178) (pc' := 182) rfl (hb hby at_178) (by decide) (by decide) ?_
      show Steps p.tables e below (T89.setTop (mkF m 182 #[.val (.int p0), .val (.int p1), .val (.ref b1), .val (.int i), .val (.int j), .unset] [(.int (1 : Int32))])) tz
      rw [if_pos hm91] at hmv92
      rw [hmv92] at kz
      exact kz
    · refine XS.icmpYes X89.here hx rfl (pc0 := 174) (pc' := 181) rfl (hb hby at_174) rfl (flt hm91).2.2.2 (by decide) (by decide) ?_
      show Steps p.tables e below (T89.setTop (mkF m 181 #[.val (.int p0), .val (.int p1), .val (.ref b1), .val (.int i), .val (.int j), .unset] [])) tz
      refine XS.iconst X89.here hx rfl (hb hby at_181) ?_
      show Steps p.tables e below (T89.setTop (mkF m 182 #[.val (.int p0), .val (.int p1), .val (.ref b1), .val (.int i), .val (.int j), .unset] [(.int (0 : Int32))])) tz
      rw [if_neg hm91] at hmv92
      rw [hmv92] at kz
      exact kz
  rw [hmv92]
  refine own_on (B := T89.setTop (mkF m 186 #[.val (.int p0), .val (.int p1), .val (.ref b1), .val (.int i), .val (.int j), .val (.int (if j < i then (1 : Int32) else (0 : Int32)))] [(.int i), (.ref b1)])) (fun tz kz => ?_) ?_
  · show Steps p.tables e below (T89.setTop (mkF m 182 #[.val (.int p0), .val (.int p1), .val (.ref b1), .val (.int i), .val (.int j), .unset] [(.int (if j < i then (1 : Int32) else (0 : Int32)))])) tz
    refine XS.istore X89.here hx rfl (hb hby at_182) rfl (l' := #[.val (.int p0), .val (.int p1), .val (.ref b1), .val (.int i), .val (.int j), .val (.int (if j < i then (1 : Int32) else (0 : Int32)))]) rfl ?_
    show Steps p.tables e below (T89.setTop (mkF m 184 #[.val (.int p0), .val (.int p1), .val (.ref b1), .val (.int i), .val (.int j), .val (.int (if j < i then (1 : Int32) else (0 : Int32)))] [])) tz
    refine XS.aloadN X89.here hx rfl (hb hby at_184) rfl rfl ?_
    show Steps p.tables e below (T89.setTop (mkF m 185 #[.val (.int p0), .val (.int p1), .val (.ref b1), .val (.int i), .val (.int j), .val (.int (if j < i then (1 : Int32) else (0 : Int32)))] [(.ref b1)])) tz
    refine XS.iloadN X89.here hx rfl (hb hby at_185) rfl ?_
    exact kz
  obtain ⟨cl93, Ar93, q93, S93, M93, H93, G93⟩ := id V89
  have hin94 : ¬ (i < 0 ∨ cl93.slots.size ≤ (i).toNatClampNeg) := inb_of S93 ⟨hi0, hi1⟩
  have hat94 : cl93.slots[(i).toNatClampNeg]? = some (.ref (w i.toNatClampNeg)) := Has.at H93 hin94 (own_at w _ hi2)
  refine own_on (B := T89.setTop (mkF m 190 #[.val (.int p0), .val (.int p1), .val (.ref b1), .val (.int i), .val (.int j), .val (.int (if j < i then (1 : Int32) else (0 : Int32)))] [(.int j), (.ref b1), (.ref (w i.toNatClampNeg))])) (fun tz kz => ?_) ?_
  · show Steps p.tables e below (T89.setTop (mkF m 186 #[.val (.int p0), .val (.int p1), .val (.ref b1), .val (.int i), .val (.int j), .val (.int (if j < i then (1 : Int32) else (0 : Int32)))] [(.int i), (.ref b1)])) tz
    refine X89.aaload hx (j := i) (v := (.ref (w i.toNatClampNeg))) (by rw [e89]; exact Ar93.1) (State.isArrayOf_alike hZ.alike Ar93.2.1) rfl Ar93.2.2 hin94 hat94 (g := (mkF m 186 #[.val (.int p0), .val (.int p1), .val (.ref b1), .val (.int i), .val (.int j), .val (.int (if j < i then (1 : Int32) else (0 : Int32)))] [(.int i), (.ref b1)])) rfl rfl (hb hby at_186) _ ?_
    show Steps p.tables e below (T89.setTop (mkF m 187 #[.val (.int p0), .val (.int p1), .val (.ref b1), .val (.int i), .val (.int j), .val (.int (if j < i then (1 : Int32) else (0 : Int32)))] [(.ref (w i.toNatClampNeg))])) tz
    refine XS.aloadN X89.here hx rfl (hb hby at_187) rfl rfl ?_
    show Steps p.tables e below (T89.setTop (mkF m 188 #[.val (.int p0), .val (.int p1), .val (.ref b1), .val (.int i), .val (.int j), .val (.int (if j < i then (1 : Int32) else (0 : Int32)))] [(.ref b1), (.ref (w i.toNatClampNeg))])) tz
    refine XS.iload X89.here hx rfl (hb hby at_188) rfl ?_
    exact kz
  obtain ⟨cl95, Ar95, q95, S95, M95, H95, G95⟩ := id V89
  have hin96 : ¬ (j < 0 ∨ cl95.slots.size ≤ (j).toNatClampNeg) := inb_of S95 ⟨hj0, hj1⟩
  have hat96 : cl95.slots[(j).toNatClampNeg]? = some (.ref (w j.toNatClampNeg)) := Has.at H95 hin96 (own_at w _ hj2)
  refine own_on (B := T89.setTop (mkF m 191 #[.val (.int p0), .val (.int p1), .val (.ref b1), .val (.int i), .val (.int j), .val (.int (if j < i then (1 : Int32) else (0 : Int32)))] [(.ref (w j.toNatClampNeg)), (.ref (w i.toNatClampNeg))])) (fun tz kz => ?_) ?_
  · show Steps p.tables e below (T89.setTop (mkF m 190 #[.val (.int p0), .val (.int p1), .val (.ref b1), .val (.int i), .val (.int j), .val (.int (if j < i then (1 : Int32) else (0 : Int32)))] [(.int j), (.ref b1), (.ref (w i.toNatClampNeg))])) tz
    refine X89.aaload hx (j := j) (v := (.ref (w j.toNatClampNeg))) (by rw [e89]; exact Ar95.1) (State.isArrayOf_alike hZ.alike Ar95.2.1) rfl Ar95.2.2 hin96 hat96 (g := (mkF m 190 #[.val (.int p0), .val (.int p1), .val (.ref b1), .val (.int i), .val (.int j), .val (.int (if j < i then (1 : Int32) else (0 : Int32)))] [(.int j), (.ref b1), (.ref (w i.toNatClampNeg))])) rfl rfl (hb hby at_190) _ ?_
    exact kz
  obtain ⟨cq97, kq97, q97a, q97b, q97c⟩ := isOf hZ e89 ((hE _ hi2).ext O90.2)
  obtain ⟨_, _, ⟨T97, L97, k97, n97⟩, -, X97, ⟨Lc97, hQ97, l97, y97, z97⟩, st97⟩ := X89.virtualBack hx (y := (⟨"com/example/stackwright/stackwright/CreditGrade", "isWorseThan", "(Lcom/example/stackwright/stackwright/CreditGrade;)Z"⟩ : MethodName)) (z := (⟨"com/example/stackwright/stackwright/CreditGrade", "isWorseThan", "(Lcom/example/stackwright/stackwright/CreditGrade;)Z"⟩ : MethodName)) hown (mvT hZ (hw _ (List.mem_of_getElem? (i := 49) rfl))) (mvT hZ (hw _ (List.mem_of_getElem? (i := 50) rfl))) (notFace_of_selects (args := #[]) (mvT hZ (hw _ (List.mem_of_getElem? (i := 52) rfl)))) (mvT hZ (hw _ (List.mem_of_getElem? (i := 52) rfl))) (mvT hZ (hw _ (List.mem_of_getElem? (i := 51) rfl))) (by decide) (backOf (W := 0) (rm1 l Z a0 hw [] (w i.toNatClampNeg) (w j.toNatClampNeg) i j mr h89 n0 O90 (hE _ hi2) (hE _ hj2) Fi Fj Mr) hZ (hw _ (List.mem_of_getElem? (i := 53) rfl)) (hw _ (List.mem_of_getElem? (i := 3) rfl)) (by decide) (by decide)) q97a q97c (g := (mkF m 191 #[.val (.int p0), .val (.int p1), .val (.ref b1), .val (.int i), .val (.int j), .val (.int (if j < i then (1 : Int32) else (0 : Int32)))] [(.ref (w j.toNatClampNeg)), (.ref (w i.toNatClampNeg))])) rfl (by rw [hml]; rfl) (Steps.refl _) (argsL := [(.ref (w j.toNatClampNeg))]) (rest := []) (lenOf own_pd1 rfl) rfl (by show 2 * 0 + _ ≤ _; exact Nat.le_of_eq rfl) (hb hby at_191) (fun _ _ => ⟨rfl, e89, (by decide : 1 + 0 ≤ _), (by decide : 22 + 0 ≤ _)⟩)
  dsimp only [Pt.U, Pt.locs, Pt.cells, Pt.slots] at X97 l97 y97 z97 st97 hQ97
  subst l97 y97 z97
  obtain ⟨rfl, Nq97, e97⟩ := hQ97
  have N97 := Fr.app N89 Nq97
  refine own_on (B := T97.setTop (mkF m 194 #[.val (.int p0), .val (.int p1), .val (.ref b1), .val (.int i), .val (.int j), .val (.int (if j < i then (1 : Int32) else (0 : Int32)))] [(.int (if (0 : Int32) < (i - j) then (1 : Int32) else (0 : Int32)))])) (fun tz kz => st97.trans kz) ?_
  refine own_on (B := T97.setTop (mkF m 204 #[.val (.int p0), .val (.int p1), .val (.ref b1), .val (.int i), .val (.int j), .val (.int (if j < i then (1 : Int32) else (0 : Int32)))] [(.int (1 : Int32))])) (fun tz kz => ?_) ?_
  · show Steps p.tables e below (T97.setTop (mkF m 194 #[.val (.int p0), .val (.int p1), .val (.ref b1), .val (.int i), .val (.int j), .val (.int (if j < i then (1 : Int32) else (0 : Int32)))] [(.int (if (0 : Int32) < (i - j) then (1 : Int32) else (0 : Int32)))])) tz
    refine XS.iload X97.here hx rfl (hb hby at_194) rfl ?_
    show Steps p.tables e below (T97.setTop (mkF m 196 #[.val (.int p0), .val (.int p1), .val (.ref b1), .val (.int i), .val (.int j), .val (.int (if j < i then (1 : Int32) else (0 : Int32)))] [(.int (if j < i then (1 : Int32) else (0 : Int32))), (.int (if (0 : Int32) < (i - j) then (1 : Int32) else (0 : Int32)))])) tz
    refine XS.icmpNo X97.here hx rfl (hb hby at_196) rfl (teq (own_cmp _ _ hi0 hi1 hj0 hj1)).2 ?_
    show Steps p.tables e below (T97.setTop (mkF m 199 #[.val (.int p0), .val (.int p1), .val (.ref b1), .val (.int i), .val (.int j), .val (.int (if j < i then (1 : Int32) else (0 : Int32)))] [])) tz
    refine XS.iconst X97.here hx rfl (hb hby at_199) ?_
    show Steps p.tables e below (T97.setTop (mkF m 200 #[.val (.int p0), .val (.int p1), .val (.ref b1), .val (.int i), .val (.int j), .val (.int (if j < i then (1 : Int32) else (0 : Int32)))] [(.int (1 : Int32))])) tz
    refine XS.goto X97.here hx rfl (pc0 := 200) (pc' := 204) rfl (hb hby at_200) (by decide) (by decide) ?_
    exact kz
  obtain ⟨fs, hr, hrun, hended, hW, hsame⟩ := X97.leave (v := some (.int (1 : Int32))) (fun h => by rw [Bd.returns] at h; cases h)
  refine own_of ⟨_, _, ?_, hrun, hended, _, _, rfl, ?_, ⟨_, rfl⟩, hW, hsame.mono (by decide) (by decide)⟩
  · show Steps p.tables e below (T97.setTop (mkF m 204 #[.val (.int p0), .val (.int p1), .val (.ref b1), .val (.int i), .val (.int j), .val (.int (if j < i then (1 : Int32) else (0 : Int32)))] [(.int (1 : Int32))])) _
    exact own_retN X97 hx (t := .boolean) Bd.returns (by simp) (by first | rfl | (split <;> first | rfl | (split <;> first | rfl | (split <;> rfl)))) (hb hby at_204) hr
  · show Q0 Z p0 p1 w mr h0 n0 _ T97.heap _
    rw [e97]
    exact ⟨rfl, N97⟩
set_option maxRecDepth 65536 in
set_option maxHeartbeats 40000000 in
theorem comes_1 {Post : Tables → Env → Array Value → State → Outcome → State → Prop} (hpost : ∀ tb e args s v u, (limb_1_1.after args s (.returned v) u = true ∧ limb_1_2.after args s (.returned v) u = true ∧ True) → FrameEnd s (.returned v) u (Jvm.fieldLocs frame_1_writes args s ++ Jvm.arrayLocs frame_1_arrays args s ++ Jvm.staticLocs frame_1_statics s) 16 128 → Post tb e args s (.returned v) u) :
    ArmFor flags0 classFile x code maxLocals ret World_1 tables_1 room_1 Calls_1 rest_1 Pre_1 Post := by
  intro l hfl _ _ p e ha hc hk s m args below hf hA hF happ hP
  obtain ⟨hcalls, hrest, hpre⟩ := hP
  obtain ⟨-, -, -, hnamed, -, -, -, hat⟩ := (Spec.applies_iff hf).mp happ
  obtain ⟨hg, hn⟩ := and_e (Cond.before_iff.mp (show (Jvm.Cond.and given_1 narrow_1).before args s = true from hpre))
  obtain ⟨hcnt, hg0⟩ := and_e hg
  obtain ⟨ha0, hg1⟩ := and_e hg0
  have ha1 := hg1
  obtain ⟨w0, w1, rfl⟩ : ∃ w0 w1 : Value, args = #[w0, w1] := by
    have hs : args.size = 2 := by simpa [Cond.value, given_1] using hcnt
    obtain ⟨L⟩ := args
    match L, hs with
    | [w0, w1], _ => exact ⟨w0, w1, rfl⟩
  have hw := fun d (hd : d ∈ tables_1) => atoms_spec (ws := Jvm.Cond.code x code maxLocals ret :: tables_1) hat d (List.mem_cons_of_mem _ hd)
  have hfit : Fit s := fun {y c} hc i hi => by
    obtain ⟨ha, rfl⟩ := Array.getElem?_eq_some_iff.mp hc
    have q := List.all_eq_true.mp ((Array.all_eq_true_iff_forall_mem.mp hF) _ (Array.getElem_mem ha)) i (List.mem_range.mpr hi)
    simpa [Array.getElem?_eq_getElem hi] using q
  obtain ⟨i0, ei0⟩ := is_v ha0
  obtain rfl : w0 = (.int i0) := Option.some.inj ei0
  obtain ⟨i1, ei1⟩ := is_v ha1
  obtain rfl : w1 = (.int i1) := Option.some.inj ei1
  obtain ⟨hn0, hr0⟩ := and_e hn
  obtain ⟨hn1, hr1⟩ := and_e hr0
  obtain ⟨hn2, hr2⟩ := and_e hr1
  obtain ⟨hn3, hr3⟩ := and_e hr2
  obtain ⟨hn4, hr4⟩ := and_e hr3
  obtain ⟨hn5, hr5⟩ := and_e hr4
  obtain ⟨hn6, hr6⟩ := and_e hr5
  obtain ⟨hn7, hr7⟩ := and_e hr6
  obtain ⟨hn8, hr8⟩ := and_e hr7
  obtain ⟨hn9, hr9⟩ := and_e hr8
  obtain ⟨hn10, hr10⟩ := and_e hr9
  obtain ⟨hn11, hr11⟩ := and_e hr10
  obtain ⟨hn12, hr12⟩ := and_e hr11
  obtain ⟨hn13, hr13⟩ := and_e hr12
  obtain ⟨hn14, hr14⟩ := and_e hr13
  obtain ⟨hn15, hr15⟩ := and_e hr14
  obtain ⟨hn16, hr16⟩ := and_e hr15
  obtain ⟨hn17, hr17⟩ := and_e hr16
  obtain ⟨hn18, hr18⟩ := and_e hr17
  obtain ⟨hn19, hr19⟩ := and_e hr18
  obtain ⟨hn20, hr20⟩ := and_e hr19
  obtain ⟨hn21, hr21⟩ := and_e hr20
  obtain ⟨hn22, hr22⟩ := and_e hr21
  obtain ⟨hn23, hr23⟩ := and_e hr22
  obtain ⟨hn24, hr24⟩ := and_e hr23
  obtain ⟨hn25, hr25⟩ := and_e hr24
  obtain ⟨hn26, hr26⟩ := and_e hr25
  obtain ⟨hn27, hr27⟩ := and_e hr26
  obtain ⟨hn28, hr28⟩ := and_e hr27
  obtain ⟨hn29, hr29⟩ := and_e hr28
  obtain ⟨hn30, hr30⟩ := and_e hr29
  obtain ⟨hn31, hr31⟩ := and_e hr30
  obtain ⟨hn32, hr32⟩ := and_e hr31
  obtain ⟨hn33, hr33⟩ := and_e hr32
  obtain ⟨hn34, hr34⟩ := and_e hr33
  obtain ⟨hn35, hr35⟩ := and_e hr34
  obtain ⟨hn36, hr36⟩ := and_e hr35
  obtain ⟨hn37, hr37⟩ := and_e hr36
  obtain ⟨hn38, hr38⟩ := and_e hr37
  obtain ⟨hn39, hr39⟩ := and_e hr38
  obtain ⟨hn40, hr40⟩ := and_e hr39
  obtain ⟨hn41, hr41⟩ := and_e hr40
  obtain ⟨hn42, hr42⟩ := and_e hr41
  obtain ⟨w_AAA, ev_AAA⟩ := exa_v hn0
  have S_AAA := Sta.start ev_AAA (Or.inr ⟨(hw _ (List.mem_of_getElem? (i := 3) rfl)), (hw _ (List.mem_of_getElem? (i := 4) rfl))⟩)
  have E_AAA := Exa.start ev_AAA hn0
  obtain ⟨w_AA_PLUS, ev_AA_PLUS⟩ := exa_v hn1
  have S_AA_PLUS := Sta.start ev_AA_PLUS (Or.inr ⟨(hw _ (List.mem_of_getElem? (i := 3) rfl)), (hw _ (List.mem_of_getElem? (i := 7) rfl))⟩)
  have E_AA_PLUS := Exa.start ev_AA_PLUS hn1
  obtain ⟨w_AA, ev_AA⟩ := exa_v hn2
  have S_AA := Sta.start ev_AA (Or.inr ⟨(hw _ (List.mem_of_getElem? (i := 3) rfl)), (hw _ (List.mem_of_getElem? (i := 9) rfl))⟩)
  have E_AA := Exa.start ev_AA hn2
  obtain ⟨w_AA_MINUS, ev_AA_MINUS⟩ := exa_v hn3
  have S_AA_MINUS := Sta.start ev_AA_MINUS (Or.inr ⟨(hw _ (List.mem_of_getElem? (i := 3) rfl)), (hw _ (List.mem_of_getElem? (i := 11) rfl))⟩)
  have E_AA_MINUS := Exa.start ev_AA_MINUS hn3
  obtain ⟨w_A_PLUS, ev_A_PLUS⟩ := exa_v hn4
  have S_A_PLUS := Sta.start ev_A_PLUS (Or.inr ⟨(hw _ (List.mem_of_getElem? (i := 3) rfl)), (hw _ (List.mem_of_getElem? (i := 13) rfl))⟩)
  have E_A_PLUS := Exa.start ev_A_PLUS hn4
  obtain ⟨w_A, ev_A⟩ := exa_v hn5
  have S_A := Sta.start ev_A (Or.inr ⟨(hw _ (List.mem_of_getElem? (i := 3) rfl)), (hw _ (List.mem_of_getElem? (i := 15) rfl))⟩)
  have E_A := Exa.start ev_A hn5
  obtain ⟨w_A_MINUS, ev_A_MINUS⟩ := exa_v hn6
  have S_A_MINUS := Sta.start ev_A_MINUS (Or.inr ⟨(hw _ (List.mem_of_getElem? (i := 3) rfl)), (hw _ (List.mem_of_getElem? (i := 17) rfl))⟩)
  have E_A_MINUS := Exa.start ev_A_MINUS hn6
  obtain ⟨w_BBB_PLUS, ev_BBB_PLUS⟩ := exa_v hn7
  have S_BBB_PLUS := Sta.start ev_BBB_PLUS (Or.inr ⟨(hw _ (List.mem_of_getElem? (i := 3) rfl)), (hw _ (List.mem_of_getElem? (i := 19) rfl))⟩)
  have E_BBB_PLUS := Exa.start ev_BBB_PLUS hn7
  obtain ⟨w_BBB, ev_BBB⟩ := exa_v hn8
  have S_BBB := Sta.start ev_BBB (Or.inr ⟨(hw _ (List.mem_of_getElem? (i := 3) rfl)), (hw _ (List.mem_of_getElem? (i := 21) rfl))⟩)
  have E_BBB := Exa.start ev_BBB hn8
  obtain ⟨w_BBB_MINUS, ev_BBB_MINUS⟩ := exa_v hn9
  have S_BBB_MINUS := Sta.start ev_BBB_MINUS (Or.inr ⟨(hw _ (List.mem_of_getElem? (i := 3) rfl)), (hw _ (List.mem_of_getElem? (i := 23) rfl))⟩)
  have E_BBB_MINUS := Exa.start ev_BBB_MINUS hn9
  obtain ⟨w_BB_PLUS, ev_BB_PLUS⟩ := exa_v hn10
  have S_BB_PLUS := Sta.start ev_BB_PLUS (Or.inr ⟨(hw _ (List.mem_of_getElem? (i := 3) rfl)), (hw _ (List.mem_of_getElem? (i := 25) rfl))⟩)
  have E_BB_PLUS := Exa.start ev_BB_PLUS hn10
  obtain ⟨w_BB, ev_BB⟩ := exa_v hn11
  have S_BB := Sta.start ev_BB (Or.inr ⟨(hw _ (List.mem_of_getElem? (i := 3) rfl)), (hw _ (List.mem_of_getElem? (i := 27) rfl))⟩)
  have E_BB := Exa.start ev_BB hn11
  obtain ⟨w_BB_MINUS, ev_BB_MINUS⟩ := exa_v hn12
  have S_BB_MINUS := Sta.start ev_BB_MINUS (Or.inr ⟨(hw _ (List.mem_of_getElem? (i := 3) rfl)), (hw _ (List.mem_of_getElem? (i := 29) rfl))⟩)
  have E_BB_MINUS := Exa.start ev_BB_MINUS hn12
  obtain ⟨w_B_PLUS, ev_B_PLUS⟩ := exa_v hn13
  have S_B_PLUS := Sta.start ev_B_PLUS (Or.inr ⟨(hw _ (List.mem_of_getElem? (i := 3) rfl)), (hw _ (List.mem_of_getElem? (i := 31) rfl))⟩)
  have E_B_PLUS := Exa.start ev_B_PLUS hn13
  obtain ⟨w_B, ev_B⟩ := exa_v hn14
  have S_B := Sta.start ev_B (Or.inr ⟨(hw _ (List.mem_of_getElem? (i := 3) rfl)), (hw _ (List.mem_of_getElem? (i := 33) rfl))⟩)
  have E_B := Exa.start ev_B hn14
  obtain ⟨w_B_MINUS, ev_B_MINUS⟩ := exa_v hn15
  have S_B_MINUS := Sta.start ev_B_MINUS (Or.inr ⟨(hw _ (List.mem_of_getElem? (i := 3) rfl)), (hw _ (List.mem_of_getElem? (i := 35) rfl))⟩)
  have E_B_MINUS := Exa.start ev_B_MINUS hn15
  obtain ⟨w_CCC_PLUS, ev_CCC_PLUS⟩ := exa_v hn16
  have S_CCC_PLUS := Sta.start ev_CCC_PLUS (Or.inr ⟨(hw _ (List.mem_of_getElem? (i := 3) rfl)), (hw _ (List.mem_of_getElem? (i := 37) rfl))⟩)
  have E_CCC_PLUS := Exa.start ev_CCC_PLUS hn16
  obtain ⟨w_CCC, ev_CCC⟩ := exa_v hn17
  have S_CCC := Sta.start ev_CCC (Or.inr ⟨(hw _ (List.mem_of_getElem? (i := 3) rfl)), (hw _ (List.mem_of_getElem? (i := 39) rfl))⟩)
  have E_CCC := Exa.start ev_CCC hn17
  obtain ⟨w_CCC_MINUS, ev_CCC_MINUS⟩ := exa_v hn18
  have S_CCC_MINUS := Sta.start ev_CCC_MINUS (Or.inr ⟨(hw _ (List.mem_of_getElem? (i := 3) rfl)), (hw _ (List.mem_of_getElem? (i := 41) rfl))⟩)
  have E_CCC_MINUS := Exa.start ev_CCC_MINUS hn18
  obtain ⟨w_CC, ev_CC⟩ := exa_v hn19
  have S_CC := Sta.start ev_CC (Or.inr ⟨(hw _ (List.mem_of_getElem? (i := 3) rfl)), (hw _ (List.mem_of_getElem? (i := 43) rfl))⟩)
  have E_CC := Exa.start ev_CC hn19
  obtain ⟨w_C, ev_C⟩ := exa_v hn20
  have S_C := Sta.start ev_C (Or.inr ⟨(hw _ (List.mem_of_getElem? (i := 3) rfl)), (hw _ (List.mem_of_getElem? (i := 45) rfl))⟩)
  have E_C := Exa.start ev_C hn20
  obtain ⟨w_D, ev_D⟩ := exa_v hn21
  have S_D := Sta.start ev_D (Or.inr ⟨(hw _ (List.mem_of_getElem? (i := 3) rfl)), (hw _ (List.mem_of_getElem? (i := 47) rfl))⟩)
  have E_D := Exa.start ev_D hn21
  have F_AAA_ordinal := own_fldI ev_AAA hn22
  have F_AA_MINUS_ordinal := own_fldI ev_AA_MINUS hn23
  have F_B_ordinal := own_fldI ev_B hn24
  have F_AA_PLUS_ordinal := own_fldI ev_AA_PLUS hn25
  have F_C_ordinal := own_fldI ev_C hn26
  have F_D_ordinal := own_fldI ev_D hn27
  have F_BB_PLUS_ordinal := own_fldI ev_BB_PLUS hn28
  have F_A_ordinal := own_fldI ev_A hn29
  have F_B_PLUS_ordinal := own_fldI ev_B_PLUS hn30
  have F_A_MINUS_ordinal := own_fldI ev_A_MINUS hn31
  have F_BBB_ordinal := own_fldI ev_BBB hn32
  have F_BB_MINUS_ordinal := own_fldI ev_BB_MINUS hn33
  have F_BBB_MINUS_ordinal := own_fldI ev_BBB_MINUS hn34
  have F_BB_ordinal := own_fldI ev_BB hn35
  have F_CC_ordinal := own_fldI ev_CC hn36
  have F_AA_ordinal := own_fldI ev_AA hn37
  have F_BBB_PLUS_ordinal := own_fldI ev_BBB_PLUS hn38
  have F_CCC_PLUS_ordinal := own_fldI ev_CCC_PLUS hn39
  have F_A_PLUS_ordinal := own_fldI ev_A_PLUS hn40
  have F_B_MINUS_ordinal := own_fldI ev_B_MINUS hn41
  have F_CCC_MINUS_ordinal := own_fldI ev_CCC_MINUS hn42
  have F_CCC_ordinal := own_fldI ev_CCC hr42
  have hE : ∀ i, i < 22 → Exa s s.heap ((fun i => [w_AAA, w_AA_PLUS, w_AA, w_AA_MINUS, w_A_PLUS, w_A, w_A_MINUS, w_BBB_PLUS, w_BBB, w_BBB_MINUS, w_BB_PLUS, w_BB, w_BB_MINUS, w_B_PLUS, w_B, w_B_MINUS, w_CCC_PLUS, w_CCC, w_CCC_MINUS, w_CC, w_C, w_D].getD i 0) i) "com/example/stackwright/stackwright/CreditGrade"
    | 0, _ => E_AAA
    | 1, _ => E_AA_PLUS
    | 2, _ => E_AA
    | 3, _ => E_AA_MINUS
    | 4, _ => E_A_PLUS
    | 5, _ => E_A
    | 6, _ => E_A_MINUS
    | 7, _ => E_BBB_PLUS
    | 8, _ => E_BBB
    | 9, _ => E_BBB_MINUS
    | 10, _ => E_BB_PLUS
    | 11, _ => E_BB
    | 12, _ => E_BB_MINUS
    | 13, _ => E_B_PLUS
    | 14, _ => E_B
    | 15, _ => E_B_MINUS
    | 16, _ => E_CCC_PLUS
    | 17, _ => E_CCC
    | 18, _ => E_CCC_MINUS
    | 19, _ => E_CC
    | 20, _ => E_C
    | 21, _ => E_D
    | n + 22, h => absurd h (by omega)
  have hF : ∀ i, i < 22 → Fld s s.heap ((fun i => [w_AAA, w_AA_PLUS, w_AA, w_AA_MINUS, w_A_PLUS, w_A, w_A_MINUS, w_BBB_PLUS, w_BBB, w_BBB_MINUS, w_BB_PLUS, w_BB, w_BB_MINUS, w_B_PLUS, w_B, w_B_MINUS, w_CCC_PLUS, w_CCC, w_CCC_MINUS, w_CC, w_C, w_D].getD i 0) i) "java/lang/Enum" "ordinal" "I" (.int i.toInt32)
    | 0, _ => F_AAA_ordinal
    | 1, _ => F_AA_PLUS_ordinal
    | 2, _ => F_AA_ordinal
    | 3, _ => F_AA_MINUS_ordinal
    | 4, _ => F_A_PLUS_ordinal
    | 5, _ => F_A_ordinal
    | 6, _ => F_A_MINUS_ordinal
    | 7, _ => F_BBB_PLUS_ordinal
    | 8, _ => F_BBB_ordinal
    | 9, _ => F_BBB_MINUS_ordinal
    | 10, _ => F_BB_PLUS_ordinal
    | 11, _ => F_BB_ordinal
    | 12, _ => F_BB_MINUS_ordinal
    | 13, _ => F_B_PLUS_ordinal
    | 14, _ => F_B_ordinal
    | 15, _ => F_B_MINUS_ordinal
    | 16, _ => F_CCC_PLUS_ordinal
    | 17, _ => F_CCC_ordinal
    | 18, _ => F_CCC_MINUS_ordinal
    | 19, _ => F_CC_ordinal
    | 20, _ => F_C_ordinal
    | 21, _ => F_D_ordinal
    | n + 22, h => absurd h (by omega)
  obtain ⟨⟨mc, mk, mr, m1, m2, m3, -⟩, -⟩ := hcalls
  obtain ⟨n, o, h1, h2, h3, _, L, rfl, ⟨rfl, N⟩, hq⟩ := rm0 l s _ hw tables_1 i0 i1 (fun i => [w_AAA, w_AA_PLUS, w_AA, w_AA_MINUS, w_A_PLUS, w_A, w_A_MINUS, w_BBB_PLUS, w_BBB, w_BBB_MINUS, w_BB_PLUS, w_BB, w_BB_MINUS, w_B_PLUS, w_B, w_B_MINUS, w_CCC_PLUS, w_CCC, w_CCC_MINUS, w_CC, w_C, w_D].getD i 0) mr s.heap s.heap.size (Old.start s) S_AAA S_AA_PLUS S_AA S_AA_MINUS S_A_PLUS S_A S_A_MINUS S_BBB_PLUS S_BBB S_BBB_MINUS S_BB_PLUS S_BB S_BB_MINUS S_B_PLUS S_B S_B_MINUS S_CCC_PLUS S_CCC S_CCC_MINUS S_CC S_C S_D hE hF ⟨mc, mk, m1, m2, m3⟩ p e ha hc hk s m _ below hf ((Spec.applies_iff_loose hf).mp happ).1 ⟨rfl, State.Warmed39.refl s, rfl⟩ trivial
  refine ⟨n, _, h1, h2, h3, hpost _ _ _ _ _ _ ⟨Cond.after_iff.mpr rfl, Cond.after_iff.mpr (eq_i res_at (Term.int_eval (1)) rfl), trivial⟩ ⟨hq.1, hq.2.1, (hq.2.2.sift fun y hy => Or.inr (N y hy)).mono (by decide) (by decide)⟩⟩
theorem main_1_1 : Claimed_1_1 := comes_1 fun _ _ _ _ _ _ h hF => ⟨h.1, hF⟩
theorem main_1_2 : Claimed_1_2 := comes_1 fun _ _ _ _ _ _ h hF => ⟨h.2.1, hF⟩
end Jvm.Pilot.@@N@@
namespace Jvm.Pilot.@@N@@
open Jvm Jvm.ClassFile Sem Op Lib Jvm.Free Jvm.Stand Jvm.Pilot.@@N@@.Jvm.D
/-! MADE BY PROGRAM (witnessworld.py) out of the Statement's table words and the real class files: 13 classes; the members and pool entries that the words name. The judged class is class 1, her method 1. -/
namespace start1
open Jvm.ClassFile
def u (s : String) : CpInfo := .utf8 (stringToUtf16 s)
/-- a pool by its gaps: so many unusable entries, then the entry; so many at the end -/
def gap : Nat → List CpInfo → List CpInfo
  | 0, r => r
  | n + 1, r => .unusable :: gap n r
def poolList (es : List (Nat × CpInfo)) (last : Nat) : List CpInfo := es.foldr (fun e r => gap e.1 (e.2 :: r)) (gap last [])
def pool (es : List (Nat × CpInfo)) (last : Nat) : Array CpInfo := ⟨poolList es last⟩
def fileOf (pool : Array CpInfo) (this : Nat) (attrs : Array Attribute := #[]) (ms : Array MethodInfo := #[]) (fl : Nat := 33) (sup : Nat := 0) (ifs : Array Nat := #[]) (fds : Array FieldInfo := #[]) : ClassFile where
  minorVersion := 0
  majorVersion := 65
  constantPool := pool
  accessFlags := fl
  thisClass := this
  superClass := sup
  interfaces := ifs
  fields := fds
  methods := ms
  attributes := attrs
def plain (name : String) (sup : Option ClassId) : Class where
  name := name
  kind := .ordinary
  loader := none
  accessFlags := 33
  super := sup
  interfaces := #[]
  cf := none
  fields := #[]
  methods := #[]
  instanceTypes := #[]
  staticTypes := #[]
  resolved := #[]
  callSites := []
  init := .initialized
  statics := none
  mirror := none

def pool0 : Array CpInfo := pool [(5, u "<init>"), (0, u "()V"), (1, .class_ 10), (1, u "java/lang/Object"), (0, u "getClass"), (0, u "()Ljava/lang/Class;")] 111

def k0m0 : Method := { name := "<init>", desc := "()V", sig := { parameters := [], returnType := none }, accessFlags := 1, code := none }
def k0m1 : Method := { name := "getClass", desc := "()Ljava/lang/Class;", sig := { parameters := [], returnType := some (.object "java/lang/Class") }, accessFlags := 273, code := none }
/-- java/lang/Object -/
def k0 : Class := { plain "java/lang/Object" none with
  accessFlags := 33
  interfaces := #[]
  cf := some (fileOf pool0 8 #[] #[{ accessFlags := 1, nameIndex := 5, descriptorIndex := 6, attributes := #[] }, { accessFlags := 273, nameIndex := 11, descriptorIndex := 12, attributes := #[] }] 33 0 #[] #[])
  fields := #[]
  methods := #[k0m0, k0m1]
  instanceTypes := #[]
  staticTypes := #[]
  resolved := Array.replicate 124 none
  statics := none }

def pool1 : Array CpInfo := pool [(2, .class_ 4), (1, u "java/lang/Object"), (0, u "<init>"), (0, u "()V"), (0, .class_ 8), (0, u "com/example/stackwright/stackwright/CreditGrade"), (0, .fieldref 7 10), (0, .nameAndType 11 12), (0, u "AAA"), (0, u "Lcom/example/stackwright/stackwright/CreditGrade;"), (0, .fieldref 7 14), (0, .nameAndType 15 12), (0, u "AA_PLUS"), (0, .fieldref 7 17), (0, .nameAndType 18 12), (0, u "AA"), (0, .fieldref 7 20), (0, .nameAndType 21 12), (0, u "AA_MINUS"), (0, .fieldref 7 23), (0, .nameAndType 24 12), (0, u "A_PLUS"), (0, .fieldref 7 26), (0, .nameAndType 27 12), (0, u "A"), (0, .fieldref 7 29), (0, .nameAndType 30 12), (0, u "A_MINUS"), (0, .fieldref 7 32), (0, .nameAndType 33 12), (0, u "BBB_PLUS"), (0, .fieldref 7 35), (0, .nameAndType 36 12), (0, u "BBB"), (0, .fieldref 7 38), (0, .nameAndType 39 12), (0, u "BBB_MINUS"), (0, .fieldref 7 41), (0, .nameAndType 42 12), (0, u "BB_PLUS"), (0, .fieldref 7 44), (0, .nameAndType 45 12), (0, u "BB"), (0, .fieldref 7 47), (0, .nameAndType 48 12), (0, u "BB_MINUS"), (0, .fieldref 7 50), (0, .nameAndType 51 12), (0, u "B_PLUS"), (0, .fieldref 7 53), (0, .nameAndType 54 12), (0, u "B"), (0, .fieldref 7 56), (0, .nameAndType 57 12), (0, u "B_MINUS"), (0, .fieldref 7 59), (0, .nameAndType 60 12), (0, u "CCC_PLUS"), (0, .fieldref 7 62), (0, .nameAndType 63 12), (0, u "CCC"), (0, .fieldref 7 65), (0, .nameAndType 66 12), (0, u "CCC_MINUS"), (0, .fieldref 7 68), (0, .nameAndType 69 12), (0, u "CC"), (0, .fieldref 7 71), (0, .nameAndType 72 12), (0, u "C"), (0, .fieldref 7 74), (0, .nameAndType 75 12), (0, u "D"), (0, .integer 2147483647), (0, .methodref 7 78), (0, .nameAndType 79 80), (0, u "isWorseThan"), (0, u "(Lcom/example/stackwright/stackwright/CreditGrade;)Z"), (0, .class_ 82), (0, u "com/example/stackwright/stackwright/CreditGradeIsWorseThanPinLaw"), (2, u "law"), (0, u "(II)Z")] 5

def k1m0 : Method := { name := "<init>", desc := "()V", sig := { parameters := [], returnType := none }, accessFlags := 2, code := none }
def k1c1 : Code := { maxStack := 4, maxLocals := 6, code := code, exceptionTable := #[], attributes := #[] }
def k1m1 : Method := { name := "law", desc := "(II)Z", sig := { parameters := [.int, .int], returnType := some .boolean }, accessFlags := 9, code := some k1c1 }
/-- com/example/stackwright/stackwright/CreditGradeIsWorseThanPinLaw -/
def k1 : Class := { plain "com/example/stackwright/stackwright/CreditGradeIsWorseThanPinLaw" (some 0) with
  accessFlags := 49
  interfaces := #[]
  cf := some (fileOf pool1 81 #[] #[{ accessFlags := 2, nameIndex := 5, descriptorIndex := 6, attributes := #[] }, { accessFlags := 9, nameIndex := 85, descriptorIndex := 86, attributes := #[] }] 49 2 #[] #[])
  fields := #[]
  methods := #[k1m0, k1m1]
  instanceTypes := #[]
  staticTypes := #[]
  resolved := Array.replicate 92 none
  statics := none }

def pool2 : Array CpInfo := pool [(1, .class_ 2), (0, u "java/lang/constant/Constable"), (0, .class_ 4), (0, u "java/lang/Object")] 6

/-- java/lang/constant/Constable -/
def k2 : Class := { plain "java/lang/constant/Constable" (some 0) with
  accessFlags := 1537
  interfaces := #[]
  cf := some (fileOf pool2 1 #[] #[] 1537 3 #[] #[])
  fields := #[]
  methods := #[]
  instanceTypes := #[]
  staticTypes := #[]
  resolved := Array.replicate 11 none
  statics := none }

def pool3 : Array CpInfo := pool [(1, .class_ 2), (0, u "java/lang/Comparable"), (0, .class_ 4), (0, u "java/lang/Object")] 7

/-- java/lang/Comparable -/
def k3 : Class := { plain "java/lang/Comparable" (some 0) with
  accessFlags := 1537
  interfaces := #[]
  cf := some (fileOf pool3 1 #[] #[] 1537 3 #[] #[])
  fields := #[]
  methods := #[]
  instanceTypes := #[]
  staticTypes := #[]
  resolved := Array.replicate 12 none
  statics := none }

def pool4 : Array CpInfo := pool [(1, .class_ 2), (0, u "java/io/Serializable"), (0, .class_ 4), (0, u "java/lang/Object")] 2

/-- java/io/Serializable -/
def k4 : Class := { plain "java/io/Serializable" (some 0) with
  accessFlags := 1537
  interfaces := #[]
  cf := some (fileOf pool4 1 #[] #[] 1537 3 #[] #[])
  fields := #[]
  methods := #[]
  instanceTypes := #[]
  staticTypes := #[]
  resolved := Array.replicate 7 none
  statics := none }

def pool5 : Array CpInfo := pool [(2, .class_ 4), (1, u "java/lang/Enum"), (0, u "name"), (0, u "Ljava/lang/String;"), (0, .fieldref 2 8), (0, .nameAndType 9 10), (0, u "ordinal"), (0, u "I"), (1, .class_ 14), (1, u "java/lang/Object"), (4, u "hash"), (9, .methodref 12 30), (0, .nameAndType 31 32), (0, u "getClass"), (0, u "()Ljava/lang/Class;"), (70, u "compareTo"), (0, u "(Ljava/lang/Enum;)I"), (1, .class_ 108), (1, u "java/lang/Enum$EnumDesc"), (2, .class_ 112), (0, u "java/lang/constant/Constable"), (0, .class_ 114), (0, u "java/lang/Comparable"), (0, .class_ 116), (0, u "java/io/Serializable")] 87

def k5c0 : Code := { maxStack := 2, maxLocals := 4, code := jdk_37_method_8_code, exceptionTable := #[], attributes := #[] }
def k5m0 : Method := { name := "compareTo", desc := "(Ljava/lang/Enum;)I", sig := { parameters := [(.object "java/lang/Enum")], returnType := some .int }, accessFlags := 17, code := some k5c0 }
/-- java/lang/Enum -/
def k5 : Class := { plain "java/lang/Enum" (some 0) with
  accessFlags := 1057
  interfaces := #[2, 3, 4]
  cf := some (fileOf pool5 2 #[.nestMembers #[106]] #[{ accessFlags := 17, nameIndex := 103, descriptorIndex := 104, attributes := #[] }] 1057 12 #[111, 113, 115] #[{ accessFlags := 18, nameIndex := 5, descriptorIndex := 6, attributes := #[] }, { accessFlags := 18, nameIndex := 9, descriptorIndex := 10, attributes := #[] }, { accessFlags := 2, nameIndex := 19, descriptorIndex := 10, attributes := #[] }])
  fields := #[{ name := "name", type := (.object "java/lang/String"), accessFlags := 18, slot := 0, constantValue := 0 }, { name := "ordinal", type := .int, accessFlags := 18, slot := 1, constantValue := 0 }, { name := "hash", type := .int, accessFlags := 2, slot := 2, constantValue := 0 }]
  methods := #[k5m0]
  instanceTypes := #[(.object "java/lang/String"), .int, .int]
  staticTypes := #[]
  resolved := Array.replicate 204 none
  statics := none }

def pool6 : Array CpInfo := pool [(1, .class_ 2), (0, u "com/example/stackwright/stackwright/CreditGrade"), (2, u "AAA"), (0, u "Lcom/example/stackwright/stackwright/CreditGrade;"), (2, u "AA_PLUS"), (2, u "AA"), (2, u "AA_MINUS"), (2, u "A_PLUS"), (2, u "A"), (2, u "A_MINUS"), (2, u "BBB_PLUS"), (2, u "BBB"), (2, u "BBB_MINUS"), (2, u "BB_PLUS"), (2, u "BB"), (2, u "BB_MINUS"), (2, u "B_PLUS"), (2, u "B"), (2, u "B_MINUS"), (2, u "CCC_PLUS"), (2, u "CCC"), (2, u "CCC_MINUS"), (2, u "CC"), (2, u "C"), (2, u "D"), (2, u "$VALUES"), (0, u "[Lcom/example/stackwright/stackwright/CreditGrade;"), (6, .class_ 82), (1, u "java/lang/Enum"), (8, u "symbol"), (0, u "Ljava/lang/String;"), (2, u "numbered"), (0, .methodref 1 97), (0, .nameAndType 98 99), (0, u "compareTo"), (0, u "(Ljava/lang/Enum;)I"), (125, u "isWorseThan"), (0, u "(Lcom/example/stackwright/stackwright/CreditGrade;)Z")] 26

def k6c0 : Code := { maxStack := 2, maxLocals := 2, code := prog_2_method_5_code, exceptionTable := #[], attributes := #[] }
def k6m0 : Method := { name := "isWorseThan", desc := "(Lcom/example/stackwright/stackwright/CreditGrade;)Z", sig := { parameters := [(.object "com/example/stackwright/stackwright/CreditGrade")], returnType := some .boolean }, accessFlags := 1, code := some k6c0 }
/-- com/example/stackwright/stackwright/CreditGrade -/
def k6 : Class := { plain "com/example/stackwright/stackwright/CreditGrade" (some 5) with
  accessFlags := 16433
  interfaces := #[]
  cf := some (fileOf pool6 1 #[] #[{ accessFlags := 1, nameIndex := 225, descriptorIndex := 226, attributes := #[] }] 16433 80 #[] #[{ accessFlags := 16409, nameIndex := 5, descriptorIndex := 6, attributes := #[] }, { accessFlags := 16409, nameIndex := 9, descriptorIndex := 6, attributes := #[] }, { accessFlags := 16409, nameIndex := 12, descriptorIndex := 6, attributes := #[] }, { accessFlags := 16409, nameIndex := 15, descriptorIndex := 6, attributes := #[] }, { accessFlags := 16409, nameIndex := 18, descriptorIndex := 6, attributes := #[] }, { accessFlags := 16409, nameIndex := 21, descriptorIndex := 6, attributes := #[] }, { accessFlags := 16409, nameIndex := 24, descriptorIndex := 6, attributes := #[] }, { accessFlags := 16409, nameIndex := 27, descriptorIndex := 6, attributes := #[] }, { accessFlags := 16409, nameIndex := 30, descriptorIndex := 6, attributes := #[] }, { accessFlags := 16409, nameIndex := 33, descriptorIndex := 6, attributes := #[] }, { accessFlags := 16409, nameIndex := 36, descriptorIndex := 6, attributes := #[] }, { accessFlags := 16409, nameIndex := 39, descriptorIndex := 6, attributes := #[] }, { accessFlags := 16409, nameIndex := 42, descriptorIndex := 6, attributes := #[] }, { accessFlags := 16409, nameIndex := 45, descriptorIndex := 6, attributes := #[] }, { accessFlags := 16409, nameIndex := 48, descriptorIndex := 6, attributes := #[] }, { accessFlags := 16409, nameIndex := 51, descriptorIndex := 6, attributes := #[] }, { accessFlags := 16409, nameIndex := 54, descriptorIndex := 6, attributes := #[] }, { accessFlags := 16409, nameIndex := 57, descriptorIndex := 6, attributes := #[] }, { accessFlags := 16409, nameIndex := 60, descriptorIndex := 6, attributes := #[] }, { accessFlags := 16409, nameIndex := 63, descriptorIndex := 6, attributes := #[] }, { accessFlags := 16409, nameIndex := 66, descriptorIndex := 6, attributes := #[] }, { accessFlags := 16409, nameIndex := 69, descriptorIndex := 6, attributes := #[] }, { accessFlags := 18, nameIndex := 91, descriptorIndex := 92, attributes := #[] }, { accessFlags := 18, nameIndex := 95, descriptorIndex := 92, attributes := #[] }, { accessFlags := 4122, nameIndex := 72, descriptorIndex := 73, attributes := #[] }])
  fields := #[{ name := "AAA", type := (.object "com/example/stackwright/stackwright/CreditGrade"), accessFlags := 16409, slot := 0, constantValue := 0 }, { name := "AA_PLUS", type := (.object "com/example/stackwright/stackwright/CreditGrade"), accessFlags := 16409, slot := 1, constantValue := 0 }, { name := "AA", type := (.object "com/example/stackwright/stackwright/CreditGrade"), accessFlags := 16409, slot := 2, constantValue := 0 }, { name := "AA_MINUS", type := (.object "com/example/stackwright/stackwright/CreditGrade"), accessFlags := 16409, slot := 3, constantValue := 0 }, { name := "A_PLUS", type := (.object "com/example/stackwright/stackwright/CreditGrade"), accessFlags := 16409, slot := 4, constantValue := 0 }, { name := "A", type := (.object "com/example/stackwright/stackwright/CreditGrade"), accessFlags := 16409, slot := 5, constantValue := 0 }, { name := "A_MINUS", type := (.object "com/example/stackwright/stackwright/CreditGrade"), accessFlags := 16409, slot := 6, constantValue := 0 }, { name := "BBB_PLUS", type := (.object "com/example/stackwright/stackwright/CreditGrade"), accessFlags := 16409, slot := 7, constantValue := 0 }, { name := "BBB", type := (.object "com/example/stackwright/stackwright/CreditGrade"), accessFlags := 16409, slot := 8, constantValue := 0 }, { name := "BBB_MINUS", type := (.object "com/example/stackwright/stackwright/CreditGrade"), accessFlags := 16409, slot := 9, constantValue := 0 }, { name := "BB_PLUS", type := (.object "com/example/stackwright/stackwright/CreditGrade"), accessFlags := 16409, slot := 10, constantValue := 0 }, { name := "BB", type := (.object "com/example/stackwright/stackwright/CreditGrade"), accessFlags := 16409, slot := 11, constantValue := 0 }, { name := "BB_MINUS", type := (.object "com/example/stackwright/stackwright/CreditGrade"), accessFlags := 16409, slot := 12, constantValue := 0 }, { name := "B_PLUS", type := (.object "com/example/stackwright/stackwright/CreditGrade"), accessFlags := 16409, slot := 13, constantValue := 0 }, { name := "B", type := (.object "com/example/stackwright/stackwright/CreditGrade"), accessFlags := 16409, slot := 14, constantValue := 0 }, { name := "B_MINUS", type := (.object "com/example/stackwright/stackwright/CreditGrade"), accessFlags := 16409, slot := 15, constantValue := 0 }, { name := "CCC_PLUS", type := (.object "com/example/stackwright/stackwright/CreditGrade"), accessFlags := 16409, slot := 16, constantValue := 0 }, { name := "CCC", type := (.object "com/example/stackwright/stackwright/CreditGrade"), accessFlags := 16409, slot := 17, constantValue := 0 }, { name := "CCC_MINUS", type := (.object "com/example/stackwright/stackwright/CreditGrade"), accessFlags := 16409, slot := 18, constantValue := 0 }, { name := "CC", type := (.object "com/example/stackwright/stackwright/CreditGrade"), accessFlags := 16409, slot := 19, constantValue := 0 }, { name := "C", type := (.object "com/example/stackwright/stackwright/CreditGrade"), accessFlags := 16409, slot := 20, constantValue := 0 }, { name := "D", type := (.object "com/example/stackwright/stackwright/CreditGrade"), accessFlags := 16409, slot := 21, constantValue := 0 }, { name := "symbol", type := (.object "java/lang/String"), accessFlags := 18, slot := 3, constantValue := 0 }, { name := "numbered", type := (.object "java/lang/String"), accessFlags := 18, slot := 4, constantValue := 0 }, { name := "$VALUES", type := (.array (.object "com/example/stackwright/stackwright/CreditGrade")), accessFlags := 4122, slot := 22, constantValue := 0 }]
  methods := #[k6m0]
  instanceTypes := #[(.object "java/lang/String"), .int, .int, (.object "java/lang/String"), (.object "java/lang/String")]
  staticTypes := #[(.object "com/example/stackwright/stackwright/CreditGrade"), (.object "com/example/stackwright/stackwright/CreditGrade"), (.object "com/example/stackwright/stackwright/CreditGrade"), (.object "com/example/stackwright/stackwright/CreditGrade"), (.object "com/example/stackwright/stackwright/CreditGrade"), (.object "com/example/stackwright/stackwright/CreditGrade"), (.object "com/example/stackwright/stackwright/CreditGrade"), (.object "com/example/stackwright/stackwright/CreditGrade"), (.object "com/example/stackwright/stackwright/CreditGrade"), (.object "com/example/stackwright/stackwright/CreditGrade"), (.object "com/example/stackwright/stackwright/CreditGrade"), (.object "com/example/stackwright/stackwright/CreditGrade"), (.object "com/example/stackwright/stackwright/CreditGrade"), (.object "com/example/stackwright/stackwright/CreditGrade"), (.object "com/example/stackwright/stackwright/CreditGrade"), (.object "com/example/stackwright/stackwright/CreditGrade"), (.object "com/example/stackwright/stackwright/CreditGrade"), (.object "com/example/stackwright/stackwright/CreditGrade"), (.object "com/example/stackwright/stackwright/CreditGrade"), (.object "com/example/stackwright/stackwright/CreditGrade"), (.object "com/example/stackwright/stackwright/CreditGrade"), (.object "com/example/stackwright/stackwright/CreditGrade"), (.array (.object "com/example/stackwright/stackwright/CreditGrade"))]
  resolved := Array.replicate 253 none
  mirror := some 1
  statics := some 0 }

def pool7 : Array CpInfo := pool [(1, u "java/lang/Cloneable"), (0, .class_ 1), (0, u "java/lang/Object"), (0, .class_ 3)] 3

/-- java/lang/Cloneable -/
def k7 : Class := { plain "java/lang/Cloneable" (some 0) with
  accessFlags := 1537
  interfaces := #[]
  cf := some (fileOf pool7 2 #[] #[] 1537 4 #[] #[])
  fields := #[]
  methods := #[]
  instanceTypes := #[]
  staticTypes := #[]
  resolved := Array.replicate 8 none
  statics := none }

/-- the primitive byte -/
def k8 : Class := { plain "byte" none with kind := .primitive 'B', accessFlags := 0x411 }
/-- [B -/
def k9 : Class := { plain "[B" (some 0) with kind := .array 8 .byte, interfaces := #[7, 4], accessFlags := 1041 }

/-- the primitive int -/
def k10 : Class := { plain "int" none with kind := .primitive 'I', accessFlags := 0x411 }
/-- [I -/
def k11 : Class := { plain "[I" (some 0) with kind := .array 10 .int, interfaces := #[7, 4], accessFlags := 1041 }

/-- [Lcom/example/stackwright/stackwright/CreditGrade; -/
def k12 : Class := { plain "[Lcom/example/stackwright/stackwright/CreditGrade;" (some 0) with kind := .array 6 (.object "com/example/stackwright/stackwright/CreditGrade"), interfaces := #[7, 4], accessFlags := 1041 }

def heap : Heap := #[{ cls := 6, slots := #[.ref 2, .ref 3, .ref 4, .ref 5, .ref 6, .ref 7, .ref 8, .ref 9, .ref 10, .ref 11, .ref 12, .ref 13, .ref 14, .ref 15, .ref 16, .ref 17, .ref 18, .ref 19, .ref 20, .ref 21, .ref 22, .ref 23, .null], vm := .statics 6 },
  { cls := 0, slots := #[], vm := .mirror 6 },
  { cls := 6, slots := #[.null, .int 0, .int 0, .null, .null], vm := .none },
  { cls := 6, slots := #[.null, .int 1, .int 0, .null, .null], vm := .none },
  { cls := 6, slots := #[.null, .int 2, .int 0, .null, .null], vm := .none },
  { cls := 6, slots := #[.null, .int 3, .int 0, .null, .null], vm := .none },
  { cls := 6, slots := #[.null, .int 4, .int 0, .null, .null], vm := .none },
  { cls := 6, slots := #[.null, .int 5, .int 0, .null, .null], vm := .none },
  { cls := 6, slots := #[.null, .int 6, .int 0, .null, .null], vm := .none },
  { cls := 6, slots := #[.null, .int 7, .int 0, .null, .null], vm := .none },
  { cls := 6, slots := #[.null, .int 8, .int 0, .null, .null], vm := .none },
  { cls := 6, slots := #[.null, .int 9, .int 0, .null, .null], vm := .none },
  { cls := 6, slots := #[.null, .int 10, .int 0, .null, .null], vm := .none },
  { cls := 6, slots := #[.null, .int 11, .int 0, .null, .null], vm := .none },
  { cls := 6, slots := #[.null, .int 12, .int 0, .null, .null], vm := .none },
  { cls := 6, slots := #[.null, .int 13, .int 0, .null, .null], vm := .none },
  { cls := 6, slots := #[.null, .int 14, .int 0, .null, .null], vm := .none },
  { cls := 6, slots := #[.null, .int 15, .int 0, .null, .null], vm := .none },
  { cls := 6, slots := #[.null, .int 16, .int 0, .null, .null], vm := .none },
  { cls := 6, slots := #[.null, .int 17, .int 0, .null, .null], vm := .none },
  { cls := 6, slots := #[.null, .int 18, .int 0, .null, .null], vm := .none },
  { cls := 6, slots := #[.null, .int 19, .int 0, .null, .null], vm := .none },
  { cls := 6, slots := #[.null, .int 20, .int 0, .null, .null], vm := .none },
  { cls := 6, slots := #[.null, .int 21, .int 0, .null, .null], vm := .none }]
def classes : Array Class := #[k0, k1, k2, k3, k4, k5, k6, k7, k8, k9, k10, k11, k12]
def interned : List (Array UInt16 × Addr) := []
def slotsUsed : Nat := 133
def theMethod : MethodId := ⟨1, 1⟩
def args0 : Array Value := #[.int 5, .int 4]
def aboutOver (below : List Frame) : State where
  vm := { classes := classes, interned := interned.toArray }
  heap := heap
  slotsUsed := slotsUsed
  threads := #[{ frames := .invoking theMethod args0 :: below }]
def below0 : List Frame := [.native { method := ⟨0, 0⟩, args := #[] }]
def about1 : State := aboutOver below0
def p0 : Program := .bare "" "" ""
def e0 : Env := launch0.env 0 0 0
theorem w_frames : about1.frames = Frame.invoking theMethod args0 :: below0 := rfl
set_option maxRecDepth 65536 in
theorem w_args : argsFit about1.vm theMethod args0 = true := by decide +kernel
set_option maxRecDepth 65536 in
theorem w_heap : heapFits about1 = true := by decide +kernel
set_option maxRecDepth 65536 in
theorem w_runnable : about1.curStatus? = some .runnable := by decide +kernel
set_option maxRecDepth 65536 in
theorem w_alone : about1.alone = true := by decide +kernel
set_option maxRecDepth 65536 in
theorem w_named : about1.methodNamed? x = some theMethod := by decide +kernel
set_option maxRecDepth 65536 in
theorem w_hears : about1.hears theMethod below0 = true := by decide +kernel
set_option maxRecDepth 65536 in
theorem w_ripe : about1.ripe theMethod args0 below0 = true := by decide +kernel
theorem w_running : about1.status = .running := rfl
set_option maxRecDepth 65536 in
theorem w_room : about1.hasRoom e0.platform room_1 = true :=
  launch0.hasRoom_least _ room_1 (by decide +kernel) (by decide +kernel) (by decide +kernel) (by decide +kernel) (by decide +kernel) (by decide +kernel)
theorem allAtoms_all (ts : List Jvm.Cond) (a : Array Jvm.Value) (st : Jvm.State) : (allAtoms ts).before a st = ts.all (fun c => c.before a st) := by
  induction ts with
  | nil => rfl
  | cons c t ih =>
    show (Jvm.Cond.and c (allAtoms t)).before a st = _
    rw [Jvm.Cond.before_and, ih, List.all_cons]
def words1 : List Jvm.Cond := Jvm.Cond.code x code maxLocals ret :: tables_1
/-- a 'code' word, met by the world's own term for the bytes: nothing is compared byte by byte -/
theorem code_word {y : MethodName} {bytes : ByteArray} {mx : Nat} {rt : Option FieldType} {a : Array Value} {s : State} {m : MethodId} {meth : Method} {c : Code} (h1 : s.methodNamed? y = some m) (h2 : s.vm.method? m = some meth) (h3 : meth.code = some c) (h4 : c.code = bytes)
    (h5 : (c.maxLocals == mx && c.exceptionTable.isEmpty && decide (c.maxStack ≤ mostOperands) && decide (meth.sig.returnType = rt) && !meth.locks && decide (parseMethodDescriptor y.desc = some meth.sig)) = true) : (Jvm.Cond.code y bytes mx rt).before a s = true := by
  simp only [Bool.and_eq_true, beq_iff_eq, Bool.not_eq_true', decide_eq_true_eq] at h5
  obtain ⟨⟨⟨⟨⟨g1, g2⟩, g3⟩, g4⟩, g5⟩, g6⟩ := h5
  simp [Cond.before, Cond.holds, Cond.value, h1, h2, h3, h4, g1, g2, g3, g4, g5, g6]
def isCode : Jvm.Cond → Bool
  | .code _ _ _ _ => true
  | _ => false
theorem all_split {L : List Jvm.Cond} {P : Jvm.Cond → Bool} (h1 : L.all (fun c => isCode c || P c) = true) (h2 : ∀ c ∈ L.filter isCode, P c = true) : L.all P = true := by
  refine List.all_eq_true.mpr fun c hc => ?_
  have h := List.all_eq_true.mp h1 c hc
  rcases Bool.eq_false_or_eq_true (isCode c) with hi | hi
  · exact h2 c (List.mem_filter.mpr ⟨hc, hi⟩)
  · simpa [hi] using h
set_option maxRecDepth 65536 in
theorem w_c0 : (Jvm.Cond.code x code maxLocals ret).before args0 about1 = true := code_word (m := ⟨1, 1⟩) (meth := k1m1) (c := k1c1) (by decide +kernel) rfl rfl rfl (by decide +kernel)
set_option maxRecDepth 65536 in
theorem w_c1 : (Jvm.Cond.code ({ cls := "com/example/stackwright/stackwright/CreditGrade", name := "isWorseThan", desc := "(Lcom/example/stackwright/stackwright/CreditGrade;)Z" } : Jvm.MethodName) prog_2_method_5_code (2 : Nat) (Option.some Jvm.ClassFile.FieldType.boolean)).before args0 about1 = true := code_word (m := ⟨6, 0⟩) (meth := k6m0) (c := k6c0) (by decide +kernel) rfl rfl rfl (by decide +kernel)
set_option maxRecDepth 65536 in
theorem w_c2 : (Jvm.Cond.code ({ cls := "java/lang/Enum", name := "compareTo", desc := "(Ljava/lang/Enum;)I" } : Jvm.MethodName) jdk_37_method_8_code (4 : Nat) (Option.some Jvm.ClassFile.FieldType.int)).before args0 about1 = true := code_word (m := ⟨5, 0⟩) (meth := k5m0) (c := k5c0) (by decide +kernel) rfl rfl rfl (by decide +kernel)
def codes1 : List Jvm.Cond := [Jvm.Cond.code x code maxLocals ret, Jvm.Cond.code ({ cls := "com/example/stackwright/stackwright/CreditGrade", name := "isWorseThan", desc := "(Lcom/example/stackwright/stackwright/CreditGrade;)Z" } : Jvm.MethodName) prog_2_method_5_code (2 : Nat) (Option.some Jvm.ClassFile.FieldType.boolean), Jvm.Cond.code ({ cls := "java/lang/Enum", name := "compareTo", desc := "(Ljava/lang/Enum;)I" } : Jvm.MethodName) jdk_37_method_8_code (4 : Nat) (Option.some Jvm.ClassFile.FieldType.int)]
set_option maxRecDepth 65536 in
theorem codes_eq : words1.filter isCode = codes1 := rfl
theorem w_codes : ∀ c ∈ words1.filter isCode, c.before args0 about1 = true := by
  rw [codes_eq]
  intro c hc
  simp only [codes1, List.mem_cons, List.not_mem_nil, or_false] at hc
  rcases hc with rfl | rfl | rfl
  · exact w_c0
  · exact w_c1
  · exact w_c2
set_option maxRecDepth 65536 in
theorem w_t1 : (words1.take 24).all (fun c => isCode c || c.before args0 about1) = true := by decide +kernel
set_option maxRecDepth 65536 in
theorem w_t2 : ((words1.drop 24).take 24).all (fun c => isCode c || c.before args0 about1) = true := by decide +kernel
set_option maxRecDepth 65536 in
theorem w_t3 : ((words1.drop 24).drop 24).all (fun c => isCode c || c.before args0 about1) = true := by decide +kernel
theorem w_tables : (allAtoms (Jvm.Cond.code x code maxLocals ret :: tables_1)).before args0 about1 = true := by
  rw [allAtoms_all]
  show words1.all (fun c => c.before args0 about1) = true
  refine all_split ?_ w_codes
  rw [← List.take_append_drop 24 words1, List.all_append, w_t1, ← List.take_append_drop 24 (words1.drop 24), List.all_append, w_t2, w_t3]
  rfl
set_option maxRecDepth 65536 in
theorem w_case : (Jvm.Cond.and given_1 narrow_1).before args0 about1 = true := by decide +kernel
theorem w_applies : (headSpec (Jvm.Cond.code x code maxLocals ret :: tables_1) room_1).applies x e0.platform about1 = true :=
  (Spec.applies_iff w_frames).mpr ⟨w_running, w_runnable, w_alone, w_named, w_hears, w_ripe, w_room, w_tables⟩
theorem atStart : AtStart classFile x code maxLocals ret World_1 tables_1 room_1 Calls_1 rest_1 Pre_1 launch0 p0 e0 about1 theMethod args0 below0 :=
  ⟨lists_1, trivial, launch0.admits_env _ _ _, launch0.least_env, fairChoices_fair.cas, fairChoices_fair.clock, w_frames, w_args, w_heap, w_applies, ⟨⟨6, k6, 1, by decide +kernel, rfl, rfl, _, rfl, rfl⟩, trivial⟩, trivial, w_case⟩
end start1
theorem witness_1 : WitnessClaimed_1 := ⟨start1.p0, start1.e0, start1.about1, start1.theMethod, start1.args0, start1.below0, start1.atStart⟩
end Jvm.Pilot.@@N@@
