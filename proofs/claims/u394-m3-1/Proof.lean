import JvmDerived
import JvmDerived.Pilot.@@N@@Statement
import JvmDerived.Pilot.@@N@@Code
set_option linter.unusedVariables false
set_option linter.unusedSimpArgs false
namespace Jvm.Pilot.@@N@@
open Jvm Jvm.ClassFile Sem Op Lib Jvm.Free Jvm.Stand Jvm.LawKit Jvm.RoadKit Bundle Jvm.Pilot.@@N@@.Jvm.D
/-! own: the run from A ends well -/
def Go (tb : Tables) (e : Env) (below : List Frame) (A : State) (P : State → Outcome → Prop) : Prop := ∃ t o, Steps tb e below A t ∧ P t o
abbrev un : Slot := .unset
abbrev sn : Slot := .second
abbrev dw (x : UInt64) : Slot := .val (.double x)
abbrev sT (p : Program) (e : Env) (b : List Frame) (T : State) (F : JFrame) (t : State) : Prop := Steps p.tables e b (T.setTop F) t
theorem own_w {a0 : Array Value} {Z : State} (hw : ∀ d ∈ tables_1, d.before a0 Z = true) (i : Nat) {d : Jvm.Cond} (h : tables_1[i]? = some d) : d.before a0 Z = true := hw d (List.mem_of_getElem? h)
theorem own_on {tb : Tables} {e : Env} {below : List Frame} {A B : State} {P : State → Outcome → Prop} (k : ∀ t, Steps tb e below B t → Steps tb e below A t) (h : Go tb e below B P) : Go tb e below A P := by
  obtain ⟨t, o, h1, h2⟩ := h
  exact ⟨t, o, k t h1, h2⟩
theorem own_of {tb : Tables} {e : Env} {below : List Frame} {A : State} {P : State → Outcome → Prop} (h : Go tb e below A P) : ∃ t o, Steps tb e below A t ∧ P t o := h
theorem own_old {Z : State} {n0 : Nat} {h : Heap} (O : Old Z n0 h) : n0 ≤ h.size := O.1 ▸ O.2.1
theorem own_retV {p : Program} {l : Launch} {e : Env} {R : Room} {s : State} {m : MethodId} {args : Array Value} {below : List Frame} {meth : Method} {c : Code} {T : State} {locs : List Loc} {cells slots : Nat}
    (X : Stand p l e R s m args below meth c T locs cells slots) (hx : p.tables.exec = Jvm.exec) {pc : Nat} {Ls : Array Slot} {w : Value} {t : FieldType} {rest : List Value} (hret : meth.sig.returnType = some t) (ht : t.isReference = true) (hw : w.isRef = true) (hd : decode c.code pc = .ok (.areturn, 1)) {fs : List Frame}
    (hl : ∀ (f : JFrame) (acts : List Action), f.method = m → f.locked = none → f.entered = [] → (doReturn e (T.setTop f) acts (some w)).1 = T.setFrames fs) : Steps p.tables e below (T.setTop (mkF m pc Ls (w :: rest))) (T.setFrames fs) :=
  retOut X hx hret (by cases t <;> first | (simp [FieldType.isReference] at ht; done) | (cases w <;> first | rfl | (simp [Value.isRef] at hw))) (Or.inr (Or.inr (Or.inr (Or.inr ⟨rfl, ht, hw⟩)))) hd hl
theorem own_retI {p : Program} {l : Launch} {e : Env} {R : Room} {s : State} {m : MethodId} {args : Array Value} {below : List Frame} {meth : Method} {c : Code} {T : State} {locs : List Loc} {cells slots : Nat}
    (X : Stand p l e R s m args below meth c T locs cells slots) (hx : p.tables.exec = Jvm.exec) {pc : Nat} {Ls : Array Slot} {z : Int32} {rest : List Value} (hret : meth.sig.returnType = some .int) (hd : decode c.code pc = .ok (.ireturn, 1)) {fs : List Frame}
    (hl : ∀ (f : JFrame) (acts : List Action), f.method = m → f.locked = none → f.entered = [] → (doReturn e (T.setTop f) acts (some (.int z))).1 = T.setFrames fs) : Steps p.tables e below (T.setTop (mkF m pc Ls (.int z :: rest))) (T.setFrames fs) :=
  retOut X hx hret rfl (Or.inl ⟨rfl, Or.inl rfl, z, rfl⟩) hd hl
theorem own_retN {p : Program} {l : Launch} {e : Env} {R : Room} {s : State} {m : MethodId} {args : Array Value} {below : List Frame} {meth : Method} {c : Code} {T : State} {locs : List Loc} {cells slots : Nat}
    (X : Stand p l e R s m args below meth c T locs cells slots) (hx : p.tables.exec = Jvm.exec) {pc : Nat} {Ls : Array Slot} {z : Int32} {t : FieldType} {rest : List Value} (hret : meth.sig.returnType = some t) (ht : t = .boolean ∨ t = .byte ∨ t = .char ∨ t = .short) (hz : nar t z = z) (hd : decode c.code pc = .ok (.ireturn, 1)) {fs : List Frame}
    (hl : ∀ (f : JFrame) (acts : List Action), f.method = m → f.locked = none → f.entered = [] → (doReturn e (T.setTop f) acts (some (.int z))).1 = T.setFrames fs) : Steps p.tables e below (T.setTop (mkF m pc Ls (.int z :: rest))) (T.setFrames fs) :=
  retN X hx hret ht hd (by rw [hz]; exact hl)
theorem own_retD {p : Program} {l : Launch} {e : Env} {R : Room} {s : State} {m : MethodId} {args : Array Value} {below : List Frame} {meth : Method} {c : Code} {T : State} {locs : List Loc} {cells slots : Nat}
    (X : Stand p l e R s m args below meth c T locs cells slots) (hx : p.tables.exec = Jvm.exec) {pc : Nat} {Ls : Array Slot} {z : UInt64} {rest : List Value} (hret : meth.sig.returnType = some .double) (hd : decode c.code pc = .ok (.dreturn, 1)) {fs : List Frame}
    (hl : ∀ (f : JFrame) (acts : List Action), f.method = m → f.locked = none → f.entered = [] → (doReturn e (T.setTop f) acts (some (.double z))).1 = T.setFrames fs) : Steps p.tables e below (T.setTop (mkF m pc Ls (.double z :: rest))) (T.setFrames fs) :=
  retOut X hx hret rfl (Or.inr (Or.inr (Or.inl ⟨rfl, rfl, z, rfl⟩))) hd hl
theorem own_retJ {p : Program} {l : Launch} {e : Env} {R : Room} {s : State} {m : MethodId} {args : Array Value} {below : List Frame} {meth : Method} {c : Code} {T : State} {locs : List Loc} {cells slots : Nat}
    (X : Stand p l e R s m args below meth c T locs cells slots) (hx : p.tables.exec = Jvm.exec) {pc : Nat} {Ls : Array Slot} {z : Int64} {rest : List Value} (hret : meth.sig.returnType = some .long) (hd : decode c.code pc = .ok (.lreturn, 1)) {fs : List Frame}
    (hl : ∀ (f : JFrame) (acts : List Action), f.method = m → f.locked = none → f.entered = [] → (doReturn e (T.setTop f) acts (some (.long z))).1 = T.setFrames fs) : Steps p.tables e below (T.setTop (mkF m pc Ls (.long z :: rest))) (T.setFrames fs) :=
  retOut X hx hret rfl (Or.inr (Or.inl ⟨rfl, rfl, z, rfl⟩)) hd hl
theorem own_fldI {Z : State} {args : Array Value} {t : Term} {x : Addr} {C n d : String} {k : Int32} (ev : t.eval args Z none [] Z = some (.ref x)) (h : (Cond.eq (.field t C n d) (.int k)).value args Z none Z [] = some true) : Fld Z Z.heap x C n d (.int k) := by
  refine Fld.start ?_
  cases hf : Z.fieldOf? x C n d with
  | none => simp [Cond.value, Term.eval, ev, hf] at h
  | some v => cases v <;> simp [Cond.value, Term.eval, ev, hf] at h; subst h; rfl
theorem own_nar {t : FieldType} {v : Value} (h : v.isRef = true) : narrow t v = v := by rcases ref_cases h with rfl | ⟨r, rfl⟩ <;> cases t <;> rfl
theorem own_fit {t : FieldType} {v : Value} (h : v.isRef = true) (ht : t.isReference = true := by rfl) : fits t v = true := by rcases ref_cases h with rfl | ⟨r, rfl⟩ <;> cases t <;> first | rfl | (simp [FieldType.isReference] at ht)
theorem own_st {l l' : Array Slot} {i : Nat} {v : Value} {o : Slot} (hold : l[i]? = some o) (ho : o = .unset ∨ ∃ w, o = .val w ∧ w.category = 1) (hv : v.category = 1) (e : l.setIfInBounds i (.val v) = l' := by rfl) : storeLocals l i v = some l' := e ▸ Jvm.Free.XS.store1 hold ho hv
theorem own_lremM {p : Program} {l : Launch} {e : Env} {R : Room} {s : State} {m : MethodId} {args : Array Value} {below : List Frame} {meth : Method} {c : Code} {T : State} {locs : List Loc} {cells slots : Nat} {g : JFrame} {target : State}
    (X : Stand p l e R s m args below meth c T locs cells slots) (hx : p.tables.exec = Jvm.exec) (hg : g.method = m) {x y : Int64} {rest : List Value} (hd : decode c.code g.pc = .ok (.lrem, 1)) (hs : g.stack = .long y :: .long x :: rest) (hy : y ≠ 0)
    (hr : Steps p.tables e below (T.setTop { g with pc := g.pc + 1, stack := .long (x % y) :: rest }) target) : Steps p.tables e below (T.setTop g) target :=
  Jvm.Free.XT.lrem X.here hx hg hd hs hy (by rw [lrem_mod]; exact hr)
/-! own: an array of a known length, whatever it holds -/
def OwnArz (Z : State) (h : Heap) (a : Addr) (ty : FieldType) (n : Int32) : Prop := ∃ c : Cell, Arr Z h a c ty ∧ c.slots.size = n.toNatClampNeg ∧ ¬ n < 0
theorem OwnArz.of {Z : State} {h : Heap} {a : Addr} {k : ClassId} {ty : FieldType} {n : Int32} {vs : List Value} {d : Value} (F : Arv Z h a k ty n vs d) : OwnArz Z h a ty n := by obtain ⟨c, A, -, S, M, -⟩ := F; exact ⟨c, A, S, M⟩
theorem OwnArz.lt {Z : State} {h : Heap} {a : Addr} {ty : FieldType} {n : Int32} (F : OwnArz Z h a ty n) : a < h.size := by obtain ⟨c, A, -⟩ := F; exact A.lt
theorem OwnArz.ext {Z : State} {h h' : Heap} {a : Addr} {ty : FieldType} {n : Int32} (F : OwnArz Z h a ty n) (E : Ext h h') : OwnArz Z h' a ty n := by obtain ⟨c, A, r⟩ := F; exact ⟨c, A.ext E, r⟩
theorem OwnArz.other {Z : State} {h h' : Heap} {a b : Addr} {sl : Nat} {v : Value} {ty : FieldType} {n : Int32} (F : OwnArz Z h b ty n) (W : Wr h h' a sl v) (q : b ≠ a) : OwnArz Z h' b ty n := by obtain ⟨c, A, r⟩ := F; exact ⟨c, A.other W q, r⟩
theorem OwnArz.keep {Z : State} {h h' : Heap} {a : Addr} {ws : List Addr} {ty : FieldType} {n : Int32} (F : OwnArz Z h a ty n) (K : Keep h h' ws) (q : a ∉ ws) : OwnArz Z h' a ty n := by obtain ⟨c, A, r⟩ := F; exact ⟨c, ⟨K.2.1 a c A.1 q, A.2⟩, r⟩
theorem OwnArz.set {Z : State} {h h' : Heap} {a : Addr} {sl : Nat} {v : Value} {ty : FieldType} {n : Int32} {c : Cell} (A : Arr Z h a c ty) (S : c.slots.size = n.toNatClampNeg) (M : ¬ n < 0) (W : Wr h h' a sl v) : OwnArz Z h' a ty n := ⟨_, A.same W, by rw [sz_set]; exact S, M⟩
theorem own_nface {Z : State} {a0 : Array Value} {C : String} {n : Nat} (h : (Cond.instantiable C n).before a0 Z = true) : ∃ c k, Z.vm.findClass C = some c ∧ Z.vm.classes[c]? = some k ∧ k.isInterface = false := by
  obtain ⟨c, k, h1, h2, -, h3, -⟩ := Cond.instantiable_spec h
  simp only [Bool.or_eq_false_iff] at h3
  exact ⟨c, k, h1, h2, h3.1⟩
theorem own_psel {Z : State} {a0 : Array Value} {y : MethodName} {C : String} {n : Nat} (hC : y.cls = C) (hi : (Cond.instantiable C n).before a0 Z = true) (hp : (Cond.privateMethod y).before a0 Z = true) (hm : (Cond.instanceMethod y).before a0 Z = true) (hy : y.cls ≠ "java/lang/invoke/MethodHandle" ∧ y.cls ≠ "java/lang/invoke/VarHandle") : (Cond.selects y.cls y y).before a0 Z = true := by
  subst hC
  obtain ⟨c, k, h1, h2, h3⟩ := own_nface hi
  exact Jvm.Stand.selects_self_of_private h1 h2 h3 (Cond.privateMethod_at hp) hm hy
theorem own_pn_com_example_vows_to_moves_vowstomoves_model_LongColumn : plainName "com/example/vows_to_moves/vowstomoves/model/LongColumn" = true := by first | (simp [plainName, overriddenIn]; done) | decide +kernel
theorem own_ef_4 (m : MethodId) (x0 : Addr) : entryFrame m #[(.ref x0)] 1 = mkF m 0 #[rv x0] [] := by first | (simp [entryFrame, mkF, argsToLocals, Value.category]; done) | rfl
def Q4 (Z : State) (u0 : Addr) (h0 : Heap) (n0 : Nat) (v : Option Value) (h : Heap) (L : List Loc) : Prop := ∃ (ja : Addr) (kj : ClassId), v = none ∧ Fr n0 L ∧ Keep h0 h [u0] ∧ h0.size ≤ ja ∧ Fld Z h u0 "com/example/vows_to_moves/vowstomoves/model/LongColumn" "chunks" "[[J" (.ref ja) ∧ Fld Z h u0 "com/example/vows_to_moves/vowstomoves/model/LongColumn" "size" "I" (.int (0 : Int32)) ∧ Arv Z h ja kj (.array .long) (4 : Int32) [.null, .null, .null, .null] .null ∧ OvrA Z kj .long "[J"
theorem own_d4_0 : decode prog_81_method_1_code 0 = .ok (.aload_n 0, 1) := by decide +kernel
theorem own_d4_1 : decode prog_81_method_1_code 1 = .ok (.invokespecial 1, 3) := by decide +kernel
theorem own_d4_4 : decode prog_81_method_1_code 4 = .ok (.aload_n 0, 1) := by decide +kernel
theorem own_d4_5 : decode prog_81_method_1_code 5 = .ok (.iconst 4, 1) := by decide +kernel
theorem own_d4_6 : decode prog_81_method_1_code 6 = .ok (.anewarray 7, 3) := by decide +kernel
theorem own_d4_9 : decode prog_81_method_1_code 9 = .ok (.putfield 9, 3) := by decide +kernel
theorem own_d4_12 : decode prog_81_method_1_code 12 = .ok (.return_, 1) := by decide +kernel
set_option maxRecDepth 65536 in
set_option maxHeartbeats 40000000 in
theorem rm4 (l : Launch) (Z : State) (a0 : Array Value) (hw : ∀ d ∈ tables_1, d.before a0 Z = true) (ws : List Jvm.Cond) (u0 : Addr) (h0 : Heap) (n0 : Nat) (O0 : Old Z n0 h0) (E_u0 : Exa Z h0 u0 "com/example/vows_to_moves/vowstomoves/model/LongColumn") (g_u0 : n0 ≤ u0) (F_chunks : Fld Z h0 u0 "com/example/vows_to_moves/vowstomoves/model/LongColumn" "chunks" "[[J" .null) (F_size : Fld Z h0 u0 "com/example/vows_to_moves/vowstomoves/model/LongColumn" "size" "I" (.int (0 : Int32))) :
    MetFree l (⟨"com/example/vows_to_moves/vowstomoves/model/LongColumn", "<init>", "()V"⟩ : MethodName) (head1 (Jvm.Cond.code (⟨"com/example/vows_to_moves/vowstomoves/model/LongColumn", "<init>", "()V"⟩ : MethodName) prog_81_method_1_code 1 none :: ws) ({ frames := 1, cells := 1, slots := 4, locals := 12 } : Room)) (fun a U => a = #[(.ref u0)] ∧ Z.Warmed39 U.vm ∧ U.heap = h0) (fun _ _ _ _ _ => True) (fun _ U o U' => ∃ v L, o = .returned v ∧ Q4 Z u0 h0 n0 v U'.heap L ∧ FrameEnd U o U' L ({ frames := 1, cells := 1, slots := 4, locals := 12 } : Room).cells ({ frames := 1, cells := 1, slots := 4, locals := 12 } : Room).slots) := by
  refine MetFree.of_bodySF (plainFor_of_name own_pn_com_example_vows_to_moves_vowstomoves_model_LongColumn) hisR ?_
  intro p e s m args below meth c s₁ Bd hml0 hP hK
  obtain ⟨rfl, hZ, hh⟩ := hP
  have hx := Bd.exec
  have hby := Bd.bytes
  have hml : c.maxLocals = 1 := hml0
  have hown : s.vm.findClass "com/example/vows_to_moves/vowstomoves/model/LongColumn" = some m.cls := findClass_of_methodNamed Bd.named
  have hnm := (name_of_methodNamed Bd.named Bd.method).1
  have X0 : Stand p l e ({ frames := 1, cells := 1, slots := 4, locals := 12 } : Room) s m #[(.ref u0)] below meth c s₁ [] 0 0 := Stand.of_body Bd
  have e0 : s₁.heap = h0 := by rw [← hh, Bd.state]; rfl
  have N0 := Fr.nil n0
  change Go p.tables e below _ _
  refine own_on (B := s₁.setTop (mkF m 0 #[rv u0] [])) (fun tz kz => castTop (own_ef_4 m u0) kz) ?_
  refine own_on (B := s₁.setTop (mkF m 1 #[rv u0] [(.ref u0)])) (fun tz kz => ?_) ?_
  · show sT p e below s₁ (mkF m 0 #[rv u0] []) tz
    refine XS.aloadN X0.here hx rfl (hb hby own_d4_0) rfl rfl ?_
    exact kz
  obtain ⟨T21, X21, e21, st21⟩ := initO X0 hx hZ hown (own_w hw 22 rfl) (own_w hw 7 rfl) (own_w hw 8 rfl) e0 (g := (mkF m 1 #[rv u0] [(.ref u0)])) rfl (by rw [hml]; rfl) rfl (hb hby own_d4_1) (by decide) (W := 0) (by show 2 * 0 + _ ≤ _; exact Nat.le_of_eq rfl) (by decide)
  refine own_on (B := T21.setTop (mkF m 4 #[rv u0] [])) (fun tz kz => st21 _ kz) ?_
  refine own_on (B := T21.setTop (mkF m 6 #[rv u0] [(.int 4), (.ref u0)])) (fun tz kz => ?_) ?_
  · show sT p e below T21 (mkF m 4 #[rv u0] []) tz
    refine XS.aloadN X21.here hx rfl (hb hby own_d4_4) rfl rfl ?_
    show sT p e below T21 (mkF m 5 #[rv u0] [(.ref u0)]) tz
    refine XS.iconst X21.here hx rfl (hb hby own_d4_5) ?_
    exact kz
  obtain ⟨T22, h22, k22, X22, e22, E22, A22, Ex22, Ov22, st22⟩ := newRA X21 hx hZ hown (ty := .long) (by decide) (own_w hw 23 rfl) (own_w hw 24 rfl) e21 (g := (mkF m 6 #[rv u0] [(.int 4), (.ref u0)])) rfl (hb hby own_d4_6) rfl (by decide) (cap := 4) (by decide) (by decide) (by decide) (by decide) (ad := "[[J") (by decide)
  obtain ⟨b22, g22⟩ : ∃ z, z = h0.size := ⟨_, rfl⟩
  rw [← g22] at A22 st22
  rw [← g22] at Ex22
  have ne_u0_b22 : u0 ≠ b22 := Nat.ne_of_lt (Nat.lt_of_lt_of_le (E_u0).lt (Nat.le_of_eq g22.symm))
  have lne_u0_b22 : @LT.lt Nat _ u0 b22 := Nat.lt_of_lt_of_le (E_u0).lt (Nat.le_of_eq g22.symm)
  have g_b22 : n0 ≤ b22 := Nat.le_trans (own_old O0) (Nat.le_of_eq g22.symm)
  have sz_b22 : h0.size ≤ b22 := Nat.le_trans (Keep.refl h0 [u0]).1 (Nat.le_of_eq g22.symm)
  have O23 := O0.ext E22
  have K23 : Keep h0 h22 [u0] := (Keep.refl h0 [u0]).ext E22
  have V22 : Arv Z h22 b22 k22 (.array .long) (4 : Int32) [.null, .null, .null, .null] .null := (Arv.new A22 (by decide)).pad (pad_rep [] .null 4)
  refine own_on (B := T22.setTop (mkF m 9 #[rv u0] [(.ref b22), (.ref u0)])) (fun tz kz => st22 _ kz) ?_
  have f_24 := (F_chunks.ext E22)
  have f_25 := (E_u0.ext E22)
  obtain ⟨T26, h26, X26, e26, W26, st26⟩ := putF X22 hx hZ hown (host := "") (Or.inl (own_w hw 25 rfl)) Via.refl e22 f_24 f_25 (Or.inl (own_w hw 26 rfl)) (own_w hw 17 rfl) (ty := (.array (.array .long))) (by decide) rfl rfl (g := (mkF m 9 #[rv u0] [(.ref b22), (.ref u0)])) rfl rfl (hb hby own_d4_9)
  have Fw26 := f_24.same W26
  have N26 := Fr.snoc X26 N0 g_u0
  have O27 := O23.wr W26 g_u0
  have K27 : Keep h0 h26 [u0] := K23.wr W26 (Or.inl (List.mem_of_getElem? (i := 0) rfl))
  refine own_on (B := T26.setTop (mkF m 12 #[rv u0] [])) (fun tz kz => st26 _ kz) ?_
  have f_28 := ((F_size.ext E22).other W26 (Or.inr (slot_ne (Or.inl (own_w hw 97 rfl)) (Or.inl (own_w hw 26 rfl)) (by decide) (t := .int) (t' := (.array (.array .long))) (by decide) (by decide))))
  have f_29 := (V22.other W26 (Ne.symm ne_u0_b22))
  obtain ⟨fs, hr, hrun, hended, hW, hsame⟩ := X26.leave (v := none) (fun _ => rfl)
  refine own_of ⟨_, _, ?_, hrun, hended, _, _, rfl, ?_, ⟨_, rfl⟩, hW, hsame.mono (by decide) (by decide)⟩
  · show sT p e below T26 (mkF m 12 #[rv u0] []) _
    exact X26.returnOut hx Bd.returns (hb hby own_d4_12) hr
  · show Q4 Z u0 h0 n0 _ T26.heap _
    rw [e26]
    exact ⟨b22, k22, rfl, N26, K27, sz_b22, Fw26, f_28, f_29, Ov22⟩
theorem own_ef_5 (m : MethodId) (x0 : Int32) (x1 : Int32) : entryFrame m #[(.int x0), (.int x1)] 2 = mkF m 0 #[iv x0, iv x1] [] := by first | (simp [entryFrame, mkF, argsToLocals, Value.category]; done) | rfl
def Q5 (Z : State)  (h0 : Heap) (n0 : Nat) (v : Option Value) (h : Heap) (L : List Loc) : Prop := v = some (.int (16 : Int32)) ∧ Fr n0 L ∧ h = h0
theorem own_d5_0 : decode jdk_29_method_65_code 0 = .ok (.iload_n 0, 1) := by decide +kernel
theorem own_d5_1 : decode jdk_29_method_65_code 1 = .ok (.iload_n 1, 1) := by decide +kernel
theorem own_d5_2 : decode jdk_29_method_65_code 2 = .ok (.if_icmp .lt 7, 3) := by decide +kernel
theorem own_d5_5 : decode jdk_29_method_65_code 5 = .ok (.iload_n 0, 1) := by decide +kernel
theorem own_d5_6 : decode jdk_29_method_65_code 6 = .ok (.goto 4, 3) := by decide +kernel
theorem own_d5_10 : decode jdk_29_method_65_code 10 = .ok (.ireturn, 1) := by decide +kernel
set_option maxRecDepth 65536 in
set_option maxHeartbeats 40000000 in
theorem rm5 (l : Launch) (Z : State) (a0 : Array Value) (hw : ∀ d ∈ tables_1, d.before a0 Z = true) (ws : List Jvm.Cond)  (h0 : Heap) (n0 : Nat) (O0 : Old Z n0 h0) :
    MetFree l (⟨"java/lang/Math", "max", "(II)I"⟩ : MethodName) (head1 (Jvm.Cond.code (⟨"java/lang/Math", "max", "(II)I"⟩ : MethodName) jdk_29_method_65_code 2 (some .int) :: ws) ({ frames := 0, cells := 0, slots := 0, locals := 0 } : Room)) (fun a U => a = #[(.int (16 : Int32)), (.int (8 : Int32))] ∧ Z.Warmed39 U.vm ∧ U.heap = h0) (fun _ _ _ _ _ => True) (fun _ U o U' => ∃ v L, o = .returned v ∧ Q5 Z  h0 n0 v U'.heap L ∧ FrameEnd U o U' L ({ frames := 0, cells := 0, slots := 0, locals := 0 } : Room).cells ({ frames := 0, cells := 0, slots := 0, locals := 0 } : Room).slots) := by
  refine MetFree.of_bodySF (Jvm.Free.JP.mathPlain rfl (by decide +kernel)) hisR ?_
  intro p e s m args below meth c s₁ Bd hml0 hP hK
  obtain ⟨rfl, hZ, hh⟩ := hP
  have hx := Bd.exec
  have hby := Bd.bytes
  have hml : c.maxLocals = 2 := hml0
  have hown : s.vm.findClass "java/lang/Math" = some m.cls := findClass_of_methodNamed Bd.named
  have hnm := (name_of_methodNamed Bd.named Bd.method).1
  have X0 : Stand p l e ({ frames := 0, cells := 0, slots := 0, locals := 0 } : Room) s m #[(.int (16 : Int32)), (.int (8 : Int32))] below meth c s₁ [] 0 0 := Stand.of_body Bd
  have e0 : s₁.heap = h0 := by rw [← hh, Bd.state]; rfl
  have N0 := Fr.nil n0
  change Go p.tables e below _ _
  refine own_on (B := s₁.setTop (mkF m 0 #[iv 16, iv 8] [])) (fun tz kz => castTop (own_ef_5 m (16 : Int32) (8 : Int32)) kz) ?_
  refine own_on (B := s₁.setTop (mkF m 10 #[iv 16, iv 8] [(.int 16)])) (fun tz kz => ?_) ?_
  · show sT p e below s₁ (mkF m 0 #[iv 16, iv 8] []) tz
    refine XS.iloadN X0.here hx rfl (hb hby own_d5_0) rfl ?_
    show sT p e below s₁ (mkF m 1 #[iv 16, iv 8] [(.int 16)]) tz
    refine XS.iloadN X0.here hx rfl (hb hby own_d5_1) rfl ?_
    show sT p e below s₁ (mkF m 2 #[iv 16, iv 8] [(.int 8), (.int 16)]) tz
    refine XS.icmpNo X0.here hx rfl (hb hby own_d5_2) rfl (flt (by decide : ¬ ((16 : Int32) < (8 : Int32)))).1 ?_
    show sT p e below s₁ (mkF m 5 #[iv 16, iv 8] []) tz
    refine XS.iloadN X0.here hx rfl (hb hby own_d5_5) rfl ?_
    show sT p e below s₁ (mkF m 6 #[iv 16, iv 8] [(.int 16)]) tz
    refine XS.goto X0.here hx rfl (pc0 := 6) (pc' := 10) rfl (hb hby own_d5_6) (by decide) (by decide) ?_
    exact kz
  obtain ⟨fs, hr, hrun, hended, hW, hsame⟩ := X0.leave (v := some (.int (16 : Int32))) (fun h => by rw [Bd.returns] at h; cases h)
  refine own_of ⟨_, _, ?_, hrun, hended, _, _, rfl, ?_, ⟨_, rfl⟩, hW, hsame.mono (by decide) (by decide)⟩
  · show sT p e below s₁ (mkF m 10 #[iv 16, iv 8] [(.int 16)]) _
    exact own_retI X0 hx Bd.returns (hb hby own_d5_10) hr
  · show Q5 Z  h0 n0 _ s₁.heap _
    rw [e0]
    exact ⟨rfl, N0, rfl⟩
theorem own_pn_java_lang_Integer : plainName "java/lang/Integer" = true := by first | (simp [plainName, overriddenIn]; done) | decide +kernel
theorem own_ef_7 (m : MethodId) (x0 : Int32) : entryFrame m #[(.int x0)] 2 = mkF m 0 #[iv x0, .unset] [] := by first | (simp [entryFrame, mkF, argsToLocals, Value.category]; done) | rfl
def Q7 (Z : State)  (h0 : Heap) (n0 : Nat) (v : Option Value) (h : Heap) (L : List Loc) : Prop := v = some (.int (28 : Int32)) ∧ Fr n0 L ∧ h = h0
theorem own_d7_0 : decode jdk_33_method_47_code 0 = .ok (.iload_n 0, 1) := by decide +kernel
theorem own_d7_1 : decode jdk_33_method_47_code 1 = .ok (.ifCond .gt 14, 3) := by decide +kernel
theorem own_d7_15 : decode jdk_33_method_47_code 15 = .ok (.bipush 31, 2) := by decide +kernel
theorem own_d7_17 : decode jdk_33_method_47_code 17 = .ok (.istore_n 1, 1) := by decide +kernel
theorem own_d7_18 : decode jdk_33_method_47_code 18 = .ok (.iload_n 0, 1) := by decide +kernel
theorem own_d7_19 : decode jdk_33_method_47_code 19 = .ok (.ldc_w 264, 3) := by decide +kernel
theorem own_d7_22 : decode jdk_33_method_47_code 22 = .ok (.if_icmp .lt 11, 3) := by decide +kernel
theorem own_d7_33 : decode jdk_33_method_47_code 33 = .ok (.iload_n 0, 1) := by decide +kernel
theorem own_d7_34 : decode jdk_33_method_47_code 34 = .ok (.sipush 256, 3) := by decide +kernel
theorem own_d7_37 : decode jdk_33_method_47_code 37 = .ok (.if_icmp .lt 11, 3) := by decide +kernel
theorem own_d7_48 : decode jdk_33_method_47_code 48 = .ok (.iload_n 0, 1) := by decide +kernel
theorem own_d7_49 : decode jdk_33_method_47_code 49 = .ok (.bipush 16, 2) := by decide +kernel
theorem own_d7_51 : decode jdk_33_method_47_code 51 = .ok (.if_icmp .lt 10, 3) := by decide +kernel
theorem own_d7_61 : decode jdk_33_method_47_code 61 = .ok (.iload_n 0, 1) := by decide +kernel
theorem own_d7_62 : decode jdk_33_method_47_code 62 = .ok (.iconst 4, 1) := by decide +kernel
theorem own_d7_63 : decode jdk_33_method_47_code 63 = .ok (.if_icmp .lt 10, 3) := by decide +kernel
theorem own_d7_66 : decode jdk_33_method_47_code 66 = .ok (.iinc 1 (-2), 3) := by decide +kernel
theorem own_d7_69 : decode jdk_33_method_47_code 69 = .ok (.iload_n 0, 1) := by decide +kernel
theorem own_d7_70 : decode jdk_33_method_47_code 70 = .ok (.iconst 2, 1) := by decide +kernel
theorem own_d7_71 : decode jdk_33_method_47_code 71 = .ok (.iushr, 1) := by decide +kernel
theorem own_d7_72 : decode jdk_33_method_47_code 72 = .ok (.istore_n 0, 1) := by decide +kernel
theorem own_d7_73 : decode jdk_33_method_47_code 73 = .ok (.iload_n 1, 1) := by decide +kernel
theorem own_d7_74 : decode jdk_33_method_47_code 74 = .ok (.iload_n 0, 1) := by decide +kernel
theorem own_d7_75 : decode jdk_33_method_47_code 75 = .ok (.iconst 1, 1) := by decide +kernel
theorem own_d7_76 : decode jdk_33_method_47_code 76 = .ok (.iushr, 1) := by decide +kernel
theorem own_d7_77 : decode jdk_33_method_47_code 77 = .ok (.isub, 1) := by decide +kernel
theorem own_d7_78 : decode jdk_33_method_47_code 78 = .ok (.ireturn, 1) := by decide +kernel
set_option maxRecDepth 65536 in
set_option maxHeartbeats 40000000 in
theorem rm7 (l : Launch) (Z : State) (a0 : Array Value) (hw : ∀ d ∈ tables_1, d.before a0 Z = true) (ws : List Jvm.Cond)  (h0 : Heap) (n0 : Nat) (O0 : Old Z n0 h0) :
    MetFree l (⟨"java/lang/Integer", "numberOfLeadingZeros", "(I)I"⟩ : MethodName) (head1 (Jvm.Cond.code (⟨"java/lang/Integer", "numberOfLeadingZeros", "(I)I"⟩ : MethodName) jdk_33_method_47_code 2 (some .int) :: ws) ({ frames := 0, cells := 0, slots := 0, locals := 0 } : Room)) (fun a U => a = #[(.int (15 : Int32))] ∧ Z.Warmed39 U.vm ∧ U.heap = h0) (fun _ _ _ _ _ => True) (fun _ U o U' => ∃ v L, o = .returned v ∧ Q7 Z  h0 n0 v U'.heap L ∧ FrameEnd U o U' L ({ frames := 0, cells := 0, slots := 0, locals := 0 } : Room).cells ({ frames := 0, cells := 0, slots := 0, locals := 0 } : Room).slots) := by
  refine MetFree.of_bodySF (plainFor_of_name own_pn_java_lang_Integer) hisR ?_
  intro p e s m args below meth c s₁ Bd hml0 hP hK
  obtain ⟨rfl, hZ, hh⟩ := hP
  have hx := Bd.exec
  have hby := Bd.bytes
  have hml : c.maxLocals = 2 := hml0
  have hown : s.vm.findClass "java/lang/Integer" = some m.cls := findClass_of_methodNamed Bd.named
  have hnm := (name_of_methodNamed Bd.named Bd.method).1
  have X0 : Stand p l e ({ frames := 0, cells := 0, slots := 0, locals := 0 } : Room) s m #[(.int (15 : Int32))] below meth c s₁ [] 0 0 := Stand.of_body Bd
  have e0 : s₁.heap = h0 := by rw [← hh, Bd.state]; rfl
  have N0 := Fr.nil n0
  change Go p.tables e below _ _
  refine own_on (B := s₁.setTop (mkF m 0 #[iv 15, un] [])) (fun tz kz => castTop (own_ef_7 m (15 : Int32)) kz) ?_
  refine own_on (B := s₁.setTop (mkF m 78 #[iv 3, iv 29] [(.int 28)])) (fun tz kz => ?_) ?_
  · show sT p e below s₁ (mkF m 0 #[iv 15, un] []) tz
    refine XS.iloadN X0.here hx rfl (hb hby own_d7_0) rfl ?_
    show sT p e below s₁ (mkF m 1 #[iv 15, un] [(.int 15)]) tz
    refine XS.ifYes X0.here hx rfl (pc0 := 1) (pc' := 15) rfl (hb hby own_d7_1) rfl ((if0 _ _).trans (tlt (by decide : (0 : Int32) < (15 : Int32))).2.2.1) (by decide) (by decide) ?_
    show sT p e below s₁ (mkF m 15 #[iv 15, un] []) tz
    refine XS.bipush X0.here hx rfl (hb hby own_d7_15) ?_
    show sT p e below s₁ (mkF m 17 #[iv 15, un] [(.int 31)]) tz
    refine XS.istoreN X0.here hx rfl (hb hby own_d7_17) rfl (l' := #[iv 15, iv 31]) rfl ?_
    show sT p e below s₁ (mkF m 18 #[iv 15, iv 31] []) tz
    refine XS.iloadN X0.here hx rfl (hb hby own_d7_18) rfl ?_
    show sT p e below s₁ (mkF m 19 #[iv 15, iv 31] [(.int 15)]) tz
    refine X0.ldcWInt hx hown (mvT hZ (own_w hw 41 rfl)) (g := (mkF m 19 #[iv 15, iv 31] [(.int 15)])) rfl (hb hby own_d7_19) _ ?_
    show sT p e below s₁ (mkF m 22 #[iv 15, iv 31] [(.int 65536), (.int 15)]) tz
    refine XS.icmpYes X0.here hx rfl (pc0 := 22) (pc' := 33) rfl (hb hby own_d7_22) rfl (tlt (by decide : (15 : Int32) < (65536 : Int32))).1 (by decide) (by decide) ?_
    show sT p e below s₁ (mkF m 33 #[iv 15, iv 31] []) tz
    refine XS.iloadN X0.here hx rfl (hb hby own_d7_33) rfl ?_
    show sT p e below s₁ (mkF m 34 #[iv 15, iv 31] [(.int 15)]) tz
    refine XS.sipush X0.here hx rfl (hb hby own_d7_34) ?_
    show sT p e below s₁ (mkF m 37 #[iv 15, iv 31] [(.int 256), (.int 15)]) tz
    refine XS.icmpYes X0.here hx rfl (pc0 := 37) (pc' := 48) rfl (hb hby own_d7_37) rfl (tlt (by decide : (15 : Int32) < (256 : Int32))).1 (by decide) (by decide) ?_
    show sT p e below s₁ (mkF m 48 #[iv 15, iv 31] []) tz
    refine XS.iloadN X0.here hx rfl (hb hby own_d7_48) rfl ?_
    show sT p e below s₁ (mkF m 49 #[iv 15, iv 31] [(.int 15)]) tz
    refine XS.bipush X0.here hx rfl (hb hby own_d7_49) ?_
    show sT p e below s₁ (mkF m 51 #[iv 15, iv 31] [(.int 16), (.int 15)]) tz
    refine XS.icmpYes X0.here hx rfl (pc0 := 51) (pc' := 61) rfl (hb hby own_d7_51) rfl (tlt (by decide : (15 : Int32) < (16 : Int32))).1 (by decide) (by decide) ?_
    show sT p e below s₁ (mkF m 61 #[iv 15, iv 31] []) tz
    refine XS.iloadN X0.here hx rfl (hb hby own_d7_61) rfl ?_
    show sT p e below s₁ (mkF m 62 #[iv 15, iv 31] [(.int 15)]) tz
    refine XS.iconst X0.here hx rfl (hb hby own_d7_62) ?_
    show sT p e below s₁ (mkF m 63 #[iv 15, iv 31] [(.int 4), (.int 15)]) tz
    refine XS.icmpNo X0.here hx rfl (hb hby own_d7_63) rfl (flt (by decide : ¬ ((15 : Int32) < (4 : Int32)))).1 ?_
    show sT p e below s₁ (mkF m 66 #[iv 15, iv 31] []) tz
    refine XS.iinc X0.here hx rfl (hb hby own_d7_66) rfl (l' := #[iv 15, iv 29]) rfl ?_
    show sT p e below s₁ (mkF m 69 #[iv 15, iv 29] []) tz
    refine XS.iloadN X0.here hx rfl (hb hby own_d7_69) rfl ?_
    show sT p e below s₁ (mkF m 70 #[iv 15, iv 29] [(.int 15)]) tz
    refine XS.iconst X0.here hx rfl (hb hby own_d7_70) ?_
    show sT p e below s₁ (mkF m 71 #[iv 15, iv 29] [(.int 2), (.int 15)]) tz
    refine XS.iushr X0.here hx rfl (hb hby own_d7_71) rfl ?_
    show sT p e below s₁ (mkF m 72 #[iv 15, iv 29] [(.int 3)]) tz
    refine XS.istoreN X0.here hx rfl (hb hby own_d7_72) rfl (l' := #[iv 3, iv 29]) rfl ?_
    show sT p e below s₁ (mkF m 73 #[iv 3, iv 29] []) tz
    refine XS.iloadN X0.here hx rfl (hb hby own_d7_73) rfl ?_
    show sT p e below s₁ (mkF m 74 #[iv 3, iv 29] [(.int 29)]) tz
    refine XS.iloadN X0.here hx rfl (hb hby own_d7_74) rfl ?_
    show sT p e below s₁ (mkF m 75 #[iv 3, iv 29] [(.int 3), (.int 29)]) tz
    refine XS.iconst X0.here hx rfl (hb hby own_d7_75) ?_
    show sT p e below s₁ (mkF m 76 #[iv 3, iv 29] [(.int 1), (.int 3), (.int 29)]) tz
    refine XS.iushr X0.here hx rfl (hb hby own_d7_76) rfl ?_
    show sT p e below s₁ (mkF m 77 #[iv 3, iv 29] [(.int 1), (.int 29)]) tz
    refine XS.isub X0.here hx rfl (hb hby own_d7_77) rfl ?_
    exact kz
  obtain ⟨fs, hr, hrun, hended, hW, hsame⟩ := X0.leave (v := some (.int (28 : Int32))) (fun h => by rw [Bd.returns] at h; cases h)
  refine own_of ⟨_, _, ?_, hrun, hended, _, _, rfl, ?_, ⟨_, rfl⟩, hW, hsame.mono (by decide) (by decide)⟩
  · show sT p e below s₁ (mkF m 78 #[iv 3, iv 29] [(.int 28)]) _
    exact own_retI X0 hx Bd.returns (hb hby own_d7_78) hr
  · show Q7 Z  h0 n0 _ s₁.heap _
    rw [e0]
    exact ⟨rfl, N0, rfl⟩
theorem own_ef_6 (m : MethodId) (x0 : Int32) : entryFrame m #[(.int x0)] 1 = mkF m 0 #[iv x0] [] := by first | (simp [entryFrame, mkF, argsToLocals, Value.category]; done) | rfl
def Q6 (Z : State)  (h0 : Heap) (n0 : Nat) (v : Option Value) (h : Heap) (L : List Loc) : Prop := v = some (.int (8 : Int32)) ∧ Fr n0 L ∧ h = h0
theorem own_d6_0 : decode jdk_33_method_45_code 0 = .ok (.iload_n 0, 1) := by decide +kernel
theorem own_d6_1 : decode jdk_33_method_45_code 1 = .ok (.ldc 127, 2) := by decide +kernel
theorem own_d6_3 : decode jdk_33_method_45_code 3 = .ok (.iload_n 0, 1) := by decide +kernel
theorem own_pd0 : parseMethodDescriptor "(I)I" = some ⟨[.int], some .int⟩ := by decide +kernel
theorem own_d6_4 : decode jdk_33_method_45_code 4 = .ok (.invokestatic 51, 3) := by decide +kernel
theorem own_d6_7 : decode jdk_33_method_45_code 7 = .ok (.iushr, 1) := by decide +kernel
theorem own_d6_8 : decode jdk_33_method_45_code 8 = .ok (.iand, 1) := by decide +kernel
theorem own_d6_9 : decode jdk_33_method_45_code 9 = .ok (.ireturn, 1) := by decide +kernel
set_option maxRecDepth 65536 in
set_option maxHeartbeats 40000000 in
theorem rm6 (l : Launch) (Z : State) (a0 : Array Value) (hw : ∀ d ∈ tables_1, d.before a0 Z = true) (ws : List Jvm.Cond)  (h0 : Heap) (n0 : Nat) (O0 : Old Z n0 h0) :
    MetFree l (⟨"java/lang/Integer", "highestOneBit", "(I)I"⟩ : MethodName) (head1 (Jvm.Cond.code (⟨"java/lang/Integer", "highestOneBit", "(I)I"⟩ : MethodName) jdk_33_method_45_code 1 (some .int) :: ws) ({ frames := 1, cells := 0, slots := 0, locals := 16 } : Room)) (fun a U => a = #[(.int (15 : Int32))] ∧ Z.Warmed39 U.vm ∧ U.heap = h0) (fun _ _ _ _ _ => True) (fun _ U o U' => ∃ v L, o = .returned v ∧ Q6 Z  h0 n0 v U'.heap L ∧ FrameEnd U o U' L ({ frames := 1, cells := 0, slots := 0, locals := 16 } : Room).cells ({ frames := 1, cells := 0, slots := 0, locals := 16 } : Room).slots) := by
  refine MetFree.of_bodySF (plainFor_of_name own_pn_java_lang_Integer) hisR ?_
  intro p e s m args below meth c s₁ Bd hml0 hP hK
  obtain ⟨rfl, hZ, hh⟩ := hP
  have hx := Bd.exec
  have hby := Bd.bytes
  have hml : c.maxLocals = 1 := hml0
  have hown : s.vm.findClass "java/lang/Integer" = some m.cls := findClass_of_methodNamed Bd.named
  have hnm := (name_of_methodNamed Bd.named Bd.method).1
  have X0 : Stand p l e ({ frames := 1, cells := 0, slots := 0, locals := 16 } : Room) s m #[(.int (15 : Int32))] below meth c s₁ [] 0 0 := Stand.of_body Bd
  have e0 : s₁.heap = h0 := by rw [← hh, Bd.state]; rfl
  have N0 := Fr.nil n0
  change Go p.tables e below _ _
  refine own_on (B := s₁.setTop (mkF m 0 #[iv 15] [])) (fun tz kz => castTop (own_ef_6 m (15 : Int32)) kz) ?_
  refine own_on (B := s₁.setTop (mkF m 4 #[iv 15] [(.int 15), (.int (-2147483648 : Int32)), (.int 15)])) (fun tz kz => ?_) ?_
  · show sT p e below s₁ (mkF m 0 #[iv 15] []) tz
    refine XS.iloadN X0.here hx rfl (hb hby own_d6_0) rfl ?_
    show sT p e below s₁ (mkF m 1 #[iv 15] [(.int 15)]) tz
    refine X0.ldcInt hx hown (mvT hZ (own_w hw 37 rfl)) (g := (mkF m 1 #[iv 15] [(.int 15)])) rfl (hb hby own_d6_1) _ ?_
    show sT p e below s₁ (mkF m 3 #[iv 15] [(.int (-2147483648 : Int32)), (.int 15)]) tz
    refine XS.iloadN X0.here hx rfl (hb hby own_d6_3) rfl ?_
    exact kz
  obtain ⟨_, _, ⟨T21, L21, k21, n21⟩, -, X21, ⟨Lc21, hQ21, l21, y21, z21⟩, st21⟩ := Jvm.LawKit.callS X0 hx (y := (⟨"java/lang/Integer", "numberOfLeadingZeros", "(I)I"⟩ : MethodName)) hown (mvT hZ (own_w hw 38 rfl)) (mvT hZ (own_w hw 39 rfl)) (mvT hZ (own_w hw 35 rfl)) (mvT hZ (own_w hw 40 rfl)) (by decide) (backOf (W := 2) (rm7 l Z a0 hw []   h0 n0 O0 ) hZ (own_w hw 40 rfl) (own_w hw 35 rfl) (by decide) (by decide)) (g := (mkF m 4 #[iv 15] [(.int 15), (.int (-2147483648 : Int32)), (.int 15)])) rfl (by rw [hml]; rfl) (argsL := [(.int (15 : Int32))]) (rest := [(.int (-2147483648 : Int32)), (.int (15 : Int32))]) (lenOf own_pd0 rfl) rfl (by show 2 * 0 + _ ≤ _; exact Nat.le_of_eq rfl) (hb hby own_d6_4) (fun _ _ => ⟨rfl, e0, (by decide : 0 + 0 ≤ _), (by decide : 0 + 0 ≤ _)⟩)
  dsimp only [Pt.U, Pt.locs, Pt.cells, Pt.slots] at X21 l21 y21 z21 st21 hQ21
  subst l21 y21 z21
  obtain ⟨rfl, Nq21, e21⟩ := hQ21
  have N21 := Fr.app N0 Nq21
  refine own_on (B := T21.setTop (mkF m 7 #[iv 15] [(.int 28), (.int (-2147483648 : Int32)), (.int 15)])) (fun tz kz => st21 _ kz) ?_
  refine own_on (B := T21.setTop (mkF m 9 #[iv 15] [(.int 8)])) (fun tz kz => ?_) ?_
  · show sT p e below T21 (mkF m 7 #[iv 15] [(.int 28), (.int (-2147483648 : Int32)), (.int 15)]) tz
    refine XS.iushr X21.here hx rfl (hb hby own_d6_7) rfl ?_
    show sT p e below T21 (mkF m 8 #[iv 15] [(.int 8), (.int 15)]) tz
    refine XS.iand X21.here hx rfl (hb hby own_d6_8) rfl ?_
    exact kz
  obtain ⟨fs, hr, hrun, hended, hW, hsame⟩ := X21.leave (v := some (.int (8 : Int32))) (fun h => by rw [Bd.returns] at h; cases h)
  refine own_of ⟨_, _, ?_, hrun, hended, _, _, rfl, ?_, ⟨_, rfl⟩, hW, hsame.mono (by decide) (by decide)⟩
  · show sT p e below T21 (mkF m 9 #[iv 15] [(.int 8)]) _
    exact own_retI X21 hx Bd.returns (hb hby own_d6_9) hr
  · show Q6 Z  h0 n0 _ T21.heap _
    rw [e21]
    exact ⟨rfl, N21, rfl⟩
theorem own_pn_java_util_Arrays : plainName "java/util/Arrays" = true := by first | (simp [plainName, overriddenIn]; done) | decide +kernel
theorem own_ef_9 (m : MethodId) (x0 : Addr) (x1 : Int32) : entryFrame m #[(.ref x0), (.int x1)] 4 = mkF m 0 #[rv x0, iv x1, .unset, .unset] [] := by first | (simp [entryFrame, mkF, argsToLocals, Value.category]; done) | rfl
def Q9 (Z : State) (u0 : Addr) (ks : ClassId) (h0 : Heap) (n0 : Nat) (v : Option Value) (h : Heap) (L : List Loc) : Prop := v = none ∧ Fr n0 L ∧ Keep h0 h [u0] ∧ Arv Z h u0 ks .int (32 : Int32) (List.replicate 32 (.int (-1 : Int32))) (.int 0)
theorem own_d9_0 : decode jdk_65_method_103_code 0 = .ok (.iconst 0, 1) := by decide +kernel
theorem own_d9_1 : decode jdk_65_method_103_code 1 = .ok (.istore_n 2, 1) := by decide +kernel
theorem own_d9_2 : decode jdk_65_method_103_code 2 = .ok (.aload_n 0, 1) := by decide +kernel
theorem own_d9_3 : decode jdk_65_method_103_code 3 = .ok (.arraylength, 1) := by decide +kernel
theorem own_d9_4 : decode jdk_65_method_103_code 4 = .ok (.istore_n 3, 1) := by decide +kernel
theorem own_d9_5 : decode jdk_65_method_103_code 5 = .ok (.iload_n 2, 1) := by decide +kernel
theorem own_d9_6 : decode jdk_65_method_103_code 6 = .ok (.iload_n 3, 1) := by decide +kernel
theorem own_d9_7 : decode jdk_65_method_103_code 7 = .ok (.if_icmp .ge 13, 3) := by decide +kernel
theorem own_d9_10 : decode jdk_65_method_103_code 10 = .ok (.aload_n 0, 1) := by decide +kernel
theorem own_d9_11 : decode jdk_65_method_103_code 11 = .ok (.iload_n 2, 1) := by decide +kernel
theorem own_d9_12 : decode jdk_65_method_103_code 12 = .ok (.iload_n 1, 1) := by decide +kernel
theorem own_d9_13 : decode jdk_65_method_103_code 13 = .ok (.iastore, 1) := by decide +kernel
theorem own_d9_14 : decode jdk_65_method_103_code 14 = .ok (.iinc 2 1, 3) := by decide +kernel
theorem own_d9_17 : decode jdk_65_method_103_code 17 = .ok (.goto (-12), 3) := by decide +kernel
theorem own_d9_20 : decode jdk_65_method_103_code 20 = .ok (.return_, 1) := by decide +kernel
set_option maxRecDepth 65536 in
set_option maxHeartbeats 40000000 in
theorem rm9 (l : Launch) (Z : State) (a0 : Array Value) (hw : ∀ d ∈ tables_1, d.before a0 Z = true) (ws : List Jvm.Cond) (u0 : Addr) (ks : ClassId) (h0 : Heap) (n0 : Nat) (O0 : Old Z n0 h0) (Va : Arv Z h0 u0 ks .int (32 : Int32) [(.int (0 : Int32)), (.int (0 : Int32)), (.int (0 : Int32)), (.int (0 : Int32)), (.int (0 : Int32)), (.int (0 : Int32)), (.int (0 : Int32)), (.int (0 : Int32)), (.int (0 : Int32)), (.int (0 : Int32)), (.int (0 : Int32)), (.int (0 : Int32)), (.int (0 : Int32)), (.int (0 : Int32)), (.int (0 : Int32)), (.int (0 : Int32)), (.int (0 : Int32)), (.int (0 : Int32)), (.int (0 : Int32)), (.int (0 : Int32)), (.int (0 : Int32)), (.int (0 : Int32)), (.int (0 : Int32)), (.int (0 : Int32)), (.int (0 : Int32)), (.int (0 : Int32)), (.int (0 : Int32)), (.int (0 : Int32)), (.int (0 : Int32)), (.int (0 : Int32)), (.int (0 : Int32)), (.int (0 : Int32))] (.int 0)) (g_u0 : n0 ≤ u0) :
    MetFree l (⟨"java/util/Arrays", "fill", "([II)V"⟩ : MethodName) (head1 (Jvm.Cond.code (⟨"java/util/Arrays", "fill", "([II)V"⟩ : MethodName) jdk_65_method_103_code 4 none :: ws) ({ frames := 0, cells := 0, slots := 0, locals := 0 } : Room)) (fun a U => a = #[(.ref u0), (.int (-1 : Int32))] ∧ Z.Warmed39 U.vm ∧ U.heap = h0) (fun _ _ _ _ _ => True) (fun _ U o U' => ∃ v L, o = .returned v ∧ Q9 Z u0 ks h0 n0 v U'.heap L ∧ FrameEnd U o U' L ({ frames := 0, cells := 0, slots := 0, locals := 0 } : Room).cells ({ frames := 0, cells := 0, slots := 0, locals := 0 } : Room).slots) := by
  refine MetFree.of_bodySF (plainFor_of_name own_pn_java_util_Arrays) hisR ?_
  intro p e s m args below meth c s₁ Bd hml0 hP hK
  obtain ⟨rfl, hZ, hh⟩ := hP
  have hx := Bd.exec
  have hby := Bd.bytes
  have hml : c.maxLocals = 4 := hml0
  have hown : s.vm.findClass "java/util/Arrays" = some m.cls := findClass_of_methodNamed Bd.named
  have hnm := (name_of_methodNamed Bd.named Bd.method).1
  have X0 : Stand p l e ({ frames := 0, cells := 0, slots := 0, locals := 0 } : Room) s m #[(.ref u0), (.int (-1 : Int32))] below meth c s₁ [] 0 0 := Stand.of_body Bd
  have e0 : s₁.heap = h0 := by rw [← hh, Bd.state]; rfl
  have N0 := Fr.nil n0
  change Go p.tables e below _ _
  refine own_on (B := s₁.setTop (mkF m 0 #[rv u0, iv (-1 : Int32), un, un] [])) (fun tz kz => castTop (own_ef_9 m u0 (-1 : Int32)) kz) ?_
  refine own_on (B := s₁.setTop (mkF m 3 #[rv u0, iv (-1 : Int32), iv 0, un] [(.ref u0)])) (fun tz kz => ?_) ?_
  · show sT p e below s₁ (mkF m 0 #[rv u0, iv (-1 : Int32), un, un] []) tz
    refine XS.iconst X0.here hx rfl (hb hby own_d9_0) ?_
    show sT p e below s₁ (mkF m 1 #[rv u0, iv (-1 : Int32), un, un] [(.int 0)]) tz
    refine XS.istoreN X0.here hx rfl (hb hby own_d9_1) rfl (l' := #[rv u0, iv (-1 : Int32), iv 0, un]) rfl ?_
    show sT p e below s₁ (mkF m 2 #[rv u0, iv (-1 : Int32), iv 0, un] []) tz
    refine XS.aloadN X0.here hx rfl (hb hby own_d9_2) rfl rfl ?_
    exact kz
  obtain ⟨cl21, Ar21, q21, S21, M21, H21, G21⟩ := id Va
  refine own_on (B := s₁.setTop (mkF m 13 #[rv u0, iv (-1 : Int32), iv 0, iv 32] [(.int (-1 : Int32)), (.int 0), (.ref u0)])) (fun tz kz => ?_) ?_
  · show sT p e below s₁ (mkF m 3 #[rv u0, iv (-1 : Int32), iv 0, un] [(.ref u0)]) tz
    refine X0.arraylength hx (by rw [e0]; exact Ar21.1) (State.isArrayOf_alike hZ.alike Ar21.2.1) (g := (mkF m 3 #[rv u0, iv (-1 : Int32), iv 0, un] [(.ref u0)])) rfl rfl (hb hby own_d9_3) _ ?_
    rw [len_of S21 M21]
    show sT p e below s₁ (mkF m 4 #[rv u0, iv (-1 : Int32), iv 0, un] [(.int 32)]) tz
    refine XS.istoreN X0.here hx rfl (hb hby own_d9_4) rfl (l' := #[rv u0, iv (-1 : Int32), iv 0, iv 32]) rfl ?_
    show sT p e below s₁ (mkF m 5 #[rv u0, iv (-1 : Int32), iv 0, iv 32] []) tz
    refine XS.iloadN X0.here hx rfl (hb hby own_d9_5) rfl ?_
    show sT p e below s₁ (mkF m 6 #[rv u0, iv (-1 : Int32), iv 0, iv 32] [(.int 0)]) tz
    refine XS.iloadN X0.here hx rfl (hb hby own_d9_6) rfl ?_
    show sT p e below s₁ (mkF m 7 #[rv u0, iv (-1 : Int32), iv 0, iv 32] [(.int 32), (.int 0)]) tz
    refine XS.icmpNo X0.here hx rfl (hb hby own_d9_7) rfl (tlt (by decide : (0 : Int32) < (32 : Int32))).2.1 ?_
    show sT p e below s₁ (mkF m 10 #[rv u0, iv (-1 : Int32), iv 0, iv 32] []) tz
    refine XS.aloadN X0.here hx rfl (hb hby own_d9_10) rfl rfl ?_
    show sT p e below s₁ (mkF m 11 #[rv u0, iv (-1 : Int32), iv 0, iv 32] [(.ref u0)]) tz
    refine XS.iloadN X0.here hx rfl (hb hby own_d9_11) rfl ?_
    show sT p e below s₁ (mkF m 12 #[rv u0, iv (-1 : Int32), iv 0, iv 32] [(.int 0), (.ref u0)]) tz
    refine XS.iloadN X0.here hx rfl (hb hby own_d9_12) rfl ?_
    exact kz
  obtain ⟨cl22, Ar22, q22, S22, M22, H22, G22⟩ := id Va
  have hin23 : ¬ ((0 : Int32) < 0 ∨ cl22.slots.size ≤ ((0 : Int32)).toNatClampNeg) := inb_of S22 ⟨by decide, by decide⟩
  obtain ⟨T23, h23, X23, e23, W23, st23⟩ := stI X0 hx hZ e0 Ar22 (j := (0 : Int32)) hin23 (g := (mkF m 13 #[rv u0, iv (-1 : Int32), iv 0, iv 32] [(.int (-1 : Int32)), (.int 0), (.ref u0)])) rfl rfl (hb hby own_d9_13)
  have V23 : Arv Z h23 u0 ks .int (32 : Int32) [(.int (-1 : Int32)), (.int (0 : Int32)), (.int (0 : Int32)), (.int (0 : Int32)), (.int (0 : Int32)), (.int (0 : Int32)), (.int (0 : Int32)), (.int (0 : Int32)), (.int (0 : Int32)), (.int (0 : Int32)), (.int (0 : Int32)), (.int (0 : Int32)), (.int (0 : Int32)), (.int (0 : Int32)), (.int (0 : Int32)), (.int (0 : Int32)), (.int (0 : Int32)), (.int (0 : Int32)), (.int (0 : Int32)), (.int (0 : Int32)), (.int (0 : Int32)), (.int (0 : Int32)), (.int (0 : Int32)), (.int (0 : Int32)), (.int (0 : Int32)), (.int (0 : Int32)), (.int (0 : Int32)), (.int (0 : Int32)), (.int (0 : Int32)), (.int (0 : Int32)), (.int (0 : Int32)), (.int (0 : Int32))] (.int 0) := Arv.set Ar22 q22 S22 M22 H22 G22 rfl W23 0 rfl (Nat.le_of_ble_eq_true rfl)
  have N23 := Fr.snoc X23 N0 g_u0
  have O24 := O0.wr W23 g_u0
  have K24 : Keep h0 h23 [u0] := (Keep.refl h0 [u0]).wr W23 (Or.inl (List.mem_of_getElem? (i := 0) rfl))
  refine own_on (B := T23.setTop (mkF m 14 #[rv u0, iv (-1 : Int32), iv 0, iv 32] [])) (fun tz kz => st23 _ kz) ?_
  refine own_on (B := T23.setTop (mkF m 13 #[rv u0, iv (-1 : Int32), iv 1, iv 32] [(.int (-1 : Int32)), (.int 1), (.ref u0)])) (fun tz kz => ?_) ?_
  · show sT p e below T23 (mkF m 14 #[rv u0, iv (-1 : Int32), iv 0, iv 32] []) tz
    refine XS.iinc X23.here hx rfl (hb hby own_d9_14) rfl (l' := #[rv u0, iv (-1 : Int32), iv 1, iv 32]) rfl ?_
    show sT p e below T23 (mkF m 17 #[rv u0, iv (-1 : Int32), iv 1, iv 32] []) tz
    refine XS.goto X23.here hx rfl (pc0 := 17) (pc' := 5) rfl (hb hby own_d9_17) (by decide) (by decide) ?_
    show sT p e below T23 (mkF m 5 #[rv u0, iv (-1 : Int32), iv 1, iv 32] []) tz
    refine XS.iloadN X23.here hx rfl (hb hby own_d9_5) rfl ?_
    show sT p e below T23 (mkF m 6 #[rv u0, iv (-1 : Int32), iv 1, iv 32] [(.int 1)]) tz
    refine XS.iloadN X23.here hx rfl (hb hby own_d9_6) rfl ?_
    show sT p e below T23 (mkF m 7 #[rv u0, iv (-1 : Int32), iv 1, iv 32] [(.int 32), (.int 1)]) tz
    refine XS.icmpNo X23.here hx rfl (hb hby own_d9_7) rfl (tlt (by decide : (1 : Int32) < (32 : Int32))).2.1 ?_
    show sT p e below T23 (mkF m 10 #[rv u0, iv (-1 : Int32), iv 1, iv 32] []) tz
    refine XS.aloadN X23.here hx rfl (hb hby own_d9_10) rfl rfl ?_
    show sT p e below T23 (mkF m 11 #[rv u0, iv (-1 : Int32), iv 1, iv 32] [(.ref u0)]) tz
    refine XS.iloadN X23.here hx rfl (hb hby own_d9_11) rfl ?_
    show sT p e below T23 (mkF m 12 #[rv u0, iv (-1 : Int32), iv 1, iv 32] [(.int 1), (.ref u0)]) tz
    refine XS.iloadN X23.here hx rfl (hb hby own_d9_12) rfl ?_
    exact kz
  obtain ⟨cl25, Ar25, q25, S25, M25, H25, G25⟩ := id V23
  have hin26 : ¬ ((1 : Int32) < 0 ∨ cl25.slots.size ≤ ((1 : Int32)).toNatClampNeg) := inb_of S25 ⟨by decide, by decide⟩
  obtain ⟨T26, h26, X26, e26, W26, st26⟩ := stI X23 hx hZ e23 Ar25 (j := (1 : Int32)) hin26 (g := (mkF m 13 #[rv u0, iv (-1 : Int32), iv 1, iv 32] [(.int (-1 : Int32)), (.int 1), (.ref u0)])) rfl rfl (hb hby own_d9_13)
  have V26 : Arv Z h26 u0 ks .int (32 : Int32) [(.int (-1 : Int32)), (.int (-1 : Int32)), (.int (0 : Int32)), (.int (0 : Int32)), (.int (0 : Int32)), (.int (0 : Int32)), (.int (0 : Int32)), (.int (0 : Int32)), (.int (0 : Int32)), (.int (0 : Int32)), (.int (0 : Int32)), (.int (0 : Int32)), (.int (0 : Int32)), (.int (0 : Int32)), (.int (0 : Int32)), (.int (0 : Int32)), (.int (0 : Int32)), (.int (0 : Int32)), (.int (0 : Int32)), (.int (0 : Int32)), (.int (0 : Int32)), (.int (0 : Int32)), (.int (0 : Int32)), (.int (0 : Int32)), (.int (0 : Int32)), (.int (0 : Int32)), (.int (0 : Int32)), (.int (0 : Int32)), (.int (0 : Int32)), (.int (0 : Int32)), (.int (0 : Int32)), (.int (0 : Int32))] (.int 0) := Arv.set Ar25 q25 S25 M25 H25 G25 rfl W26 1 rfl (Nat.le_of_ble_eq_true rfl)
  have N26 := Fr.snoc X26 N23 g_u0
  have O27 := O24.wr W26 g_u0
  have K27 : Keep h0 h26 [u0] := K24.wr W26 (Or.inl (List.mem_of_getElem? (i := 0) rfl))
  refine own_on (B := T26.setTop (mkF m 14 #[rv u0, iv (-1 : Int32), iv 1, iv 32] [])) (fun tz kz => st26 _ kz) ?_
  refine own_on (B := T26.setTop (mkF m 13 #[rv u0, iv (-1 : Int32), iv 2, iv 32] [(.int (-1 : Int32)), (.int 2), (.ref u0)])) (fun tz kz => ?_) ?_
  · show sT p e below T26 (mkF m 14 #[rv u0, iv (-1 : Int32), iv 1, iv 32] []) tz
    refine XS.iinc X26.here hx rfl (hb hby own_d9_14) rfl (l' := #[rv u0, iv (-1 : Int32), iv 2, iv 32]) rfl ?_
    show sT p e below T26 (mkF m 17 #[rv u0, iv (-1 : Int32), iv 2, iv 32] []) tz
    refine XS.goto X26.here hx rfl (pc0 := 17) (pc' := 5) rfl (hb hby own_d9_17) (by decide) (by decide) ?_
    show sT p e below T26 (mkF m 5 #[rv u0, iv (-1 : Int32), iv 2, iv 32] []) tz
    refine XS.iloadN X26.here hx rfl (hb hby own_d9_5) rfl ?_
    show sT p e below T26 (mkF m 6 #[rv u0, iv (-1 : Int32), iv 2, iv 32] [(.int 2)]) tz
    refine XS.iloadN X26.here hx rfl (hb hby own_d9_6) rfl ?_
    show sT p e below T26 (mkF m 7 #[rv u0, iv (-1 : Int32), iv 2, iv 32] [(.int 32), (.int 2)]) tz
    refine XS.icmpNo X26.here hx rfl (hb hby own_d9_7) rfl (tlt (by decide : (2 : Int32) < (32 : Int32))).2.1 ?_
    show sT p e below T26 (mkF m 10 #[rv u0, iv (-1 : Int32), iv 2, iv 32] []) tz
    refine XS.aloadN X26.here hx rfl (hb hby own_d9_10) rfl rfl ?_
    show sT p e below T26 (mkF m 11 #[rv u0, iv (-1 : Int32), iv 2, iv 32] [(.ref u0)]) tz
    refine XS.iloadN X26.here hx rfl (hb hby own_d9_11) rfl ?_
    show sT p e below T26 (mkF m 12 #[rv u0, iv (-1 : Int32), iv 2, iv 32] [(.int 2), (.ref u0)]) tz
    refine XS.iloadN X26.here hx rfl (hb hby own_d9_12) rfl ?_
    exact kz
  obtain ⟨cl28, Ar28, q28, S28, M28, H28, G28⟩ := id V26
  have hin29 : ¬ ((2 : Int32) < 0 ∨ cl28.slots.size ≤ ((2 : Int32)).toNatClampNeg) := inb_of S28 ⟨by decide, by decide⟩
  obtain ⟨T29, h29, X29, e29, W29, st29⟩ := stI X26 hx hZ e26 Ar28 (j := (2 : Int32)) hin29 (g := (mkF m 13 #[rv u0, iv (-1 : Int32), iv 2, iv 32] [(.int (-1 : Int32)), (.int 2), (.ref u0)])) rfl rfl (hb hby own_d9_13)
  have V29 : Arv Z h29 u0 ks .int (32 : Int32) [(.int (-1 : Int32)), (.int (-1 : Int32)), (.int (-1 : Int32)), (.int (0 : Int32)), (.int (0 : Int32)), (.int (0 : Int32)), (.int (0 : Int32)), (.int (0 : Int32)), (.int (0 : Int32)), (.int (0 : Int32)), (.int (0 : Int32)), (.int (0 : Int32)), (.int (0 : Int32)), (.int (0 : Int32)), (.int (0 : Int32)), (.int (0 : Int32)), (.int (0 : Int32)), (.int (0 : Int32)), (.int (0 : Int32)), (.int (0 : Int32)), (.int (0 : Int32)), (.int (0 : Int32)), (.int (0 : Int32)), (.int (0 : Int32)), (.int (0 : Int32)), (.int (0 : Int32)), (.int (0 : Int32)), (.int (0 : Int32)), (.int (0 : Int32)), (.int (0 : Int32)), (.int (0 : Int32)), (.int (0 : Int32))] (.int 0) := Arv.set Ar28 q28 S28 M28 H28 G28 rfl W29 2 rfl (Nat.le_of_ble_eq_true rfl)
  have N29 := Fr.snoc X29 N26 g_u0
  have O30 := O27.wr W29 g_u0
  have K30 : Keep h0 h29 [u0] := K27.wr W29 (Or.inl (List.mem_of_getElem? (i := 0) rfl))
  refine own_on (B := T29.setTop (mkF m 14 #[rv u0, iv (-1 : Int32), iv 2, iv 32] [])) (fun tz kz => st29 _ kz) ?_
  refine own_on (B := T29.setTop (mkF m 13 #[rv u0, iv (-1 : Int32), iv 3, iv 32] [(.int (-1 : Int32)), (.int 3), (.ref u0)])) (fun tz kz => ?_) ?_
  · show sT p e below T29 (mkF m 14 #[rv u0, iv (-1 : Int32), iv 2, iv 32] []) tz
    refine XS.iinc X29.here hx rfl (hb hby own_d9_14) rfl (l' := #[rv u0, iv (-1 : Int32), iv 3, iv 32]) rfl ?_
    show sT p e below T29 (mkF m 17 #[rv u0, iv (-1 : Int32), iv 3, iv 32] []) tz
    refine XS.goto X29.here hx rfl (pc0 := 17) (pc' := 5) rfl (hb hby own_d9_17) (by decide) (by decide) ?_
    show sT p e below T29 (mkF m 5 #[rv u0, iv (-1 : Int32), iv 3, iv 32] []) tz
    refine XS.iloadN X29.here hx rfl (hb hby own_d9_5) rfl ?_
    show sT p e below T29 (mkF m 6 #[rv u0, iv (-1 : Int32), iv 3, iv 32] [(.int 3)]) tz
    refine XS.iloadN X29.here hx rfl (hb hby own_d9_6) rfl ?_
    show sT p e below T29 (mkF m 7 #[rv u0, iv (-1 : Int32), iv 3, iv 32] [(.int 32), (.int 3)]) tz
    refine XS.icmpNo X29.here hx rfl (hb hby own_d9_7) rfl (tlt (by decide : (3 : Int32) < (32 : Int32))).2.1 ?_
    show sT p e below T29 (mkF m 10 #[rv u0, iv (-1 : Int32), iv 3, iv 32] []) tz
    refine XS.aloadN X29.here hx rfl (hb hby own_d9_10) rfl rfl ?_
    show sT p e below T29 (mkF m 11 #[rv u0, iv (-1 : Int32), iv 3, iv 32] [(.ref u0)]) tz
    refine XS.iloadN X29.here hx rfl (hb hby own_d9_11) rfl ?_
    show sT p e below T29 (mkF m 12 #[rv u0, iv (-1 : Int32), iv 3, iv 32] [(.int 3), (.ref u0)]) tz
    refine XS.iloadN X29.here hx rfl (hb hby own_d9_12) rfl ?_
    exact kz
  obtain ⟨cl31, Ar31, q31, S31, M31, H31, G31⟩ := id V29
  have hin32 : ¬ ((3 : Int32) < 0 ∨ cl31.slots.size ≤ ((3 : Int32)).toNatClampNeg) := inb_of S31 ⟨by decide, by decide⟩
  obtain ⟨T32, h32, X32, e32, W32, st32⟩ := stI X29 hx hZ e29 Ar31 (j := (3 : Int32)) hin32 (g := (mkF m 13 #[rv u0, iv (-1 : Int32), iv 3, iv 32] [(.int (-1 : Int32)), (.int 3), (.ref u0)])) rfl rfl (hb hby own_d9_13)
  have V32 : Arv Z h32 u0 ks .int (32 : Int32) [(.int (-1 : Int32)), (.int (-1 : Int32)), (.int (-1 : Int32)), (.int (-1 : Int32)), (.int (0 : Int32)), (.int (0 : Int32)), (.int (0 : Int32)), (.int (0 : Int32)), (.int (0 : Int32)), (.int (0 : Int32)), (.int (0 : Int32)), (.int (0 : Int32)), (.int (0 : Int32)), (.int (0 : Int32)), (.int (0 : Int32)), (.int (0 : Int32)), (.int (0 : Int32)), (.int (0 : Int32)), (.int (0 : Int32)), (.int (0 : Int32)), (.int (0 : Int32)), (.int (0 : Int32)), (.int (0 : Int32)), (.int (0 : Int32)), (.int (0 : Int32)), (.int (0 : Int32)), (.int (0 : Int32)), (.int (0 : Int32)), (.int (0 : Int32)), (.int (0 : Int32)), (.int (0 : Int32)), (.int (0 : Int32))] (.int 0) := Arv.set Ar31 q31 S31 M31 H31 G31 rfl W32 3 rfl (Nat.le_of_ble_eq_true rfl)
  have N32 := Fr.snoc X32 N29 g_u0
  have O33 := O30.wr W32 g_u0
  have K33 : Keep h0 h32 [u0] := K30.wr W32 (Or.inl (List.mem_of_getElem? (i := 0) rfl))
  refine own_on (B := T32.setTop (mkF m 14 #[rv u0, iv (-1 : Int32), iv 3, iv 32] [])) (fun tz kz => st32 _ kz) ?_
  refine own_on (B := T32.setTop (mkF m 13 #[rv u0, iv (-1 : Int32), iv 4, iv 32] [(.int (-1 : Int32)), (.int 4), (.ref u0)])) (fun tz kz => ?_) ?_
  · show sT p e below T32 (mkF m 14 #[rv u0, iv (-1 : Int32), iv 3, iv 32] []) tz
    refine XS.iinc X32.here hx rfl (hb hby own_d9_14) rfl (l' := #[rv u0, iv (-1 : Int32), iv 4, iv 32]) rfl ?_
    show sT p e below T32 (mkF m 17 #[rv u0, iv (-1 : Int32), iv 4, iv 32] []) tz
    refine XS.goto X32.here hx rfl (pc0 := 17) (pc' := 5) rfl (hb hby own_d9_17) (by decide) (by decide) ?_
    show sT p e below T32 (mkF m 5 #[rv u0, iv (-1 : Int32), iv 4, iv 32] []) tz
    refine XS.iloadN X32.here hx rfl (hb hby own_d9_5) rfl ?_
    show sT p e below T32 (mkF m 6 #[rv u0, iv (-1 : Int32), iv 4, iv 32] [(.int 4)]) tz
    refine XS.iloadN X32.here hx rfl (hb hby own_d9_6) rfl ?_
    show sT p e below T32 (mkF m 7 #[rv u0, iv (-1 : Int32), iv 4, iv 32] [(.int 32), (.int 4)]) tz
    refine XS.icmpNo X32.here hx rfl (hb hby own_d9_7) rfl (tlt (by decide : (4 : Int32) < (32 : Int32))).2.1 ?_
    show sT p e below T32 (mkF m 10 #[rv u0, iv (-1 : Int32), iv 4, iv 32] []) tz
    refine XS.aloadN X32.here hx rfl (hb hby own_d9_10) rfl rfl ?_
    show sT p e below T32 (mkF m 11 #[rv u0, iv (-1 : Int32), iv 4, iv 32] [(.ref u0)]) tz
    refine XS.iloadN X32.here hx rfl (hb hby own_d9_11) rfl ?_
    show sT p e below T32 (mkF m 12 #[rv u0, iv (-1 : Int32), iv 4, iv 32] [(.int 4), (.ref u0)]) tz
    refine XS.iloadN X32.here hx rfl (hb hby own_d9_12) rfl ?_
    exact kz
  obtain ⟨cl34, Ar34, q34, S34, M34, H34, G34⟩ := id V32
  have hin35 : ¬ ((4 : Int32) < 0 ∨ cl34.slots.size ≤ ((4 : Int32)).toNatClampNeg) := inb_of S34 ⟨by decide, by decide⟩
  obtain ⟨T35, h35, X35, e35, W35, st35⟩ := stI X32 hx hZ e32 Ar34 (j := (4 : Int32)) hin35 (g := (mkF m 13 #[rv u0, iv (-1 : Int32), iv 4, iv 32] [(.int (-1 : Int32)), (.int 4), (.ref u0)])) rfl rfl (hb hby own_d9_13)
  have V35 : Arv Z h35 u0 ks .int (32 : Int32) [(.int (-1 : Int32)), (.int (-1 : Int32)), (.int (-1 : Int32)), (.int (-1 : Int32)), (.int (-1 : Int32)), (.int (0 : Int32)), (.int (0 : Int32)), (.int (0 : Int32)), (.int (0 : Int32)), (.int (0 : Int32)), (.int (0 : Int32)), (.int (0 : Int32)), (.int (0 : Int32)), (.int (0 : Int32)), (.int (0 : Int32)), (.int (0 : Int32)), (.int (0 : Int32)), (.int (0 : Int32)), (.int (0 : Int32)), (.int (0 : Int32)), (.int (0 : Int32)), (.int (0 : Int32)), (.int (0 : Int32)), (.int (0 : Int32)), (.int (0 : Int32)), (.int (0 : Int32)), (.int (0 : Int32)), (.int (0 : Int32)), (.int (0 : Int32)), (.int (0 : Int32)), (.int (0 : Int32)), (.int (0 : Int32))] (.int 0) := Arv.set Ar34 q34 S34 M34 H34 G34 rfl W35 4 rfl (Nat.le_of_ble_eq_true rfl)
  have N35 := Fr.snoc X35 N32 g_u0
  have O36 := O33.wr W35 g_u0
  have K36 : Keep h0 h35 [u0] := K33.wr W35 (Or.inl (List.mem_of_getElem? (i := 0) rfl))
  refine own_on (B := T35.setTop (mkF m 14 #[rv u0, iv (-1 : Int32), iv 4, iv 32] [])) (fun tz kz => st35 _ kz) ?_
  refine own_on (B := T35.setTop (mkF m 13 #[rv u0, iv (-1 : Int32), iv 5, iv 32] [(.int (-1 : Int32)), (.int 5), (.ref u0)])) (fun tz kz => ?_) ?_
  · show sT p e below T35 (mkF m 14 #[rv u0, iv (-1 : Int32), iv 4, iv 32] []) tz
    refine XS.iinc X35.here hx rfl (hb hby own_d9_14) rfl (l' := #[rv u0, iv (-1 : Int32), iv 5, iv 32]) rfl ?_
    show sT p e below T35 (mkF m 17 #[rv u0, iv (-1 : Int32), iv 5, iv 32] []) tz
    refine XS.goto X35.here hx rfl (pc0 := 17) (pc' := 5) rfl (hb hby own_d9_17) (by decide) (by decide) ?_
    show sT p e below T35 (mkF m 5 #[rv u0, iv (-1 : Int32), iv 5, iv 32] []) tz
    refine XS.iloadN X35.here hx rfl (hb hby own_d9_5) rfl ?_
    show sT p e below T35 (mkF m 6 #[rv u0, iv (-1 : Int32), iv 5, iv 32] [(.int 5)]) tz
    refine XS.iloadN X35.here hx rfl (hb hby own_d9_6) rfl ?_
    show sT p e below T35 (mkF m 7 #[rv u0, iv (-1 : Int32), iv 5, iv 32] [(.int 32), (.int 5)]) tz
    refine XS.icmpNo X35.here hx rfl (hb hby own_d9_7) rfl (tlt (by decide : (5 : Int32) < (32 : Int32))).2.1 ?_
    show sT p e below T35 (mkF m 10 #[rv u0, iv (-1 : Int32), iv 5, iv 32] []) tz
    refine XS.aloadN X35.here hx rfl (hb hby own_d9_10) rfl rfl ?_
    show sT p e below T35 (mkF m 11 #[rv u0, iv (-1 : Int32), iv 5, iv 32] [(.ref u0)]) tz
    refine XS.iloadN X35.here hx rfl (hb hby own_d9_11) rfl ?_
    show sT p e below T35 (mkF m 12 #[rv u0, iv (-1 : Int32), iv 5, iv 32] [(.int 5), (.ref u0)]) tz
    refine XS.iloadN X35.here hx rfl (hb hby own_d9_12) rfl ?_
    exact kz
  obtain ⟨cl37, Ar37, q37, S37, M37, H37, G37⟩ := id V35
  have hin38 : ¬ ((5 : Int32) < 0 ∨ cl37.slots.size ≤ ((5 : Int32)).toNatClampNeg) := inb_of S37 ⟨by decide, by decide⟩
  obtain ⟨T38, h38, X38, e38, W38, st38⟩ := stI X35 hx hZ e35 Ar37 (j := (5 : Int32)) hin38 (g := (mkF m 13 #[rv u0, iv (-1 : Int32), iv 5, iv 32] [(.int (-1 : Int32)), (.int 5), (.ref u0)])) rfl rfl (hb hby own_d9_13)
  have V38 : Arv Z h38 u0 ks .int (32 : Int32) [(.int (-1 : Int32)), (.int (-1 : Int32)), (.int (-1 : Int32)), (.int (-1 : Int32)), (.int (-1 : Int32)), (.int (-1 : Int32)), (.int (0 : Int32)), (.int (0 : Int32)), (.int (0 : Int32)), (.int (0 : Int32)), (.int (0 : Int32)), (.int (0 : Int32)), (.int (0 : Int32)), (.int (0 : Int32)), (.int (0 : Int32)), (.int (0 : Int32)), (.int (0 : Int32)), (.int (0 : Int32)), (.int (0 : Int32)), (.int (0 : Int32)), (.int (0 : Int32)), (.int (0 : Int32)), (.int (0 : Int32)), (.int (0 : Int32)), (.int (0 : Int32)), (.int (0 : Int32)), (.int (0 : Int32)), (.int (0 : Int32)), (.int (0 : Int32)), (.int (0 : Int32)), (.int (0 : Int32)), (.int (0 : Int32))] (.int 0) := Arv.set Ar37 q37 S37 M37 H37 G37 rfl W38 5 rfl (Nat.le_of_ble_eq_true rfl)
  have N38 := Fr.snoc X38 N35 g_u0
  have O39 := O36.wr W38 g_u0
  have K39 : Keep h0 h38 [u0] := K36.wr W38 (Or.inl (List.mem_of_getElem? (i := 0) rfl))
  refine own_on (B := T38.setTop (mkF m 14 #[rv u0, iv (-1 : Int32), iv 5, iv 32] [])) (fun tz kz => st38 _ kz) ?_
  refine own_on (B := T38.setTop (mkF m 13 #[rv u0, iv (-1 : Int32), iv 6, iv 32] [(.int (-1 : Int32)), (.int 6), (.ref u0)])) (fun tz kz => ?_) ?_
  · show sT p e below T38 (mkF m 14 #[rv u0, iv (-1 : Int32), iv 5, iv 32] []) tz
    refine XS.iinc X38.here hx rfl (hb hby own_d9_14) rfl (l' := #[rv u0, iv (-1 : Int32), iv 6, iv 32]) rfl ?_
    show sT p e below T38 (mkF m 17 #[rv u0, iv (-1 : Int32), iv 6, iv 32] []) tz
    refine XS.goto X38.here hx rfl (pc0 := 17) (pc' := 5) rfl (hb hby own_d9_17) (by decide) (by decide) ?_
    show sT p e below T38 (mkF m 5 #[rv u0, iv (-1 : Int32), iv 6, iv 32] []) tz
    refine XS.iloadN X38.here hx rfl (hb hby own_d9_5) rfl ?_
    show sT p e below T38 (mkF m 6 #[rv u0, iv (-1 : Int32), iv 6, iv 32] [(.int 6)]) tz
    refine XS.iloadN X38.here hx rfl (hb hby own_d9_6) rfl ?_
    show sT p e below T38 (mkF m 7 #[rv u0, iv (-1 : Int32), iv 6, iv 32] [(.int 32), (.int 6)]) tz
    refine XS.icmpNo X38.here hx rfl (hb hby own_d9_7) rfl (tlt (by decide : (6 : Int32) < (32 : Int32))).2.1 ?_
    show sT p e below T38 (mkF m 10 #[rv u0, iv (-1 : Int32), iv 6, iv 32] []) tz
    refine XS.aloadN X38.here hx rfl (hb hby own_d9_10) rfl rfl ?_
    show sT p e below T38 (mkF m 11 #[rv u0, iv (-1 : Int32), iv 6, iv 32] [(.ref u0)]) tz
    refine XS.iloadN X38.here hx rfl (hb hby own_d9_11) rfl ?_
    show sT p e below T38 (mkF m 12 #[rv u0, iv (-1 : Int32), iv 6, iv 32] [(.int 6), (.ref u0)]) tz
    refine XS.iloadN X38.here hx rfl (hb hby own_d9_12) rfl ?_
    exact kz
  obtain ⟨cl40, Ar40, q40, S40, M40, H40, G40⟩ := id V38
  have hin41 : ¬ ((6 : Int32) < 0 ∨ cl40.slots.size ≤ ((6 : Int32)).toNatClampNeg) := inb_of S40 ⟨by decide, by decide⟩
  obtain ⟨T41, h41, X41, e41, W41, st41⟩ := stI X38 hx hZ e38 Ar40 (j := (6 : Int32)) hin41 (g := (mkF m 13 #[rv u0, iv (-1 : Int32), iv 6, iv 32] [(.int (-1 : Int32)), (.int 6), (.ref u0)])) rfl rfl (hb hby own_d9_13)
  have V41 : Arv Z h41 u0 ks .int (32 : Int32) [(.int (-1 : Int32)), (.int (-1 : Int32)), (.int (-1 : Int32)), (.int (-1 : Int32)), (.int (-1 : Int32)), (.int (-1 : Int32)), (.int (-1 : Int32)), (.int (0 : Int32)), (.int (0 : Int32)), (.int (0 : Int32)), (.int (0 : Int32)), (.int (0 : Int32)), (.int (0 : Int32)), (.int (0 : Int32)), (.int (0 : Int32)), (.int (0 : Int32)), (.int (0 : Int32)), (.int (0 : Int32)), (.int (0 : Int32)), (.int (0 : Int32)), (.int (0 : Int32)), (.int (0 : Int32)), (.int (0 : Int32)), (.int (0 : Int32)), (.int (0 : Int32)), (.int (0 : Int32)), (.int (0 : Int32)), (.int (0 : Int32)), (.int (0 : Int32)), (.int (0 : Int32)), (.int (0 : Int32)), (.int (0 : Int32))] (.int 0) := Arv.set Ar40 q40 S40 M40 H40 G40 rfl W41 6 rfl (Nat.le_of_ble_eq_true rfl)
  have N41 := Fr.snoc X41 N38 g_u0
  have O42 := O39.wr W41 g_u0
  have K42 : Keep h0 h41 [u0] := K39.wr W41 (Or.inl (List.mem_of_getElem? (i := 0) rfl))
  refine own_on (B := T41.setTop (mkF m 14 #[rv u0, iv (-1 : Int32), iv 6, iv 32] [])) (fun tz kz => st41 _ kz) ?_
  refine own_on (B := T41.setTop (mkF m 13 #[rv u0, iv (-1 : Int32), iv 7, iv 32] [(.int (-1 : Int32)), (.int 7), (.ref u0)])) (fun tz kz => ?_) ?_
  · show sT p e below T41 (mkF m 14 #[rv u0, iv (-1 : Int32), iv 6, iv 32] []) tz
    refine XS.iinc X41.here hx rfl (hb hby own_d9_14) rfl (l' := #[rv u0, iv (-1 : Int32), iv 7, iv 32]) rfl ?_
    show sT p e below T41 (mkF m 17 #[rv u0, iv (-1 : Int32), iv 7, iv 32] []) tz
    refine XS.goto X41.here hx rfl (pc0 := 17) (pc' := 5) rfl (hb hby own_d9_17) (by decide) (by decide) ?_
    show sT p e below T41 (mkF m 5 #[rv u0, iv (-1 : Int32), iv 7, iv 32] []) tz
    refine XS.iloadN X41.here hx rfl (hb hby own_d9_5) rfl ?_
    show sT p e below T41 (mkF m 6 #[rv u0, iv (-1 : Int32), iv 7, iv 32] [(.int 7)]) tz
    refine XS.iloadN X41.here hx rfl (hb hby own_d9_6) rfl ?_
    show sT p e below T41 (mkF m 7 #[rv u0, iv (-1 : Int32), iv 7, iv 32] [(.int 32), (.int 7)]) tz
    refine XS.icmpNo X41.here hx rfl (hb hby own_d9_7) rfl (tlt (by decide : (7 : Int32) < (32 : Int32))).2.1 ?_
    show sT p e below T41 (mkF m 10 #[rv u0, iv (-1 : Int32), iv 7, iv 32] []) tz
    refine XS.aloadN X41.here hx rfl (hb hby own_d9_10) rfl rfl ?_
    show sT p e below T41 (mkF m 11 #[rv u0, iv (-1 : Int32), iv 7, iv 32] [(.ref u0)]) tz
    refine XS.iloadN X41.here hx rfl (hb hby own_d9_11) rfl ?_
    show sT p e below T41 (mkF m 12 #[rv u0, iv (-1 : Int32), iv 7, iv 32] [(.int 7), (.ref u0)]) tz
    refine XS.iloadN X41.here hx rfl (hb hby own_d9_12) rfl ?_
    exact kz
  obtain ⟨cl43, Ar43, q43, S43, M43, H43, G43⟩ := id V41
  have hin44 : ¬ ((7 : Int32) < 0 ∨ cl43.slots.size ≤ ((7 : Int32)).toNatClampNeg) := inb_of S43 ⟨by decide, by decide⟩
  obtain ⟨T44, h44, X44, e44, W44, st44⟩ := stI X41 hx hZ e41 Ar43 (j := (7 : Int32)) hin44 (g := (mkF m 13 #[rv u0, iv (-1 : Int32), iv 7, iv 32] [(.int (-1 : Int32)), (.int 7), (.ref u0)])) rfl rfl (hb hby own_d9_13)
  have V44 : Arv Z h44 u0 ks .int (32 : Int32) [(.int (-1 : Int32)), (.int (-1 : Int32)), (.int (-1 : Int32)), (.int (-1 : Int32)), (.int (-1 : Int32)), (.int (-1 : Int32)), (.int (-1 : Int32)), (.int (-1 : Int32)), (.int (0 : Int32)), (.int (0 : Int32)), (.int (0 : Int32)), (.int (0 : Int32)), (.int (0 : Int32)), (.int (0 : Int32)), (.int (0 : Int32)), (.int (0 : Int32)), (.int (0 : Int32)), (.int (0 : Int32)), (.int (0 : Int32)), (.int (0 : Int32)), (.int (0 : Int32)), (.int (0 : Int32)), (.int (0 : Int32)), (.int (0 : Int32)), (.int (0 : Int32)), (.int (0 : Int32)), (.int (0 : Int32)), (.int (0 : Int32)), (.int (0 : Int32)), (.int (0 : Int32)), (.int (0 : Int32)), (.int (0 : Int32))] (.int 0) := Arv.set Ar43 q43 S43 M43 H43 G43 rfl W44 7 rfl (Nat.le_of_ble_eq_true rfl)
  have N44 := Fr.snoc X44 N41 g_u0
  have O45 := O42.wr W44 g_u0
  have K45 : Keep h0 h44 [u0] := K42.wr W44 (Or.inl (List.mem_of_getElem? (i := 0) rfl))
  refine own_on (B := T44.setTop (mkF m 14 #[rv u0, iv (-1 : Int32), iv 7, iv 32] [])) (fun tz kz => st44 _ kz) ?_
  refine own_on (B := T44.setTop (mkF m 13 #[rv u0, iv (-1 : Int32), iv 8, iv 32] [(.int (-1 : Int32)), (.int 8), (.ref u0)])) (fun tz kz => ?_) ?_
  · show sT p e below T44 (mkF m 14 #[rv u0, iv (-1 : Int32), iv 7, iv 32] []) tz
    refine XS.iinc X44.here hx rfl (hb hby own_d9_14) rfl (l' := #[rv u0, iv (-1 : Int32), iv 8, iv 32]) rfl ?_
    show sT p e below T44 (mkF m 17 #[rv u0, iv (-1 : Int32), iv 8, iv 32] []) tz
    refine XS.goto X44.here hx rfl (pc0 := 17) (pc' := 5) rfl (hb hby own_d9_17) (by decide) (by decide) ?_
    show sT p e below T44 (mkF m 5 #[rv u0, iv (-1 : Int32), iv 8, iv 32] []) tz
    refine XS.iloadN X44.here hx rfl (hb hby own_d9_5) rfl ?_
    show sT p e below T44 (mkF m 6 #[rv u0, iv (-1 : Int32), iv 8, iv 32] [(.int 8)]) tz
    refine XS.iloadN X44.here hx rfl (hb hby own_d9_6) rfl ?_
    show sT p e below T44 (mkF m 7 #[rv u0, iv (-1 : Int32), iv 8, iv 32] [(.int 32), (.int 8)]) tz
    refine XS.icmpNo X44.here hx rfl (hb hby own_d9_7) rfl (tlt (by decide : (8 : Int32) < (32 : Int32))).2.1 ?_
    show sT p e below T44 (mkF m 10 #[rv u0, iv (-1 : Int32), iv 8, iv 32] []) tz
    refine XS.aloadN X44.here hx rfl (hb hby own_d9_10) rfl rfl ?_
    show sT p e below T44 (mkF m 11 #[rv u0, iv (-1 : Int32), iv 8, iv 32] [(.ref u0)]) tz
    refine XS.iloadN X44.here hx rfl (hb hby own_d9_11) rfl ?_
    show sT p e below T44 (mkF m 12 #[rv u0, iv (-1 : Int32), iv 8, iv 32] [(.int 8), (.ref u0)]) tz
    refine XS.iloadN X44.here hx rfl (hb hby own_d9_12) rfl ?_
    exact kz
  obtain ⟨cl46, Ar46, q46, S46, M46, H46, G46⟩ := id V44
  have hin47 : ¬ ((8 : Int32) < 0 ∨ cl46.slots.size ≤ ((8 : Int32)).toNatClampNeg) := inb_of S46 ⟨by decide, by decide⟩
  obtain ⟨T47, h47, X47, e47, W47, st47⟩ := stI X44 hx hZ e44 Ar46 (j := (8 : Int32)) hin47 (g := (mkF m 13 #[rv u0, iv (-1 : Int32), iv 8, iv 32] [(.int (-1 : Int32)), (.int 8), (.ref u0)])) rfl rfl (hb hby own_d9_13)
  have V47 : Arv Z h47 u0 ks .int (32 : Int32) [(.int (-1 : Int32)), (.int (-1 : Int32)), (.int (-1 : Int32)), (.int (-1 : Int32)), (.int (-1 : Int32)), (.int (-1 : Int32)), (.int (-1 : Int32)), (.int (-1 : Int32)), (.int (-1 : Int32)), (.int (0 : Int32)), (.int (0 : Int32)), (.int (0 : Int32)), (.int (0 : Int32)), (.int (0 : Int32)), (.int (0 : Int32)), (.int (0 : Int32)), (.int (0 : Int32)), (.int (0 : Int32)), (.int (0 : Int32)), (.int (0 : Int32)), (.int (0 : Int32)), (.int (0 : Int32)), (.int (0 : Int32)), (.int (0 : Int32)), (.int (0 : Int32)), (.int (0 : Int32)), (.int (0 : Int32)), (.int (0 : Int32)), (.int (0 : Int32)), (.int (0 : Int32)), (.int (0 : Int32)), (.int (0 : Int32))] (.int 0) := Arv.set Ar46 q46 S46 M46 H46 G46 rfl W47 8 rfl (Nat.le_of_ble_eq_true rfl)
  have N47 := Fr.snoc X47 N44 g_u0
  have O48 := O45.wr W47 g_u0
  have K48 : Keep h0 h47 [u0] := K45.wr W47 (Or.inl (List.mem_of_getElem? (i := 0) rfl))
  refine own_on (B := T47.setTop (mkF m 14 #[rv u0, iv (-1 : Int32), iv 8, iv 32] [])) (fun tz kz => st47 _ kz) ?_
  refine own_on (B := T47.setTop (mkF m 13 #[rv u0, iv (-1 : Int32), iv 9, iv 32] [(.int (-1 : Int32)), (.int 9), (.ref u0)])) (fun tz kz => ?_) ?_
  · show sT p e below T47 (mkF m 14 #[rv u0, iv (-1 : Int32), iv 8, iv 32] []) tz
    refine XS.iinc X47.here hx rfl (hb hby own_d9_14) rfl (l' := #[rv u0, iv (-1 : Int32), iv 9, iv 32]) rfl ?_
    show sT p e below T47 (mkF m 17 #[rv u0, iv (-1 : Int32), iv 9, iv 32] []) tz
    refine XS.goto X47.here hx rfl (pc0 := 17) (pc' := 5) rfl (hb hby own_d9_17) (by decide) (by decide) ?_
    show sT p e below T47 (mkF m 5 #[rv u0, iv (-1 : Int32), iv 9, iv 32] []) tz
    refine XS.iloadN X47.here hx rfl (hb hby own_d9_5) rfl ?_
    show sT p e below T47 (mkF m 6 #[rv u0, iv (-1 : Int32), iv 9, iv 32] [(.int 9)]) tz
    refine XS.iloadN X47.here hx rfl (hb hby own_d9_6) rfl ?_
    show sT p e below T47 (mkF m 7 #[rv u0, iv (-1 : Int32), iv 9, iv 32] [(.int 32), (.int 9)]) tz
    refine XS.icmpNo X47.here hx rfl (hb hby own_d9_7) rfl (tlt (by decide : (9 : Int32) < (32 : Int32))).2.1 ?_
    show sT p e below T47 (mkF m 10 #[rv u0, iv (-1 : Int32), iv 9, iv 32] []) tz
    refine XS.aloadN X47.here hx rfl (hb hby own_d9_10) rfl rfl ?_
    show sT p e below T47 (mkF m 11 #[rv u0, iv (-1 : Int32), iv 9, iv 32] [(.ref u0)]) tz
    refine XS.iloadN X47.here hx rfl (hb hby own_d9_11) rfl ?_
    show sT p e below T47 (mkF m 12 #[rv u0, iv (-1 : Int32), iv 9, iv 32] [(.int 9), (.ref u0)]) tz
    refine XS.iloadN X47.here hx rfl (hb hby own_d9_12) rfl ?_
    exact kz
  obtain ⟨cl49, Ar49, q49, S49, M49, H49, G49⟩ := id V47
  have hin50 : ¬ ((9 : Int32) < 0 ∨ cl49.slots.size ≤ ((9 : Int32)).toNatClampNeg) := inb_of S49 ⟨by decide, by decide⟩
  obtain ⟨T50, h50, X50, e50, W50, st50⟩ := stI X47 hx hZ e47 Ar49 (j := (9 : Int32)) hin50 (g := (mkF m 13 #[rv u0, iv (-1 : Int32), iv 9, iv 32] [(.int (-1 : Int32)), (.int 9), (.ref u0)])) rfl rfl (hb hby own_d9_13)
  have V50 : Arv Z h50 u0 ks .int (32 : Int32) [(.int (-1 : Int32)), (.int (-1 : Int32)), (.int (-1 : Int32)), (.int (-1 : Int32)), (.int (-1 : Int32)), (.int (-1 : Int32)), (.int (-1 : Int32)), (.int (-1 : Int32)), (.int (-1 : Int32)), (.int (-1 : Int32)), (.int (0 : Int32)), (.int (0 : Int32)), (.int (0 : Int32)), (.int (0 : Int32)), (.int (0 : Int32)), (.int (0 : Int32)), (.int (0 : Int32)), (.int (0 : Int32)), (.int (0 : Int32)), (.int (0 : Int32)), (.int (0 : Int32)), (.int (0 : Int32)), (.int (0 : Int32)), (.int (0 : Int32)), (.int (0 : Int32)), (.int (0 : Int32)), (.int (0 : Int32)), (.int (0 : Int32)), (.int (0 : Int32)), (.int (0 : Int32)), (.int (0 : Int32)), (.int (0 : Int32))] (.int 0) := Arv.set Ar49 q49 S49 M49 H49 G49 rfl W50 9 rfl (Nat.le_of_ble_eq_true rfl)
  have N50 := Fr.snoc X50 N47 g_u0
  have O51 := O48.wr W50 g_u0
  have K51 : Keep h0 h50 [u0] := K48.wr W50 (Or.inl (List.mem_of_getElem? (i := 0) rfl))
  refine own_on (B := T50.setTop (mkF m 14 #[rv u0, iv (-1 : Int32), iv 9, iv 32] [])) (fun tz kz => st50 _ kz) ?_
  refine own_on (B := T50.setTop (mkF m 13 #[rv u0, iv (-1 : Int32), iv 10, iv 32] [(.int (-1 : Int32)), (.int 10), (.ref u0)])) (fun tz kz => ?_) ?_
  · show sT p e below T50 (mkF m 14 #[rv u0, iv (-1 : Int32), iv 9, iv 32] []) tz
    refine XS.iinc X50.here hx rfl (hb hby own_d9_14) rfl (l' := #[rv u0, iv (-1 : Int32), iv 10, iv 32]) rfl ?_
    show sT p e below T50 (mkF m 17 #[rv u0, iv (-1 : Int32), iv 10, iv 32] []) tz
    refine XS.goto X50.here hx rfl (pc0 := 17) (pc' := 5) rfl (hb hby own_d9_17) (by decide) (by decide) ?_
    show sT p e below T50 (mkF m 5 #[rv u0, iv (-1 : Int32), iv 10, iv 32] []) tz
    refine XS.iloadN X50.here hx rfl (hb hby own_d9_5) rfl ?_
    show sT p e below T50 (mkF m 6 #[rv u0, iv (-1 : Int32), iv 10, iv 32] [(.int 10)]) tz
    refine XS.iloadN X50.here hx rfl (hb hby own_d9_6) rfl ?_
    show sT p e below T50 (mkF m 7 #[rv u0, iv (-1 : Int32), iv 10, iv 32] [(.int 32), (.int 10)]) tz
    refine XS.icmpNo X50.here hx rfl (hb hby own_d9_7) rfl (tlt (by decide : (10 : Int32) < (32 : Int32))).2.1 ?_
    show sT p e below T50 (mkF m 10 #[rv u0, iv (-1 : Int32), iv 10, iv 32] []) tz
    refine XS.aloadN X50.here hx rfl (hb hby own_d9_10) rfl rfl ?_
    show sT p e below T50 (mkF m 11 #[rv u0, iv (-1 : Int32), iv 10, iv 32] [(.ref u0)]) tz
    refine XS.iloadN X50.here hx rfl (hb hby own_d9_11) rfl ?_
    show sT p e below T50 (mkF m 12 #[rv u0, iv (-1 : Int32), iv 10, iv 32] [(.int 10), (.ref u0)]) tz
    refine XS.iloadN X50.here hx rfl (hb hby own_d9_12) rfl ?_
    exact kz
  obtain ⟨cl52, Ar52, q52, S52, M52, H52, G52⟩ := id V50
  have hin53 : ¬ ((10 : Int32) < 0 ∨ cl52.slots.size ≤ ((10 : Int32)).toNatClampNeg) := inb_of S52 ⟨by decide, by decide⟩
  obtain ⟨T53, h53, X53, e53, W53, st53⟩ := stI X50 hx hZ e50 Ar52 (j := (10 : Int32)) hin53 (g := (mkF m 13 #[rv u0, iv (-1 : Int32), iv 10, iv 32] [(.int (-1 : Int32)), (.int 10), (.ref u0)])) rfl rfl (hb hby own_d9_13)
  have V53 : Arv Z h53 u0 ks .int (32 : Int32) [(.int (-1 : Int32)), (.int (-1 : Int32)), (.int (-1 : Int32)), (.int (-1 : Int32)), (.int (-1 : Int32)), (.int (-1 : Int32)), (.int (-1 : Int32)), (.int (-1 : Int32)), (.int (-1 : Int32)), (.int (-1 : Int32)), (.int (-1 : Int32)), (.int (0 : Int32)), (.int (0 : Int32)), (.int (0 : Int32)), (.int (0 : Int32)), (.int (0 : Int32)), (.int (0 : Int32)), (.int (0 : Int32)), (.int (0 : Int32)), (.int (0 : Int32)), (.int (0 : Int32)), (.int (0 : Int32)), (.int (0 : Int32)), (.int (0 : Int32)), (.int (0 : Int32)), (.int (0 : Int32)), (.int (0 : Int32)), (.int (0 : Int32)), (.int (0 : Int32)), (.int (0 : Int32)), (.int (0 : Int32)), (.int (0 : Int32))] (.int 0) := Arv.set Ar52 q52 S52 M52 H52 G52 rfl W53 10 rfl (Nat.le_of_ble_eq_true rfl)
  have N53 := Fr.snoc X53 N50 g_u0
  have O54 := O51.wr W53 g_u0
  have K54 : Keep h0 h53 [u0] := K51.wr W53 (Or.inl (List.mem_of_getElem? (i := 0) rfl))
  refine own_on (B := T53.setTop (mkF m 14 #[rv u0, iv (-1 : Int32), iv 10, iv 32] [])) (fun tz kz => st53 _ kz) ?_
  refine own_on (B := T53.setTop (mkF m 13 #[rv u0, iv (-1 : Int32), iv 11, iv 32] [(.int (-1 : Int32)), (.int 11), (.ref u0)])) (fun tz kz => ?_) ?_
  · show sT p e below T53 (mkF m 14 #[rv u0, iv (-1 : Int32), iv 10, iv 32] []) tz
    refine XS.iinc X53.here hx rfl (hb hby own_d9_14) rfl (l' := #[rv u0, iv (-1 : Int32), iv 11, iv 32]) rfl ?_
    show sT p e below T53 (mkF m 17 #[rv u0, iv (-1 : Int32), iv 11, iv 32] []) tz
    refine XS.goto X53.here hx rfl (pc0 := 17) (pc' := 5) rfl (hb hby own_d9_17) (by decide) (by decide) ?_
    show sT p e below T53 (mkF m 5 #[rv u0, iv (-1 : Int32), iv 11, iv 32] []) tz
    refine XS.iloadN X53.here hx rfl (hb hby own_d9_5) rfl ?_
    show sT p e below T53 (mkF m 6 #[rv u0, iv (-1 : Int32), iv 11, iv 32] [(.int 11)]) tz
    refine XS.iloadN X53.here hx rfl (hb hby own_d9_6) rfl ?_
    show sT p e below T53 (mkF m 7 #[rv u0, iv (-1 : Int32), iv 11, iv 32] [(.int 32), (.int 11)]) tz
    refine XS.icmpNo X53.here hx rfl (hb hby own_d9_7) rfl (tlt (by decide : (11 : Int32) < (32 : Int32))).2.1 ?_
    show sT p e below T53 (mkF m 10 #[rv u0, iv (-1 : Int32), iv 11, iv 32] []) tz
    refine XS.aloadN X53.here hx rfl (hb hby own_d9_10) rfl rfl ?_
    show sT p e below T53 (mkF m 11 #[rv u0, iv (-1 : Int32), iv 11, iv 32] [(.ref u0)]) tz
    refine XS.iloadN X53.here hx rfl (hb hby own_d9_11) rfl ?_
    show sT p e below T53 (mkF m 12 #[rv u0, iv (-1 : Int32), iv 11, iv 32] [(.int 11), (.ref u0)]) tz
    refine XS.iloadN X53.here hx rfl (hb hby own_d9_12) rfl ?_
    exact kz
  obtain ⟨cl55, Ar55, q55, S55, M55, H55, G55⟩ := id V53
  have hin56 : ¬ ((11 : Int32) < 0 ∨ cl55.slots.size ≤ ((11 : Int32)).toNatClampNeg) := inb_of S55 ⟨by decide, by decide⟩
  obtain ⟨T56, h56, X56, e56, W56, st56⟩ := stI X53 hx hZ e53 Ar55 (j := (11 : Int32)) hin56 (g := (mkF m 13 #[rv u0, iv (-1 : Int32), iv 11, iv 32] [(.int (-1 : Int32)), (.int 11), (.ref u0)])) rfl rfl (hb hby own_d9_13)
  have V56 : Arv Z h56 u0 ks .int (32 : Int32) [(.int (-1 : Int32)), (.int (-1 : Int32)), (.int (-1 : Int32)), (.int (-1 : Int32)), (.int (-1 : Int32)), (.int (-1 : Int32)), (.int (-1 : Int32)), (.int (-1 : Int32)), (.int (-1 : Int32)), (.int (-1 : Int32)), (.int (-1 : Int32)), (.int (-1 : Int32)), (.int (0 : Int32)), (.int (0 : Int32)), (.int (0 : Int32)), (.int (0 : Int32)), (.int (0 : Int32)), (.int (0 : Int32)), (.int (0 : Int32)), (.int (0 : Int32)), (.int (0 : Int32)), (.int (0 : Int32)), (.int (0 : Int32)), (.int (0 : Int32)), (.int (0 : Int32)), (.int (0 : Int32)), (.int (0 : Int32)), (.int (0 : Int32)), (.int (0 : Int32)), (.int (0 : Int32)), (.int (0 : Int32)), (.int (0 : Int32))] (.int 0) := Arv.set Ar55 q55 S55 M55 H55 G55 rfl W56 11 rfl (Nat.le_of_ble_eq_true rfl)
  have N56 := Fr.snoc X56 N53 g_u0
  have O57 := O54.wr W56 g_u0
  have K57 : Keep h0 h56 [u0] := K54.wr W56 (Or.inl (List.mem_of_getElem? (i := 0) rfl))
  refine own_on (B := T56.setTop (mkF m 14 #[rv u0, iv (-1 : Int32), iv 11, iv 32] [])) (fun tz kz => st56 _ kz) ?_
  refine own_on (B := T56.setTop (mkF m 13 #[rv u0, iv (-1 : Int32), iv 12, iv 32] [(.int (-1 : Int32)), (.int 12), (.ref u0)])) (fun tz kz => ?_) ?_
  · show sT p e below T56 (mkF m 14 #[rv u0, iv (-1 : Int32), iv 11, iv 32] []) tz
    refine XS.iinc X56.here hx rfl (hb hby own_d9_14) rfl (l' := #[rv u0, iv (-1 : Int32), iv 12, iv 32]) rfl ?_
    show sT p e below T56 (mkF m 17 #[rv u0, iv (-1 : Int32), iv 12, iv 32] []) tz
    refine XS.goto X56.here hx rfl (pc0 := 17) (pc' := 5) rfl (hb hby own_d9_17) (by decide) (by decide) ?_
    show sT p e below T56 (mkF m 5 #[rv u0, iv (-1 : Int32), iv 12, iv 32] []) tz
    refine XS.iloadN X56.here hx rfl (hb hby own_d9_5) rfl ?_
    show sT p e below T56 (mkF m 6 #[rv u0, iv (-1 : Int32), iv 12, iv 32] [(.int 12)]) tz
    refine XS.iloadN X56.here hx rfl (hb hby own_d9_6) rfl ?_
    show sT p e below T56 (mkF m 7 #[rv u0, iv (-1 : Int32), iv 12, iv 32] [(.int 32), (.int 12)]) tz
    refine XS.icmpNo X56.here hx rfl (hb hby own_d9_7) rfl (tlt (by decide : (12 : Int32) < (32 : Int32))).2.1 ?_
    show sT p e below T56 (mkF m 10 #[rv u0, iv (-1 : Int32), iv 12, iv 32] []) tz
    refine XS.aloadN X56.here hx rfl (hb hby own_d9_10) rfl rfl ?_
    show sT p e below T56 (mkF m 11 #[rv u0, iv (-1 : Int32), iv 12, iv 32] [(.ref u0)]) tz
    refine XS.iloadN X56.here hx rfl (hb hby own_d9_11) rfl ?_
    show sT p e below T56 (mkF m 12 #[rv u0, iv (-1 : Int32), iv 12, iv 32] [(.int 12), (.ref u0)]) tz
    refine XS.iloadN X56.here hx rfl (hb hby own_d9_12) rfl ?_
    exact kz
  obtain ⟨cl58, Ar58, q58, S58, M58, H58, G58⟩ := id V56
  have hin59 : ¬ ((12 : Int32) < 0 ∨ cl58.slots.size ≤ ((12 : Int32)).toNatClampNeg) := inb_of S58 ⟨by decide, by decide⟩
  obtain ⟨T59, h59, X59, e59, W59, st59⟩ := stI X56 hx hZ e56 Ar58 (j := (12 : Int32)) hin59 (g := (mkF m 13 #[rv u0, iv (-1 : Int32), iv 12, iv 32] [(.int (-1 : Int32)), (.int 12), (.ref u0)])) rfl rfl (hb hby own_d9_13)
  have V59 : Arv Z h59 u0 ks .int (32 : Int32) [(.int (-1 : Int32)), (.int (-1 : Int32)), (.int (-1 : Int32)), (.int (-1 : Int32)), (.int (-1 : Int32)), (.int (-1 : Int32)), (.int (-1 : Int32)), (.int (-1 : Int32)), (.int (-1 : Int32)), (.int (-1 : Int32)), (.int (-1 : Int32)), (.int (-1 : Int32)), (.int (-1 : Int32)), (.int (0 : Int32)), (.int (0 : Int32)), (.int (0 : Int32)), (.int (0 : Int32)), (.int (0 : Int32)), (.int (0 : Int32)), (.int (0 : Int32)), (.int (0 : Int32)), (.int (0 : Int32)), (.int (0 : Int32)), (.int (0 : Int32)), (.int (0 : Int32)), (.int (0 : Int32)), (.int (0 : Int32)), (.int (0 : Int32)), (.int (0 : Int32)), (.int (0 : Int32)), (.int (0 : Int32)), (.int (0 : Int32))] (.int 0) := Arv.set Ar58 q58 S58 M58 H58 G58 rfl W59 12 rfl (Nat.le_of_ble_eq_true rfl)
  have N59 := Fr.snoc X59 N56 g_u0
  have O60 := O57.wr W59 g_u0
  have K60 : Keep h0 h59 [u0] := K57.wr W59 (Or.inl (List.mem_of_getElem? (i := 0) rfl))
  refine own_on (B := T59.setTop (mkF m 14 #[rv u0, iv (-1 : Int32), iv 12, iv 32] [])) (fun tz kz => st59 _ kz) ?_
  refine own_on (B := T59.setTop (mkF m 13 #[rv u0, iv (-1 : Int32), iv 13, iv 32] [(.int (-1 : Int32)), (.int 13), (.ref u0)])) (fun tz kz => ?_) ?_
  · show sT p e below T59 (mkF m 14 #[rv u0, iv (-1 : Int32), iv 12, iv 32] []) tz
    refine XS.iinc X59.here hx rfl (hb hby own_d9_14) rfl (l' := #[rv u0, iv (-1 : Int32), iv 13, iv 32]) rfl ?_
    show sT p e below T59 (mkF m 17 #[rv u0, iv (-1 : Int32), iv 13, iv 32] []) tz
    refine XS.goto X59.here hx rfl (pc0 := 17) (pc' := 5) rfl (hb hby own_d9_17) (by decide) (by decide) ?_
    show sT p e below T59 (mkF m 5 #[rv u0, iv (-1 : Int32), iv 13, iv 32] []) tz
    refine XS.iloadN X59.here hx rfl (hb hby own_d9_5) rfl ?_
    show sT p e below T59 (mkF m 6 #[rv u0, iv (-1 : Int32), iv 13, iv 32] [(.int 13)]) tz
    refine XS.iloadN X59.here hx rfl (hb hby own_d9_6) rfl ?_
    show sT p e below T59 (mkF m 7 #[rv u0, iv (-1 : Int32), iv 13, iv 32] [(.int 32), (.int 13)]) tz
    refine XS.icmpNo X59.here hx rfl (hb hby own_d9_7) rfl (tlt (by decide : (13 : Int32) < (32 : Int32))).2.1 ?_
    show sT p e below T59 (mkF m 10 #[rv u0, iv (-1 : Int32), iv 13, iv 32] []) tz
    refine XS.aloadN X59.here hx rfl (hb hby own_d9_10) rfl rfl ?_
    show sT p e below T59 (mkF m 11 #[rv u0, iv (-1 : Int32), iv 13, iv 32] [(.ref u0)]) tz
    refine XS.iloadN X59.here hx rfl (hb hby own_d9_11) rfl ?_
    show sT p e below T59 (mkF m 12 #[rv u0, iv (-1 : Int32), iv 13, iv 32] [(.int 13), (.ref u0)]) tz
    refine XS.iloadN X59.here hx rfl (hb hby own_d9_12) rfl ?_
    exact kz
  obtain ⟨cl61, Ar61, q61, S61, M61, H61, G61⟩ := id V59
  have hin62 : ¬ ((13 : Int32) < 0 ∨ cl61.slots.size ≤ ((13 : Int32)).toNatClampNeg) := inb_of S61 ⟨by decide, by decide⟩
  obtain ⟨T62, h62, X62, e62, W62, st62⟩ := stI X59 hx hZ e59 Ar61 (j := (13 : Int32)) hin62 (g := (mkF m 13 #[rv u0, iv (-1 : Int32), iv 13, iv 32] [(.int (-1 : Int32)), (.int 13), (.ref u0)])) rfl rfl (hb hby own_d9_13)
  have V62 : Arv Z h62 u0 ks .int (32 : Int32) [(.int (-1 : Int32)), (.int (-1 : Int32)), (.int (-1 : Int32)), (.int (-1 : Int32)), (.int (-1 : Int32)), (.int (-1 : Int32)), (.int (-1 : Int32)), (.int (-1 : Int32)), (.int (-1 : Int32)), (.int (-1 : Int32)), (.int (-1 : Int32)), (.int (-1 : Int32)), (.int (-1 : Int32)), (.int (-1 : Int32)), (.int (0 : Int32)), (.int (0 : Int32)), (.int (0 : Int32)), (.int (0 : Int32)), (.int (0 : Int32)), (.int (0 : Int32)), (.int (0 : Int32)), (.int (0 : Int32)), (.int (0 : Int32)), (.int (0 : Int32)), (.int (0 : Int32)), (.int (0 : Int32)), (.int (0 : Int32)), (.int (0 : Int32)), (.int (0 : Int32)), (.int (0 : Int32)), (.int (0 : Int32)), (.int (0 : Int32))] (.int 0) := Arv.set Ar61 q61 S61 M61 H61 G61 rfl W62 13 rfl (Nat.le_of_ble_eq_true rfl)
  have N62 := Fr.snoc X62 N59 g_u0
  have O63 := O60.wr W62 g_u0
  have K63 : Keep h0 h62 [u0] := K60.wr W62 (Or.inl (List.mem_of_getElem? (i := 0) rfl))
  refine own_on (B := T62.setTop (mkF m 14 #[rv u0, iv (-1 : Int32), iv 13, iv 32] [])) (fun tz kz => st62 _ kz) ?_
  refine own_on (B := T62.setTop (mkF m 13 #[rv u0, iv (-1 : Int32), iv 14, iv 32] [(.int (-1 : Int32)), (.int 14), (.ref u0)])) (fun tz kz => ?_) ?_
  · show sT p e below T62 (mkF m 14 #[rv u0, iv (-1 : Int32), iv 13, iv 32] []) tz
    refine XS.iinc X62.here hx rfl (hb hby own_d9_14) rfl (l' := #[rv u0, iv (-1 : Int32), iv 14, iv 32]) rfl ?_
    show sT p e below T62 (mkF m 17 #[rv u0, iv (-1 : Int32), iv 14, iv 32] []) tz
    refine XS.goto X62.here hx rfl (pc0 := 17) (pc' := 5) rfl (hb hby own_d9_17) (by decide) (by decide) ?_
    show sT p e below T62 (mkF m 5 #[rv u0, iv (-1 : Int32), iv 14, iv 32] []) tz
    refine XS.iloadN X62.here hx rfl (hb hby own_d9_5) rfl ?_
    show sT p e below T62 (mkF m 6 #[rv u0, iv (-1 : Int32), iv 14, iv 32] [(.int 14)]) tz
    refine XS.iloadN X62.here hx rfl (hb hby own_d9_6) rfl ?_
    show sT p e below T62 (mkF m 7 #[rv u0, iv (-1 : Int32), iv 14, iv 32] [(.int 32), (.int 14)]) tz
    refine XS.icmpNo X62.here hx rfl (hb hby own_d9_7) rfl (tlt (by decide : (14 : Int32) < (32 : Int32))).2.1 ?_
    show sT p e below T62 (mkF m 10 #[rv u0, iv (-1 : Int32), iv 14, iv 32] []) tz
    refine XS.aloadN X62.here hx rfl (hb hby own_d9_10) rfl rfl ?_
    show sT p e below T62 (mkF m 11 #[rv u0, iv (-1 : Int32), iv 14, iv 32] [(.ref u0)]) tz
    refine XS.iloadN X62.here hx rfl (hb hby own_d9_11) rfl ?_
    show sT p e below T62 (mkF m 12 #[rv u0, iv (-1 : Int32), iv 14, iv 32] [(.int 14), (.ref u0)]) tz
    refine XS.iloadN X62.here hx rfl (hb hby own_d9_12) rfl ?_
    exact kz
  obtain ⟨cl64, Ar64, q64, S64, M64, H64, G64⟩ := id V62
  have hin65 : ¬ ((14 : Int32) < 0 ∨ cl64.slots.size ≤ ((14 : Int32)).toNatClampNeg) := inb_of S64 ⟨by decide, by decide⟩
  obtain ⟨T65, h65, X65, e65, W65, st65⟩ := stI X62 hx hZ e62 Ar64 (j := (14 : Int32)) hin65 (g := (mkF m 13 #[rv u0, iv (-1 : Int32), iv 14, iv 32] [(.int (-1 : Int32)), (.int 14), (.ref u0)])) rfl rfl (hb hby own_d9_13)
  have V65 : Arv Z h65 u0 ks .int (32 : Int32) [(.int (-1 : Int32)), (.int (-1 : Int32)), (.int (-1 : Int32)), (.int (-1 : Int32)), (.int (-1 : Int32)), (.int (-1 : Int32)), (.int (-1 : Int32)), (.int (-1 : Int32)), (.int (-1 : Int32)), (.int (-1 : Int32)), (.int (-1 : Int32)), (.int (-1 : Int32)), (.int (-1 : Int32)), (.int (-1 : Int32)), (.int (-1 : Int32)), (.int (0 : Int32)), (.int (0 : Int32)), (.int (0 : Int32)), (.int (0 : Int32)), (.int (0 : Int32)), (.int (0 : Int32)), (.int (0 : Int32)), (.int (0 : Int32)), (.int (0 : Int32)), (.int (0 : Int32)), (.int (0 : Int32)), (.int (0 : Int32)), (.int (0 : Int32)), (.int (0 : Int32)), (.int (0 : Int32)), (.int (0 : Int32)), (.int (0 : Int32))] (.int 0) := Arv.set Ar64 q64 S64 M64 H64 G64 rfl W65 14 rfl (Nat.le_of_ble_eq_true rfl)
  have N65 := Fr.snoc X65 N62 g_u0
  have O66 := O63.wr W65 g_u0
  have K66 : Keep h0 h65 [u0] := K63.wr W65 (Or.inl (List.mem_of_getElem? (i := 0) rfl))
  refine own_on (B := T65.setTop (mkF m 14 #[rv u0, iv (-1 : Int32), iv 14, iv 32] [])) (fun tz kz => st65 _ kz) ?_
  refine own_on (B := T65.setTop (mkF m 13 #[rv u0, iv (-1 : Int32), iv 15, iv 32] [(.int (-1 : Int32)), (.int 15), (.ref u0)])) (fun tz kz => ?_) ?_
  · show sT p e below T65 (mkF m 14 #[rv u0, iv (-1 : Int32), iv 14, iv 32] []) tz
    refine XS.iinc X65.here hx rfl (hb hby own_d9_14) rfl (l' := #[rv u0, iv (-1 : Int32), iv 15, iv 32]) rfl ?_
    show sT p e below T65 (mkF m 17 #[rv u0, iv (-1 : Int32), iv 15, iv 32] []) tz
    refine XS.goto X65.here hx rfl (pc0 := 17) (pc' := 5) rfl (hb hby own_d9_17) (by decide) (by decide) ?_
    show sT p e below T65 (mkF m 5 #[rv u0, iv (-1 : Int32), iv 15, iv 32] []) tz
    refine XS.iloadN X65.here hx rfl (hb hby own_d9_5) rfl ?_
    show sT p e below T65 (mkF m 6 #[rv u0, iv (-1 : Int32), iv 15, iv 32] [(.int 15)]) tz
    refine XS.iloadN X65.here hx rfl (hb hby own_d9_6) rfl ?_
    show sT p e below T65 (mkF m 7 #[rv u0, iv (-1 : Int32), iv 15, iv 32] [(.int 32), (.int 15)]) tz
    refine XS.icmpNo X65.here hx rfl (hb hby own_d9_7) rfl (tlt (by decide : (15 : Int32) < (32 : Int32))).2.1 ?_
    show sT p e below T65 (mkF m 10 #[rv u0, iv (-1 : Int32), iv 15, iv 32] []) tz
    refine XS.aloadN X65.here hx rfl (hb hby own_d9_10) rfl rfl ?_
    show sT p e below T65 (mkF m 11 #[rv u0, iv (-1 : Int32), iv 15, iv 32] [(.ref u0)]) tz
    refine XS.iloadN X65.here hx rfl (hb hby own_d9_11) rfl ?_
    show sT p e below T65 (mkF m 12 #[rv u0, iv (-1 : Int32), iv 15, iv 32] [(.int 15), (.ref u0)]) tz
    refine XS.iloadN X65.here hx rfl (hb hby own_d9_12) rfl ?_
    exact kz
  obtain ⟨cl67, Ar67, q67, S67, M67, H67, G67⟩ := id V65
  have hin68 : ¬ ((15 : Int32) < 0 ∨ cl67.slots.size ≤ ((15 : Int32)).toNatClampNeg) := inb_of S67 ⟨by decide, by decide⟩
  obtain ⟨T68, h68, X68, e68, W68, st68⟩ := stI X65 hx hZ e65 Ar67 (j := (15 : Int32)) hin68 (g := (mkF m 13 #[rv u0, iv (-1 : Int32), iv 15, iv 32] [(.int (-1 : Int32)), (.int 15), (.ref u0)])) rfl rfl (hb hby own_d9_13)
  have V68 : Arv Z h68 u0 ks .int (32 : Int32) [(.int (-1 : Int32)), (.int (-1 : Int32)), (.int (-1 : Int32)), (.int (-1 : Int32)), (.int (-1 : Int32)), (.int (-1 : Int32)), (.int (-1 : Int32)), (.int (-1 : Int32)), (.int (-1 : Int32)), (.int (-1 : Int32)), (.int (-1 : Int32)), (.int (-1 : Int32)), (.int (-1 : Int32)), (.int (-1 : Int32)), (.int (-1 : Int32)), (.int (-1 : Int32)), (.int (0 : Int32)), (.int (0 : Int32)), (.int (0 : Int32)), (.int (0 : Int32)), (.int (0 : Int32)), (.int (0 : Int32)), (.int (0 : Int32)), (.int (0 : Int32)), (.int (0 : Int32)), (.int (0 : Int32)), (.int (0 : Int32)), (.int (0 : Int32)), (.int (0 : Int32)), (.int (0 : Int32)), (.int (0 : Int32)), (.int (0 : Int32))] (.int 0) := Arv.set Ar67 q67 S67 M67 H67 G67 rfl W68 15 rfl (Nat.le_of_ble_eq_true rfl)
  have N68 := Fr.snoc X68 N65 g_u0
  have O69 := O66.wr W68 g_u0
  have K69 : Keep h0 h68 [u0] := K66.wr W68 (Or.inl (List.mem_of_getElem? (i := 0) rfl))
  refine own_on (B := T68.setTop (mkF m 14 #[rv u0, iv (-1 : Int32), iv 15, iv 32] [])) (fun tz kz => st68 _ kz) ?_
  refine own_on (B := T68.setTop (mkF m 13 #[rv u0, iv (-1 : Int32), iv 16, iv 32] [(.int (-1 : Int32)), (.int 16), (.ref u0)])) (fun tz kz => ?_) ?_
  · show sT p e below T68 (mkF m 14 #[rv u0, iv (-1 : Int32), iv 15, iv 32] []) tz
    refine XS.iinc X68.here hx rfl (hb hby own_d9_14) rfl (l' := #[rv u0, iv (-1 : Int32), iv 16, iv 32]) rfl ?_
    show sT p e below T68 (mkF m 17 #[rv u0, iv (-1 : Int32), iv 16, iv 32] []) tz
    refine XS.goto X68.here hx rfl (pc0 := 17) (pc' := 5) rfl (hb hby own_d9_17) (by decide) (by decide) ?_
    show sT p e below T68 (mkF m 5 #[rv u0, iv (-1 : Int32), iv 16, iv 32] []) tz
    refine XS.iloadN X68.here hx rfl (hb hby own_d9_5) rfl ?_
    show sT p e below T68 (mkF m 6 #[rv u0, iv (-1 : Int32), iv 16, iv 32] [(.int 16)]) tz
    refine XS.iloadN X68.here hx rfl (hb hby own_d9_6) rfl ?_
    show sT p e below T68 (mkF m 7 #[rv u0, iv (-1 : Int32), iv 16, iv 32] [(.int 32), (.int 16)]) tz
    refine XS.icmpNo X68.here hx rfl (hb hby own_d9_7) rfl (tlt (by decide : (16 : Int32) < (32 : Int32))).2.1 ?_
    show sT p e below T68 (mkF m 10 #[rv u0, iv (-1 : Int32), iv 16, iv 32] []) tz
    refine XS.aloadN X68.here hx rfl (hb hby own_d9_10) rfl rfl ?_
    show sT p e below T68 (mkF m 11 #[rv u0, iv (-1 : Int32), iv 16, iv 32] [(.ref u0)]) tz
    refine XS.iloadN X68.here hx rfl (hb hby own_d9_11) rfl ?_
    show sT p e below T68 (mkF m 12 #[rv u0, iv (-1 : Int32), iv 16, iv 32] [(.int 16), (.ref u0)]) tz
    refine XS.iloadN X68.here hx rfl (hb hby own_d9_12) rfl ?_
    exact kz
  obtain ⟨cl70, Ar70, q70, S70, M70, H70, G70⟩ := id V68
  have hin71 : ¬ ((16 : Int32) < 0 ∨ cl70.slots.size ≤ ((16 : Int32)).toNatClampNeg) := inb_of S70 ⟨by decide, by decide⟩
  obtain ⟨T71, h71, X71, e71, W71, st71⟩ := stI X68 hx hZ e68 Ar70 (j := (16 : Int32)) hin71 (g := (mkF m 13 #[rv u0, iv (-1 : Int32), iv 16, iv 32] [(.int (-1 : Int32)), (.int 16), (.ref u0)])) rfl rfl (hb hby own_d9_13)
  have V71 : Arv Z h71 u0 ks .int (32 : Int32) [(.int (-1 : Int32)), (.int (-1 : Int32)), (.int (-1 : Int32)), (.int (-1 : Int32)), (.int (-1 : Int32)), (.int (-1 : Int32)), (.int (-1 : Int32)), (.int (-1 : Int32)), (.int (-1 : Int32)), (.int (-1 : Int32)), (.int (-1 : Int32)), (.int (-1 : Int32)), (.int (-1 : Int32)), (.int (-1 : Int32)), (.int (-1 : Int32)), (.int (-1 : Int32)), (.int (-1 : Int32)), (.int (0 : Int32)), (.int (0 : Int32)), (.int (0 : Int32)), (.int (0 : Int32)), (.int (0 : Int32)), (.int (0 : Int32)), (.int (0 : Int32)), (.int (0 : Int32)), (.int (0 : Int32)), (.int (0 : Int32)), (.int (0 : Int32)), (.int (0 : Int32)), (.int (0 : Int32)), (.int (0 : Int32)), (.int (0 : Int32))] (.int 0) := Arv.set Ar70 q70 S70 M70 H70 G70 rfl W71 16 rfl (Nat.le_of_ble_eq_true rfl)
  have N71 := Fr.snoc X71 N68 g_u0
  have O72 := O69.wr W71 g_u0
  have K72 : Keep h0 h71 [u0] := K69.wr W71 (Or.inl (List.mem_of_getElem? (i := 0) rfl))
  refine own_on (B := T71.setTop (mkF m 14 #[rv u0, iv (-1 : Int32), iv 16, iv 32] [])) (fun tz kz => st71 _ kz) ?_
  refine own_on (B := T71.setTop (mkF m 13 #[rv u0, iv (-1 : Int32), iv 17, iv 32] [(.int (-1 : Int32)), (.int 17), (.ref u0)])) (fun tz kz => ?_) ?_
  · show sT p e below T71 (mkF m 14 #[rv u0, iv (-1 : Int32), iv 16, iv 32] []) tz
    refine XS.iinc X71.here hx rfl (hb hby own_d9_14) rfl (l' := #[rv u0, iv (-1 : Int32), iv 17, iv 32]) rfl ?_
    show sT p e below T71 (mkF m 17 #[rv u0, iv (-1 : Int32), iv 17, iv 32] []) tz
    refine XS.goto X71.here hx rfl (pc0 := 17) (pc' := 5) rfl (hb hby own_d9_17) (by decide) (by decide) ?_
    show sT p e below T71 (mkF m 5 #[rv u0, iv (-1 : Int32), iv 17, iv 32] []) tz
    refine XS.iloadN X71.here hx rfl (hb hby own_d9_5) rfl ?_
    show sT p e below T71 (mkF m 6 #[rv u0, iv (-1 : Int32), iv 17, iv 32] [(.int 17)]) tz
    refine XS.iloadN X71.here hx rfl (hb hby own_d9_6) rfl ?_
    show sT p e below T71 (mkF m 7 #[rv u0, iv (-1 : Int32), iv 17, iv 32] [(.int 32), (.int 17)]) tz
    refine XS.icmpNo X71.here hx rfl (hb hby own_d9_7) rfl (tlt (by decide : (17 : Int32) < (32 : Int32))).2.1 ?_
    show sT p e below T71 (mkF m 10 #[rv u0, iv (-1 : Int32), iv 17, iv 32] []) tz
    refine XS.aloadN X71.here hx rfl (hb hby own_d9_10) rfl rfl ?_
    show sT p e below T71 (mkF m 11 #[rv u0, iv (-1 : Int32), iv 17, iv 32] [(.ref u0)]) tz
    refine XS.iloadN X71.here hx rfl (hb hby own_d9_11) rfl ?_
    show sT p e below T71 (mkF m 12 #[rv u0, iv (-1 : Int32), iv 17, iv 32] [(.int 17), (.ref u0)]) tz
    refine XS.iloadN X71.here hx rfl (hb hby own_d9_12) rfl ?_
    exact kz
  obtain ⟨cl73, Ar73, q73, S73, M73, H73, G73⟩ := id V71
  have hin74 : ¬ ((17 : Int32) < 0 ∨ cl73.slots.size ≤ ((17 : Int32)).toNatClampNeg) := inb_of S73 ⟨by decide, by decide⟩
  obtain ⟨T74, h74, X74, e74, W74, st74⟩ := stI X71 hx hZ e71 Ar73 (j := (17 : Int32)) hin74 (g := (mkF m 13 #[rv u0, iv (-1 : Int32), iv 17, iv 32] [(.int (-1 : Int32)), (.int 17), (.ref u0)])) rfl rfl (hb hby own_d9_13)
  have V74 : Arv Z h74 u0 ks .int (32 : Int32) [(.int (-1 : Int32)), (.int (-1 : Int32)), (.int (-1 : Int32)), (.int (-1 : Int32)), (.int (-1 : Int32)), (.int (-1 : Int32)), (.int (-1 : Int32)), (.int (-1 : Int32)), (.int (-1 : Int32)), (.int (-1 : Int32)), (.int (-1 : Int32)), (.int (-1 : Int32)), (.int (-1 : Int32)), (.int (-1 : Int32)), (.int (-1 : Int32)), (.int (-1 : Int32)), (.int (-1 : Int32)), (.int (-1 : Int32)), (.int (0 : Int32)), (.int (0 : Int32)), (.int (0 : Int32)), (.int (0 : Int32)), (.int (0 : Int32)), (.int (0 : Int32)), (.int (0 : Int32)), (.int (0 : Int32)), (.int (0 : Int32)), (.int (0 : Int32)), (.int (0 : Int32)), (.int (0 : Int32)), (.int (0 : Int32)), (.int (0 : Int32))] (.int 0) := Arv.set Ar73 q73 S73 M73 H73 G73 rfl W74 17 rfl (Nat.le_of_ble_eq_true rfl)
  have N74 := Fr.snoc X74 N71 g_u0
  have O75 := O72.wr W74 g_u0
  have K75 : Keep h0 h74 [u0] := K72.wr W74 (Or.inl (List.mem_of_getElem? (i := 0) rfl))
  refine own_on (B := T74.setTop (mkF m 14 #[rv u0, iv (-1 : Int32), iv 17, iv 32] [])) (fun tz kz => st74 _ kz) ?_
  refine own_on (B := T74.setTop (mkF m 13 #[rv u0, iv (-1 : Int32), iv 18, iv 32] [(.int (-1 : Int32)), (.int 18), (.ref u0)])) (fun tz kz => ?_) ?_
  · show sT p e below T74 (mkF m 14 #[rv u0, iv (-1 : Int32), iv 17, iv 32] []) tz
    refine XS.iinc X74.here hx rfl (hb hby own_d9_14) rfl (l' := #[rv u0, iv (-1 : Int32), iv 18, iv 32]) rfl ?_
    show sT p e below T74 (mkF m 17 #[rv u0, iv (-1 : Int32), iv 18, iv 32] []) tz
    refine XS.goto X74.here hx rfl (pc0 := 17) (pc' := 5) rfl (hb hby own_d9_17) (by decide) (by decide) ?_
    show sT p e below T74 (mkF m 5 #[rv u0, iv (-1 : Int32), iv 18, iv 32] []) tz
    refine XS.iloadN X74.here hx rfl (hb hby own_d9_5) rfl ?_
    show sT p e below T74 (mkF m 6 #[rv u0, iv (-1 : Int32), iv 18, iv 32] [(.int 18)]) tz
    refine XS.iloadN X74.here hx rfl (hb hby own_d9_6) rfl ?_
    show sT p e below T74 (mkF m 7 #[rv u0, iv (-1 : Int32), iv 18, iv 32] [(.int 32), (.int 18)]) tz
    refine XS.icmpNo X74.here hx rfl (hb hby own_d9_7) rfl (tlt (by decide : (18 : Int32) < (32 : Int32))).2.1 ?_
    show sT p e below T74 (mkF m 10 #[rv u0, iv (-1 : Int32), iv 18, iv 32] []) tz
    refine XS.aloadN X74.here hx rfl (hb hby own_d9_10) rfl rfl ?_
    show sT p e below T74 (mkF m 11 #[rv u0, iv (-1 : Int32), iv 18, iv 32] [(.ref u0)]) tz
    refine XS.iloadN X74.here hx rfl (hb hby own_d9_11) rfl ?_
    show sT p e below T74 (mkF m 12 #[rv u0, iv (-1 : Int32), iv 18, iv 32] [(.int 18), (.ref u0)]) tz
    refine XS.iloadN X74.here hx rfl (hb hby own_d9_12) rfl ?_
    exact kz
  obtain ⟨cl76, Ar76, q76, S76, M76, H76, G76⟩ := id V74
  have hin77 : ¬ ((18 : Int32) < 0 ∨ cl76.slots.size ≤ ((18 : Int32)).toNatClampNeg) := inb_of S76 ⟨by decide, by decide⟩
  obtain ⟨T77, h77, X77, e77, W77, st77⟩ := stI X74 hx hZ e74 Ar76 (j := (18 : Int32)) hin77 (g := (mkF m 13 #[rv u0, iv (-1 : Int32), iv 18, iv 32] [(.int (-1 : Int32)), (.int 18), (.ref u0)])) rfl rfl (hb hby own_d9_13)
  have V77 : Arv Z h77 u0 ks .int (32 : Int32) [(.int (-1 : Int32)), (.int (-1 : Int32)), (.int (-1 : Int32)), (.int (-1 : Int32)), (.int (-1 : Int32)), (.int (-1 : Int32)), (.int (-1 : Int32)), (.int (-1 : Int32)), (.int (-1 : Int32)), (.int (-1 : Int32)), (.int (-1 : Int32)), (.int (-1 : Int32)), (.int (-1 : Int32)), (.int (-1 : Int32)), (.int (-1 : Int32)), (.int (-1 : Int32)), (.int (-1 : Int32)), (.int (-1 : Int32)), (.int (-1 : Int32)), (.int (0 : Int32)), (.int (0 : Int32)), (.int (0 : Int32)), (.int (0 : Int32)), (.int (0 : Int32)), (.int (0 : Int32)), (.int (0 : Int32)), (.int (0 : Int32)), (.int (0 : Int32)), (.int (0 : Int32)), (.int (0 : Int32)), (.int (0 : Int32)), (.int (0 : Int32))] (.int 0) := Arv.set Ar76 q76 S76 M76 H76 G76 rfl W77 18 rfl (Nat.le_of_ble_eq_true rfl)
  have N77 := Fr.snoc X77 N74 g_u0
  have O78 := O75.wr W77 g_u0
  have K78 : Keep h0 h77 [u0] := K75.wr W77 (Or.inl (List.mem_of_getElem? (i := 0) rfl))
  refine own_on (B := T77.setTop (mkF m 14 #[rv u0, iv (-1 : Int32), iv 18, iv 32] [])) (fun tz kz => st77 _ kz) ?_
  refine own_on (B := T77.setTop (mkF m 13 #[rv u0, iv (-1 : Int32), iv 19, iv 32] [(.int (-1 : Int32)), (.int 19), (.ref u0)])) (fun tz kz => ?_) ?_
  · show sT p e below T77 (mkF m 14 #[rv u0, iv (-1 : Int32), iv 18, iv 32] []) tz
    refine XS.iinc X77.here hx rfl (hb hby own_d9_14) rfl (l' := #[rv u0, iv (-1 : Int32), iv 19, iv 32]) rfl ?_
    show sT p e below T77 (mkF m 17 #[rv u0, iv (-1 : Int32), iv 19, iv 32] []) tz
    refine XS.goto X77.here hx rfl (pc0 := 17) (pc' := 5) rfl (hb hby own_d9_17) (by decide) (by decide) ?_
    show sT p e below T77 (mkF m 5 #[rv u0, iv (-1 : Int32), iv 19, iv 32] []) tz
    refine XS.iloadN X77.here hx rfl (hb hby own_d9_5) rfl ?_
    show sT p e below T77 (mkF m 6 #[rv u0, iv (-1 : Int32), iv 19, iv 32] [(.int 19)]) tz
    refine XS.iloadN X77.here hx rfl (hb hby own_d9_6) rfl ?_
    show sT p e below T77 (mkF m 7 #[rv u0, iv (-1 : Int32), iv 19, iv 32] [(.int 32), (.int 19)]) tz
    refine XS.icmpNo X77.here hx rfl (hb hby own_d9_7) rfl (tlt (by decide : (19 : Int32) < (32 : Int32))).2.1 ?_
    show sT p e below T77 (mkF m 10 #[rv u0, iv (-1 : Int32), iv 19, iv 32] []) tz
    refine XS.aloadN X77.here hx rfl (hb hby own_d9_10) rfl rfl ?_
    show sT p e below T77 (mkF m 11 #[rv u0, iv (-1 : Int32), iv 19, iv 32] [(.ref u0)]) tz
    refine XS.iloadN X77.here hx rfl (hb hby own_d9_11) rfl ?_
    show sT p e below T77 (mkF m 12 #[rv u0, iv (-1 : Int32), iv 19, iv 32] [(.int 19), (.ref u0)]) tz
    refine XS.iloadN X77.here hx rfl (hb hby own_d9_12) rfl ?_
    exact kz
  obtain ⟨cl79, Ar79, q79, S79, M79, H79, G79⟩ := id V77
  have hin80 : ¬ ((19 : Int32) < 0 ∨ cl79.slots.size ≤ ((19 : Int32)).toNatClampNeg) := inb_of S79 ⟨by decide, by decide⟩
  obtain ⟨T80, h80, X80, e80, W80, st80⟩ := stI X77 hx hZ e77 Ar79 (j := (19 : Int32)) hin80 (g := (mkF m 13 #[rv u0, iv (-1 : Int32), iv 19, iv 32] [(.int (-1 : Int32)), (.int 19), (.ref u0)])) rfl rfl (hb hby own_d9_13)
  have V80 : Arv Z h80 u0 ks .int (32 : Int32) [(.int (-1 : Int32)), (.int (-1 : Int32)), (.int (-1 : Int32)), (.int (-1 : Int32)), (.int (-1 : Int32)), (.int (-1 : Int32)), (.int (-1 : Int32)), (.int (-1 : Int32)), (.int (-1 : Int32)), (.int (-1 : Int32)), (.int (-1 : Int32)), (.int (-1 : Int32)), (.int (-1 : Int32)), (.int (-1 : Int32)), (.int (-1 : Int32)), (.int (-1 : Int32)), (.int (-1 : Int32)), (.int (-1 : Int32)), (.int (-1 : Int32)), (.int (-1 : Int32)), (.int (0 : Int32)), (.int (0 : Int32)), (.int (0 : Int32)), (.int (0 : Int32)), (.int (0 : Int32)), (.int (0 : Int32)), (.int (0 : Int32)), (.int (0 : Int32)), (.int (0 : Int32)), (.int (0 : Int32)), (.int (0 : Int32)), (.int (0 : Int32))] (.int 0) := Arv.set Ar79 q79 S79 M79 H79 G79 rfl W80 19 rfl (Nat.le_of_ble_eq_true rfl)
  have N80 := Fr.snoc X80 N77 g_u0
  have O81 := O78.wr W80 g_u0
  have K81 : Keep h0 h80 [u0] := K78.wr W80 (Or.inl (List.mem_of_getElem? (i := 0) rfl))
  refine own_on (B := T80.setTop (mkF m 14 #[rv u0, iv (-1 : Int32), iv 19, iv 32] [])) (fun tz kz => st80 _ kz) ?_
  refine own_on (B := T80.setTop (mkF m 13 #[rv u0, iv (-1 : Int32), iv 20, iv 32] [(.int (-1 : Int32)), (.int 20), (.ref u0)])) (fun tz kz => ?_) ?_
  · show sT p e below T80 (mkF m 14 #[rv u0, iv (-1 : Int32), iv 19, iv 32] []) tz
    refine XS.iinc X80.here hx rfl (hb hby own_d9_14) rfl (l' := #[rv u0, iv (-1 : Int32), iv 20, iv 32]) rfl ?_
    show sT p e below T80 (mkF m 17 #[rv u0, iv (-1 : Int32), iv 20, iv 32] []) tz
    refine XS.goto X80.here hx rfl (pc0 := 17) (pc' := 5) rfl (hb hby own_d9_17) (by decide) (by decide) ?_
    show sT p e below T80 (mkF m 5 #[rv u0, iv (-1 : Int32), iv 20, iv 32] []) tz
    refine XS.iloadN X80.here hx rfl (hb hby own_d9_5) rfl ?_
    show sT p e below T80 (mkF m 6 #[rv u0, iv (-1 : Int32), iv 20, iv 32] [(.int 20)]) tz
    refine XS.iloadN X80.here hx rfl (hb hby own_d9_6) rfl ?_
    show sT p e below T80 (mkF m 7 #[rv u0, iv (-1 : Int32), iv 20, iv 32] [(.int 32), (.int 20)]) tz
    refine XS.icmpNo X80.here hx rfl (hb hby own_d9_7) rfl (tlt (by decide : (20 : Int32) < (32 : Int32))).2.1 ?_
    show sT p e below T80 (mkF m 10 #[rv u0, iv (-1 : Int32), iv 20, iv 32] []) tz
    refine XS.aloadN X80.here hx rfl (hb hby own_d9_10) rfl rfl ?_
    show sT p e below T80 (mkF m 11 #[rv u0, iv (-1 : Int32), iv 20, iv 32] [(.ref u0)]) tz
    refine XS.iloadN X80.here hx rfl (hb hby own_d9_11) rfl ?_
    show sT p e below T80 (mkF m 12 #[rv u0, iv (-1 : Int32), iv 20, iv 32] [(.int 20), (.ref u0)]) tz
    refine XS.iloadN X80.here hx rfl (hb hby own_d9_12) rfl ?_
    exact kz
  obtain ⟨cl82, Ar82, q82, S82, M82, H82, G82⟩ := id V80
  have hin83 : ¬ ((20 : Int32) < 0 ∨ cl82.slots.size ≤ ((20 : Int32)).toNatClampNeg) := inb_of S82 ⟨by decide, by decide⟩
  obtain ⟨T83, h83, X83, e83, W83, st83⟩ := stI X80 hx hZ e80 Ar82 (j := (20 : Int32)) hin83 (g := (mkF m 13 #[rv u0, iv (-1 : Int32), iv 20, iv 32] [(.int (-1 : Int32)), (.int 20), (.ref u0)])) rfl rfl (hb hby own_d9_13)
  have V83 : Arv Z h83 u0 ks .int (32 : Int32) [(.int (-1 : Int32)), (.int (-1 : Int32)), (.int (-1 : Int32)), (.int (-1 : Int32)), (.int (-1 : Int32)), (.int (-1 : Int32)), (.int (-1 : Int32)), (.int (-1 : Int32)), (.int (-1 : Int32)), (.int (-1 : Int32)), (.int (-1 : Int32)), (.int (-1 : Int32)), (.int (-1 : Int32)), (.int (-1 : Int32)), (.int (-1 : Int32)), (.int (-1 : Int32)), (.int (-1 : Int32)), (.int (-1 : Int32)), (.int (-1 : Int32)), (.int (-1 : Int32)), (.int (-1 : Int32)), (.int (0 : Int32)), (.int (0 : Int32)), (.int (0 : Int32)), (.int (0 : Int32)), (.int (0 : Int32)), (.int (0 : Int32)), (.int (0 : Int32)), (.int (0 : Int32)), (.int (0 : Int32)), (.int (0 : Int32)), (.int (0 : Int32))] (.int 0) := Arv.set Ar82 q82 S82 M82 H82 G82 rfl W83 20 rfl (Nat.le_of_ble_eq_true rfl)
  have N83 := Fr.snoc X83 N80 g_u0
  have O84 := O81.wr W83 g_u0
  have K84 : Keep h0 h83 [u0] := K81.wr W83 (Or.inl (List.mem_of_getElem? (i := 0) rfl))
  refine own_on (B := T83.setTop (mkF m 14 #[rv u0, iv (-1 : Int32), iv 20, iv 32] [])) (fun tz kz => st83 _ kz) ?_
  refine own_on (B := T83.setTop (mkF m 13 #[rv u0, iv (-1 : Int32), iv 21, iv 32] [(.int (-1 : Int32)), (.int 21), (.ref u0)])) (fun tz kz => ?_) ?_
  · show sT p e below T83 (mkF m 14 #[rv u0, iv (-1 : Int32), iv 20, iv 32] []) tz
    refine XS.iinc X83.here hx rfl (hb hby own_d9_14) rfl (l' := #[rv u0, iv (-1 : Int32), iv 21, iv 32]) rfl ?_
    show sT p e below T83 (mkF m 17 #[rv u0, iv (-1 : Int32), iv 21, iv 32] []) tz
    refine XS.goto X83.here hx rfl (pc0 := 17) (pc' := 5) rfl (hb hby own_d9_17) (by decide) (by decide) ?_
    show sT p e below T83 (mkF m 5 #[rv u0, iv (-1 : Int32), iv 21, iv 32] []) tz
    refine XS.iloadN X83.here hx rfl (hb hby own_d9_5) rfl ?_
    show sT p e below T83 (mkF m 6 #[rv u0, iv (-1 : Int32), iv 21, iv 32] [(.int 21)]) tz
    refine XS.iloadN X83.here hx rfl (hb hby own_d9_6) rfl ?_
    show sT p e below T83 (mkF m 7 #[rv u0, iv (-1 : Int32), iv 21, iv 32] [(.int 32), (.int 21)]) tz
    refine XS.icmpNo X83.here hx rfl (hb hby own_d9_7) rfl (tlt (by decide : (21 : Int32) < (32 : Int32))).2.1 ?_
    show sT p e below T83 (mkF m 10 #[rv u0, iv (-1 : Int32), iv 21, iv 32] []) tz
    refine XS.aloadN X83.here hx rfl (hb hby own_d9_10) rfl rfl ?_
    show sT p e below T83 (mkF m 11 #[rv u0, iv (-1 : Int32), iv 21, iv 32] [(.ref u0)]) tz
    refine XS.iloadN X83.here hx rfl (hb hby own_d9_11) rfl ?_
    show sT p e below T83 (mkF m 12 #[rv u0, iv (-1 : Int32), iv 21, iv 32] [(.int 21), (.ref u0)]) tz
    refine XS.iloadN X83.here hx rfl (hb hby own_d9_12) rfl ?_
    exact kz
  obtain ⟨cl85, Ar85, q85, S85, M85, H85, G85⟩ := id V83
  have hin86 : ¬ ((21 : Int32) < 0 ∨ cl85.slots.size ≤ ((21 : Int32)).toNatClampNeg) := inb_of S85 ⟨by decide, by decide⟩
  obtain ⟨T86, h86, X86, e86, W86, st86⟩ := stI X83 hx hZ e83 Ar85 (j := (21 : Int32)) hin86 (g := (mkF m 13 #[rv u0, iv (-1 : Int32), iv 21, iv 32] [(.int (-1 : Int32)), (.int 21), (.ref u0)])) rfl rfl (hb hby own_d9_13)
  have V86 : Arv Z h86 u0 ks .int (32 : Int32) [(.int (-1 : Int32)), (.int (-1 : Int32)), (.int (-1 : Int32)), (.int (-1 : Int32)), (.int (-1 : Int32)), (.int (-1 : Int32)), (.int (-1 : Int32)), (.int (-1 : Int32)), (.int (-1 : Int32)), (.int (-1 : Int32)), (.int (-1 : Int32)), (.int (-1 : Int32)), (.int (-1 : Int32)), (.int (-1 : Int32)), (.int (-1 : Int32)), (.int (-1 : Int32)), (.int (-1 : Int32)), (.int (-1 : Int32)), (.int (-1 : Int32)), (.int (-1 : Int32)), (.int (-1 : Int32)), (.int (-1 : Int32)), (.int (0 : Int32)), (.int (0 : Int32)), (.int (0 : Int32)), (.int (0 : Int32)), (.int (0 : Int32)), (.int (0 : Int32)), (.int (0 : Int32)), (.int (0 : Int32)), (.int (0 : Int32)), (.int (0 : Int32))] (.int 0) := Arv.set Ar85 q85 S85 M85 H85 G85 rfl W86 21 rfl (Nat.le_of_ble_eq_true rfl)
  have N86 := Fr.snoc X86 N83 g_u0
  have O87 := O84.wr W86 g_u0
  have K87 : Keep h0 h86 [u0] := K84.wr W86 (Or.inl (List.mem_of_getElem? (i := 0) rfl))
  refine own_on (B := T86.setTop (mkF m 14 #[rv u0, iv (-1 : Int32), iv 21, iv 32] [])) (fun tz kz => st86 _ kz) ?_
  refine own_on (B := T86.setTop (mkF m 13 #[rv u0, iv (-1 : Int32), iv 22, iv 32] [(.int (-1 : Int32)), (.int 22), (.ref u0)])) (fun tz kz => ?_) ?_
  · show sT p e below T86 (mkF m 14 #[rv u0, iv (-1 : Int32), iv 21, iv 32] []) tz
    refine XS.iinc X86.here hx rfl (hb hby own_d9_14) rfl (l' := #[rv u0, iv (-1 : Int32), iv 22, iv 32]) rfl ?_
    show sT p e below T86 (mkF m 17 #[rv u0, iv (-1 : Int32), iv 22, iv 32] []) tz
    refine XS.goto X86.here hx rfl (pc0 := 17) (pc' := 5) rfl (hb hby own_d9_17) (by decide) (by decide) ?_
    show sT p e below T86 (mkF m 5 #[rv u0, iv (-1 : Int32), iv 22, iv 32] []) tz
    refine XS.iloadN X86.here hx rfl (hb hby own_d9_5) rfl ?_
    show sT p e below T86 (mkF m 6 #[rv u0, iv (-1 : Int32), iv 22, iv 32] [(.int 22)]) tz
    refine XS.iloadN X86.here hx rfl (hb hby own_d9_6) rfl ?_
    show sT p e below T86 (mkF m 7 #[rv u0, iv (-1 : Int32), iv 22, iv 32] [(.int 32), (.int 22)]) tz
    refine XS.icmpNo X86.here hx rfl (hb hby own_d9_7) rfl (tlt (by decide : (22 : Int32) < (32 : Int32))).2.1 ?_
    show sT p e below T86 (mkF m 10 #[rv u0, iv (-1 : Int32), iv 22, iv 32] []) tz
    refine XS.aloadN X86.here hx rfl (hb hby own_d9_10) rfl rfl ?_
    show sT p e below T86 (mkF m 11 #[rv u0, iv (-1 : Int32), iv 22, iv 32] [(.ref u0)]) tz
    refine XS.iloadN X86.here hx rfl (hb hby own_d9_11) rfl ?_
    show sT p e below T86 (mkF m 12 #[rv u0, iv (-1 : Int32), iv 22, iv 32] [(.int 22), (.ref u0)]) tz
    refine XS.iloadN X86.here hx rfl (hb hby own_d9_12) rfl ?_
    exact kz
  obtain ⟨cl88, Ar88, q88, S88, M88, H88, G88⟩ := id V86
  have hin89 : ¬ ((22 : Int32) < 0 ∨ cl88.slots.size ≤ ((22 : Int32)).toNatClampNeg) := inb_of S88 ⟨by decide, by decide⟩
  obtain ⟨T89, h89, X89, e89, W89, st89⟩ := stI X86 hx hZ e86 Ar88 (j := (22 : Int32)) hin89 (g := (mkF m 13 #[rv u0, iv (-1 : Int32), iv 22, iv 32] [(.int (-1 : Int32)), (.int 22), (.ref u0)])) rfl rfl (hb hby own_d9_13)
  have V89 : Arv Z h89 u0 ks .int (32 : Int32) [(.int (-1 : Int32)), (.int (-1 : Int32)), (.int (-1 : Int32)), (.int (-1 : Int32)), (.int (-1 : Int32)), (.int (-1 : Int32)), (.int (-1 : Int32)), (.int (-1 : Int32)), (.int (-1 : Int32)), (.int (-1 : Int32)), (.int (-1 : Int32)), (.int (-1 : Int32)), (.int (-1 : Int32)), (.int (-1 : Int32)), (.int (-1 : Int32)), (.int (-1 : Int32)), (.int (-1 : Int32)), (.int (-1 : Int32)), (.int (-1 : Int32)), (.int (-1 : Int32)), (.int (-1 : Int32)), (.int (-1 : Int32)), (.int (-1 : Int32)), (.int (0 : Int32)), (.int (0 : Int32)), (.int (0 : Int32)), (.int (0 : Int32)), (.int (0 : Int32)), (.int (0 : Int32)), (.int (0 : Int32)), (.int (0 : Int32)), (.int (0 : Int32))] (.int 0) := Arv.set Ar88 q88 S88 M88 H88 G88 rfl W89 22 rfl (Nat.le_of_ble_eq_true rfl)
  have N89 := Fr.snoc X89 N86 g_u0
  have O90 := O87.wr W89 g_u0
  have K90 : Keep h0 h89 [u0] := K87.wr W89 (Or.inl (List.mem_of_getElem? (i := 0) rfl))
  refine own_on (B := T89.setTop (mkF m 14 #[rv u0, iv (-1 : Int32), iv 22, iv 32] [])) (fun tz kz => st89 _ kz) ?_
  refine own_on (B := T89.setTop (mkF m 13 #[rv u0, iv (-1 : Int32), iv 23, iv 32] [(.int (-1 : Int32)), (.int 23), (.ref u0)])) (fun tz kz => ?_) ?_
  · show sT p e below T89 (mkF m 14 #[rv u0, iv (-1 : Int32), iv 22, iv 32] []) tz
    refine XS.iinc X89.here hx rfl (hb hby own_d9_14) rfl (l' := #[rv u0, iv (-1 : Int32), iv 23, iv 32]) rfl ?_
    show sT p e below T89 (mkF m 17 #[rv u0, iv (-1 : Int32), iv 23, iv 32] []) tz
    refine XS.goto X89.here hx rfl (pc0 := 17) (pc' := 5) rfl (hb hby own_d9_17) (by decide) (by decide) ?_
    show sT p e below T89 (mkF m 5 #[rv u0, iv (-1 : Int32), iv 23, iv 32] []) tz
    refine XS.iloadN X89.here hx rfl (hb hby own_d9_5) rfl ?_
    show sT p e below T89 (mkF m 6 #[rv u0, iv (-1 : Int32), iv 23, iv 32] [(.int 23)]) tz
    refine XS.iloadN X89.here hx rfl (hb hby own_d9_6) rfl ?_
    show sT p e below T89 (mkF m 7 #[rv u0, iv (-1 : Int32), iv 23, iv 32] [(.int 32), (.int 23)]) tz
    refine XS.icmpNo X89.here hx rfl (hb hby own_d9_7) rfl (tlt (by decide : (23 : Int32) < (32 : Int32))).2.1 ?_
    show sT p e below T89 (mkF m 10 #[rv u0, iv (-1 : Int32), iv 23, iv 32] []) tz
    refine XS.aloadN X89.here hx rfl (hb hby own_d9_10) rfl rfl ?_
    show sT p e below T89 (mkF m 11 #[rv u0, iv (-1 : Int32), iv 23, iv 32] [(.ref u0)]) tz
    refine XS.iloadN X89.here hx rfl (hb hby own_d9_11) rfl ?_
    show sT p e below T89 (mkF m 12 #[rv u0, iv (-1 : Int32), iv 23, iv 32] [(.int 23), (.ref u0)]) tz
    refine XS.iloadN X89.here hx rfl (hb hby own_d9_12) rfl ?_
    exact kz
  obtain ⟨cl91, Ar91, q91, S91, M91, H91, G91⟩ := id V89
  have hin92 : ¬ ((23 : Int32) < 0 ∨ cl91.slots.size ≤ ((23 : Int32)).toNatClampNeg) := inb_of S91 ⟨by decide, by decide⟩
  obtain ⟨T92, h92, X92, e92, W92, st92⟩ := stI X89 hx hZ e89 Ar91 (j := (23 : Int32)) hin92 (g := (mkF m 13 #[rv u0, iv (-1 : Int32), iv 23, iv 32] [(.int (-1 : Int32)), (.int 23), (.ref u0)])) rfl rfl (hb hby own_d9_13)
  have V92 : Arv Z h92 u0 ks .int (32 : Int32) [(.int (-1 : Int32)), (.int (-1 : Int32)), (.int (-1 : Int32)), (.int (-1 : Int32)), (.int (-1 : Int32)), (.int (-1 : Int32)), (.int (-1 : Int32)), (.int (-1 : Int32)), (.int (-1 : Int32)), (.int (-1 : Int32)), (.int (-1 : Int32)), (.int (-1 : Int32)), (.int (-1 : Int32)), (.int (-1 : Int32)), (.int (-1 : Int32)), (.int (-1 : Int32)), (.int (-1 : Int32)), (.int (-1 : Int32)), (.int (-1 : Int32)), (.int (-1 : Int32)), (.int (-1 : Int32)), (.int (-1 : Int32)), (.int (-1 : Int32)), (.int (-1 : Int32)), (.int (0 : Int32)), (.int (0 : Int32)), (.int (0 : Int32)), (.int (0 : Int32)), (.int (0 : Int32)), (.int (0 : Int32)), (.int (0 : Int32)), (.int (0 : Int32))] (.int 0) := Arv.set Ar91 q91 S91 M91 H91 G91 rfl W92 23 rfl (Nat.le_of_ble_eq_true rfl)
  have N92 := Fr.snoc X92 N89 g_u0
  have O93 := O90.wr W92 g_u0
  have K93 : Keep h0 h92 [u0] := K90.wr W92 (Or.inl (List.mem_of_getElem? (i := 0) rfl))
  refine own_on (B := T92.setTop (mkF m 14 #[rv u0, iv (-1 : Int32), iv 23, iv 32] [])) (fun tz kz => st92 _ kz) ?_
  refine own_on (B := T92.setTop (mkF m 13 #[rv u0, iv (-1 : Int32), iv 24, iv 32] [(.int (-1 : Int32)), (.int 24), (.ref u0)])) (fun tz kz => ?_) ?_
  · show sT p e below T92 (mkF m 14 #[rv u0, iv (-1 : Int32), iv 23, iv 32] []) tz
    refine XS.iinc X92.here hx rfl (hb hby own_d9_14) rfl (l' := #[rv u0, iv (-1 : Int32), iv 24, iv 32]) rfl ?_
    show sT p e below T92 (mkF m 17 #[rv u0, iv (-1 : Int32), iv 24, iv 32] []) tz
    refine XS.goto X92.here hx rfl (pc0 := 17) (pc' := 5) rfl (hb hby own_d9_17) (by decide) (by decide) ?_
    show sT p e below T92 (mkF m 5 #[rv u0, iv (-1 : Int32), iv 24, iv 32] []) tz
    refine XS.iloadN X92.here hx rfl (hb hby own_d9_5) rfl ?_
    show sT p e below T92 (mkF m 6 #[rv u0, iv (-1 : Int32), iv 24, iv 32] [(.int 24)]) tz
    refine XS.iloadN X92.here hx rfl (hb hby own_d9_6) rfl ?_
    show sT p e below T92 (mkF m 7 #[rv u0, iv (-1 : Int32), iv 24, iv 32] [(.int 32), (.int 24)]) tz
    refine XS.icmpNo X92.here hx rfl (hb hby own_d9_7) rfl (tlt (by decide : (24 : Int32) < (32 : Int32))).2.1 ?_
    show sT p e below T92 (mkF m 10 #[rv u0, iv (-1 : Int32), iv 24, iv 32] []) tz
    refine XS.aloadN X92.here hx rfl (hb hby own_d9_10) rfl rfl ?_
    show sT p e below T92 (mkF m 11 #[rv u0, iv (-1 : Int32), iv 24, iv 32] [(.ref u0)]) tz
    refine XS.iloadN X92.here hx rfl (hb hby own_d9_11) rfl ?_
    show sT p e below T92 (mkF m 12 #[rv u0, iv (-1 : Int32), iv 24, iv 32] [(.int 24), (.ref u0)]) tz
    refine XS.iloadN X92.here hx rfl (hb hby own_d9_12) rfl ?_
    exact kz
  obtain ⟨cl94, Ar94, q94, S94, M94, H94, G94⟩ := id V92
  have hin95 : ¬ ((24 : Int32) < 0 ∨ cl94.slots.size ≤ ((24 : Int32)).toNatClampNeg) := inb_of S94 ⟨by decide, by decide⟩
  obtain ⟨T95, h95, X95, e95, W95, st95⟩ := stI X92 hx hZ e92 Ar94 (j := (24 : Int32)) hin95 (g := (mkF m 13 #[rv u0, iv (-1 : Int32), iv 24, iv 32] [(.int (-1 : Int32)), (.int 24), (.ref u0)])) rfl rfl (hb hby own_d9_13)
  have V95 : Arv Z h95 u0 ks .int (32 : Int32) [(.int (-1 : Int32)), (.int (-1 : Int32)), (.int (-1 : Int32)), (.int (-1 : Int32)), (.int (-1 : Int32)), (.int (-1 : Int32)), (.int (-1 : Int32)), (.int (-1 : Int32)), (.int (-1 : Int32)), (.int (-1 : Int32)), (.int (-1 : Int32)), (.int (-1 : Int32)), (.int (-1 : Int32)), (.int (-1 : Int32)), (.int (-1 : Int32)), (.int (-1 : Int32)), (.int (-1 : Int32)), (.int (-1 : Int32)), (.int (-1 : Int32)), (.int (-1 : Int32)), (.int (-1 : Int32)), (.int (-1 : Int32)), (.int (-1 : Int32)), (.int (-1 : Int32)), (.int (-1 : Int32)), (.int (0 : Int32)), (.int (0 : Int32)), (.int (0 : Int32)), (.int (0 : Int32)), (.int (0 : Int32)), (.int (0 : Int32)), (.int (0 : Int32))] (.int 0) := Arv.set Ar94 q94 S94 M94 H94 G94 rfl W95 24 rfl (Nat.le_of_ble_eq_true rfl)
  have N95 := Fr.snoc X95 N92 g_u0
  have O96 := O93.wr W95 g_u0
  have K96 : Keep h0 h95 [u0] := K93.wr W95 (Or.inl (List.mem_of_getElem? (i := 0) rfl))
  refine own_on (B := T95.setTop (mkF m 14 #[rv u0, iv (-1 : Int32), iv 24, iv 32] [])) (fun tz kz => st95 _ kz) ?_
  refine own_on (B := T95.setTop (mkF m 13 #[rv u0, iv (-1 : Int32), iv 25, iv 32] [(.int (-1 : Int32)), (.int 25), (.ref u0)])) (fun tz kz => ?_) ?_
  · show sT p e below T95 (mkF m 14 #[rv u0, iv (-1 : Int32), iv 24, iv 32] []) tz
    refine XS.iinc X95.here hx rfl (hb hby own_d9_14) rfl (l' := #[rv u0, iv (-1 : Int32), iv 25, iv 32]) rfl ?_
    show sT p e below T95 (mkF m 17 #[rv u0, iv (-1 : Int32), iv 25, iv 32] []) tz
    refine XS.goto X95.here hx rfl (pc0 := 17) (pc' := 5) rfl (hb hby own_d9_17) (by decide) (by decide) ?_
    show sT p e below T95 (mkF m 5 #[rv u0, iv (-1 : Int32), iv 25, iv 32] []) tz
    refine XS.iloadN X95.here hx rfl (hb hby own_d9_5) rfl ?_
    show sT p e below T95 (mkF m 6 #[rv u0, iv (-1 : Int32), iv 25, iv 32] [(.int 25)]) tz
    refine XS.iloadN X95.here hx rfl (hb hby own_d9_6) rfl ?_
    show sT p e below T95 (mkF m 7 #[rv u0, iv (-1 : Int32), iv 25, iv 32] [(.int 32), (.int 25)]) tz
    refine XS.icmpNo X95.here hx rfl (hb hby own_d9_7) rfl (tlt (by decide : (25 : Int32) < (32 : Int32))).2.1 ?_
    show sT p e below T95 (mkF m 10 #[rv u0, iv (-1 : Int32), iv 25, iv 32] []) tz
    refine XS.aloadN X95.here hx rfl (hb hby own_d9_10) rfl rfl ?_
    show sT p e below T95 (mkF m 11 #[rv u0, iv (-1 : Int32), iv 25, iv 32] [(.ref u0)]) tz
    refine XS.iloadN X95.here hx rfl (hb hby own_d9_11) rfl ?_
    show sT p e below T95 (mkF m 12 #[rv u0, iv (-1 : Int32), iv 25, iv 32] [(.int 25), (.ref u0)]) tz
    refine XS.iloadN X95.here hx rfl (hb hby own_d9_12) rfl ?_
    exact kz
  obtain ⟨cl97, Ar97, q97, S97, M97, H97, G97⟩ := id V95
  have hin98 : ¬ ((25 : Int32) < 0 ∨ cl97.slots.size ≤ ((25 : Int32)).toNatClampNeg) := inb_of S97 ⟨by decide, by decide⟩
  obtain ⟨T98, h98, X98, e98, W98, st98⟩ := stI X95 hx hZ e95 Ar97 (j := (25 : Int32)) hin98 (g := (mkF m 13 #[rv u0, iv (-1 : Int32), iv 25, iv 32] [(.int (-1 : Int32)), (.int 25), (.ref u0)])) rfl rfl (hb hby own_d9_13)
  have V98 : Arv Z h98 u0 ks .int (32 : Int32) [(.int (-1 : Int32)), (.int (-1 : Int32)), (.int (-1 : Int32)), (.int (-1 : Int32)), (.int (-1 : Int32)), (.int (-1 : Int32)), (.int (-1 : Int32)), (.int (-1 : Int32)), (.int (-1 : Int32)), (.int (-1 : Int32)), (.int (-1 : Int32)), (.int (-1 : Int32)), (.int (-1 : Int32)), (.int (-1 : Int32)), (.int (-1 : Int32)), (.int (-1 : Int32)), (.int (-1 : Int32)), (.int (-1 : Int32)), (.int (-1 : Int32)), (.int (-1 : Int32)), (.int (-1 : Int32)), (.int (-1 : Int32)), (.int (-1 : Int32)), (.int (-1 : Int32)), (.int (-1 : Int32)), (.int (-1 : Int32)), (.int (0 : Int32)), (.int (0 : Int32)), (.int (0 : Int32)), (.int (0 : Int32)), (.int (0 : Int32)), (.int (0 : Int32))] (.int 0) := Arv.set Ar97 q97 S97 M97 H97 G97 rfl W98 25 rfl (Nat.le_of_ble_eq_true rfl)
  have N98 := Fr.snoc X98 N95 g_u0
  have O99 := O96.wr W98 g_u0
  have K99 : Keep h0 h98 [u0] := K96.wr W98 (Or.inl (List.mem_of_getElem? (i := 0) rfl))
  refine own_on (B := T98.setTop (mkF m 14 #[rv u0, iv (-1 : Int32), iv 25, iv 32] [])) (fun tz kz => st98 _ kz) ?_
  refine own_on (B := T98.setTop (mkF m 13 #[rv u0, iv (-1 : Int32), iv 26, iv 32] [(.int (-1 : Int32)), (.int 26), (.ref u0)])) (fun tz kz => ?_) ?_
  · show sT p e below T98 (mkF m 14 #[rv u0, iv (-1 : Int32), iv 25, iv 32] []) tz
    refine XS.iinc X98.here hx rfl (hb hby own_d9_14) rfl (l' := #[rv u0, iv (-1 : Int32), iv 26, iv 32]) rfl ?_
    show sT p e below T98 (mkF m 17 #[rv u0, iv (-1 : Int32), iv 26, iv 32] []) tz
    refine XS.goto X98.here hx rfl (pc0 := 17) (pc' := 5) rfl (hb hby own_d9_17) (by decide) (by decide) ?_
    show sT p e below T98 (mkF m 5 #[rv u0, iv (-1 : Int32), iv 26, iv 32] []) tz
    refine XS.iloadN X98.here hx rfl (hb hby own_d9_5) rfl ?_
    show sT p e below T98 (mkF m 6 #[rv u0, iv (-1 : Int32), iv 26, iv 32] [(.int 26)]) tz
    refine XS.iloadN X98.here hx rfl (hb hby own_d9_6) rfl ?_
    show sT p e below T98 (mkF m 7 #[rv u0, iv (-1 : Int32), iv 26, iv 32] [(.int 32), (.int 26)]) tz
    refine XS.icmpNo X98.here hx rfl (hb hby own_d9_7) rfl (tlt (by decide : (26 : Int32) < (32 : Int32))).2.1 ?_
    show sT p e below T98 (mkF m 10 #[rv u0, iv (-1 : Int32), iv 26, iv 32] []) tz
    refine XS.aloadN X98.here hx rfl (hb hby own_d9_10) rfl rfl ?_
    show sT p e below T98 (mkF m 11 #[rv u0, iv (-1 : Int32), iv 26, iv 32] [(.ref u0)]) tz
    refine XS.iloadN X98.here hx rfl (hb hby own_d9_11) rfl ?_
    show sT p e below T98 (mkF m 12 #[rv u0, iv (-1 : Int32), iv 26, iv 32] [(.int 26), (.ref u0)]) tz
    refine XS.iloadN X98.here hx rfl (hb hby own_d9_12) rfl ?_
    exact kz
  obtain ⟨cl100, Ar100, q100, S100, M100, H100, G100⟩ := id V98
  have hin101 : ¬ ((26 : Int32) < 0 ∨ cl100.slots.size ≤ ((26 : Int32)).toNatClampNeg) := inb_of S100 ⟨by decide, by decide⟩
  obtain ⟨T101, h101, X101, e101, W101, st101⟩ := stI X98 hx hZ e98 Ar100 (j := (26 : Int32)) hin101 (g := (mkF m 13 #[rv u0, iv (-1 : Int32), iv 26, iv 32] [(.int (-1 : Int32)), (.int 26), (.ref u0)])) rfl rfl (hb hby own_d9_13)
  have V101 : Arv Z h101 u0 ks .int (32 : Int32) [(.int (-1 : Int32)), (.int (-1 : Int32)), (.int (-1 : Int32)), (.int (-1 : Int32)), (.int (-1 : Int32)), (.int (-1 : Int32)), (.int (-1 : Int32)), (.int (-1 : Int32)), (.int (-1 : Int32)), (.int (-1 : Int32)), (.int (-1 : Int32)), (.int (-1 : Int32)), (.int (-1 : Int32)), (.int (-1 : Int32)), (.int (-1 : Int32)), (.int (-1 : Int32)), (.int (-1 : Int32)), (.int (-1 : Int32)), (.int (-1 : Int32)), (.int (-1 : Int32)), (.int (-1 : Int32)), (.int (-1 : Int32)), (.int (-1 : Int32)), (.int (-1 : Int32)), (.int (-1 : Int32)), (.int (-1 : Int32)), (.int (-1 : Int32)), (.int (0 : Int32)), (.int (0 : Int32)), (.int (0 : Int32)), (.int (0 : Int32)), (.int (0 : Int32))] (.int 0) := Arv.set Ar100 q100 S100 M100 H100 G100 rfl W101 26 rfl (Nat.le_of_ble_eq_true rfl)
  have N101 := Fr.snoc X101 N98 g_u0
  have O102 := O99.wr W101 g_u0
  have K102 : Keep h0 h101 [u0] := K99.wr W101 (Or.inl (List.mem_of_getElem? (i := 0) rfl))
  refine own_on (B := T101.setTop (mkF m 14 #[rv u0, iv (-1 : Int32), iv 26, iv 32] [])) (fun tz kz => st101 _ kz) ?_
  refine own_on (B := T101.setTop (mkF m 13 #[rv u0, iv (-1 : Int32), iv 27, iv 32] [(.int (-1 : Int32)), (.int 27), (.ref u0)])) (fun tz kz => ?_) ?_
  · show sT p e below T101 (mkF m 14 #[rv u0, iv (-1 : Int32), iv 26, iv 32] []) tz
    refine XS.iinc X101.here hx rfl (hb hby own_d9_14) rfl (l' := #[rv u0, iv (-1 : Int32), iv 27, iv 32]) rfl ?_
    show sT p e below T101 (mkF m 17 #[rv u0, iv (-1 : Int32), iv 27, iv 32] []) tz
    refine XS.goto X101.here hx rfl (pc0 := 17) (pc' := 5) rfl (hb hby own_d9_17) (by decide) (by decide) ?_
    show sT p e below T101 (mkF m 5 #[rv u0, iv (-1 : Int32), iv 27, iv 32] []) tz
    refine XS.iloadN X101.here hx rfl (hb hby own_d9_5) rfl ?_
    show sT p e below T101 (mkF m 6 #[rv u0, iv (-1 : Int32), iv 27, iv 32] [(.int 27)]) tz
    refine XS.iloadN X101.here hx rfl (hb hby own_d9_6) rfl ?_
    show sT p e below T101 (mkF m 7 #[rv u0, iv (-1 : Int32), iv 27, iv 32] [(.int 32), (.int 27)]) tz
    refine XS.icmpNo X101.here hx rfl (hb hby own_d9_7) rfl (tlt (by decide : (27 : Int32) < (32 : Int32))).2.1 ?_
    show sT p e below T101 (mkF m 10 #[rv u0, iv (-1 : Int32), iv 27, iv 32] []) tz
    refine XS.aloadN X101.here hx rfl (hb hby own_d9_10) rfl rfl ?_
    show sT p e below T101 (mkF m 11 #[rv u0, iv (-1 : Int32), iv 27, iv 32] [(.ref u0)]) tz
    refine XS.iloadN X101.here hx rfl (hb hby own_d9_11) rfl ?_
    show sT p e below T101 (mkF m 12 #[rv u0, iv (-1 : Int32), iv 27, iv 32] [(.int 27), (.ref u0)]) tz
    refine XS.iloadN X101.here hx rfl (hb hby own_d9_12) rfl ?_
    exact kz
  obtain ⟨cl103, Ar103, q103, S103, M103, H103, G103⟩ := id V101
  have hin104 : ¬ ((27 : Int32) < 0 ∨ cl103.slots.size ≤ ((27 : Int32)).toNatClampNeg) := inb_of S103 ⟨by decide, by decide⟩
  obtain ⟨T104, h104, X104, e104, W104, st104⟩ := stI X101 hx hZ e101 Ar103 (j := (27 : Int32)) hin104 (g := (mkF m 13 #[rv u0, iv (-1 : Int32), iv 27, iv 32] [(.int (-1 : Int32)), (.int 27), (.ref u0)])) rfl rfl (hb hby own_d9_13)
  have V104 : Arv Z h104 u0 ks .int (32 : Int32) [(.int (-1 : Int32)), (.int (-1 : Int32)), (.int (-1 : Int32)), (.int (-1 : Int32)), (.int (-1 : Int32)), (.int (-1 : Int32)), (.int (-1 : Int32)), (.int (-1 : Int32)), (.int (-1 : Int32)), (.int (-1 : Int32)), (.int (-1 : Int32)), (.int (-1 : Int32)), (.int (-1 : Int32)), (.int (-1 : Int32)), (.int (-1 : Int32)), (.int (-1 : Int32)), (.int (-1 : Int32)), (.int (-1 : Int32)), (.int (-1 : Int32)), (.int (-1 : Int32)), (.int (-1 : Int32)), (.int (-1 : Int32)), (.int (-1 : Int32)), (.int (-1 : Int32)), (.int (-1 : Int32)), (.int (-1 : Int32)), (.int (-1 : Int32)), (.int (-1 : Int32)), (.int (0 : Int32)), (.int (0 : Int32)), (.int (0 : Int32)), (.int (0 : Int32))] (.int 0) := Arv.set Ar103 q103 S103 M103 H103 G103 rfl W104 27 rfl (Nat.le_of_ble_eq_true rfl)
  have N104 := Fr.snoc X104 N101 g_u0
  have O105 := O102.wr W104 g_u0
  have K105 : Keep h0 h104 [u0] := K102.wr W104 (Or.inl (List.mem_of_getElem? (i := 0) rfl))
  refine own_on (B := T104.setTop (mkF m 14 #[rv u0, iv (-1 : Int32), iv 27, iv 32] [])) (fun tz kz => st104 _ kz) ?_
  refine own_on (B := T104.setTop (mkF m 13 #[rv u0, iv (-1 : Int32), iv 28, iv 32] [(.int (-1 : Int32)), (.int 28), (.ref u0)])) (fun tz kz => ?_) ?_
  · show sT p e below T104 (mkF m 14 #[rv u0, iv (-1 : Int32), iv 27, iv 32] []) tz
    refine XS.iinc X104.here hx rfl (hb hby own_d9_14) rfl (l' := #[rv u0, iv (-1 : Int32), iv 28, iv 32]) rfl ?_
    show sT p e below T104 (mkF m 17 #[rv u0, iv (-1 : Int32), iv 28, iv 32] []) tz
    refine XS.goto X104.here hx rfl (pc0 := 17) (pc' := 5) rfl (hb hby own_d9_17) (by decide) (by decide) ?_
    show sT p e below T104 (mkF m 5 #[rv u0, iv (-1 : Int32), iv 28, iv 32] []) tz
    refine XS.iloadN X104.here hx rfl (hb hby own_d9_5) rfl ?_
    show sT p e below T104 (mkF m 6 #[rv u0, iv (-1 : Int32), iv 28, iv 32] [(.int 28)]) tz
    refine XS.iloadN X104.here hx rfl (hb hby own_d9_6) rfl ?_
    show sT p e below T104 (mkF m 7 #[rv u0, iv (-1 : Int32), iv 28, iv 32] [(.int 32), (.int 28)]) tz
    refine XS.icmpNo X104.here hx rfl (hb hby own_d9_7) rfl (tlt (by decide : (28 : Int32) < (32 : Int32))).2.1 ?_
    show sT p e below T104 (mkF m 10 #[rv u0, iv (-1 : Int32), iv 28, iv 32] []) tz
    refine XS.aloadN X104.here hx rfl (hb hby own_d9_10) rfl rfl ?_
    show sT p e below T104 (mkF m 11 #[rv u0, iv (-1 : Int32), iv 28, iv 32] [(.ref u0)]) tz
    refine XS.iloadN X104.here hx rfl (hb hby own_d9_11) rfl ?_
    show sT p e below T104 (mkF m 12 #[rv u0, iv (-1 : Int32), iv 28, iv 32] [(.int 28), (.ref u0)]) tz
    refine XS.iloadN X104.here hx rfl (hb hby own_d9_12) rfl ?_
    exact kz
  obtain ⟨cl106, Ar106, q106, S106, M106, H106, G106⟩ := id V104
  have hin107 : ¬ ((28 : Int32) < 0 ∨ cl106.slots.size ≤ ((28 : Int32)).toNatClampNeg) := inb_of S106 ⟨by decide, by decide⟩
  obtain ⟨T107, h107, X107, e107, W107, st107⟩ := stI X104 hx hZ e104 Ar106 (j := (28 : Int32)) hin107 (g := (mkF m 13 #[rv u0, iv (-1 : Int32), iv 28, iv 32] [(.int (-1 : Int32)), (.int 28), (.ref u0)])) rfl rfl (hb hby own_d9_13)
  have V107 : Arv Z h107 u0 ks .int (32 : Int32) [(.int (-1 : Int32)), (.int (-1 : Int32)), (.int (-1 : Int32)), (.int (-1 : Int32)), (.int (-1 : Int32)), (.int (-1 : Int32)), (.int (-1 : Int32)), (.int (-1 : Int32)), (.int (-1 : Int32)), (.int (-1 : Int32)), (.int (-1 : Int32)), (.int (-1 : Int32)), (.int (-1 : Int32)), (.int (-1 : Int32)), (.int (-1 : Int32)), (.int (-1 : Int32)), (.int (-1 : Int32)), (.int (-1 : Int32)), (.int (-1 : Int32)), (.int (-1 : Int32)), (.int (-1 : Int32)), (.int (-1 : Int32)), (.int (-1 : Int32)), (.int (-1 : Int32)), (.int (-1 : Int32)), (.int (-1 : Int32)), (.int (-1 : Int32)), (.int (-1 : Int32)), (.int (-1 : Int32)), (.int (0 : Int32)), (.int (0 : Int32)), (.int (0 : Int32))] (.int 0) := Arv.set Ar106 q106 S106 M106 H106 G106 rfl W107 28 rfl (Nat.le_of_ble_eq_true rfl)
  have N107 := Fr.snoc X107 N104 g_u0
  have O108 := O105.wr W107 g_u0
  have K108 : Keep h0 h107 [u0] := K105.wr W107 (Or.inl (List.mem_of_getElem? (i := 0) rfl))
  refine own_on (B := T107.setTop (mkF m 14 #[rv u0, iv (-1 : Int32), iv 28, iv 32] [])) (fun tz kz => st107 _ kz) ?_
  refine own_on (B := T107.setTop (mkF m 13 #[rv u0, iv (-1 : Int32), iv 29, iv 32] [(.int (-1 : Int32)), (.int 29), (.ref u0)])) (fun tz kz => ?_) ?_
  · show sT p e below T107 (mkF m 14 #[rv u0, iv (-1 : Int32), iv 28, iv 32] []) tz
    refine XS.iinc X107.here hx rfl (hb hby own_d9_14) rfl (l' := #[rv u0, iv (-1 : Int32), iv 29, iv 32]) rfl ?_
    show sT p e below T107 (mkF m 17 #[rv u0, iv (-1 : Int32), iv 29, iv 32] []) tz
    refine XS.goto X107.here hx rfl (pc0 := 17) (pc' := 5) rfl (hb hby own_d9_17) (by decide) (by decide) ?_
    show sT p e below T107 (mkF m 5 #[rv u0, iv (-1 : Int32), iv 29, iv 32] []) tz
    refine XS.iloadN X107.here hx rfl (hb hby own_d9_5) rfl ?_
    show sT p e below T107 (mkF m 6 #[rv u0, iv (-1 : Int32), iv 29, iv 32] [(.int 29)]) tz
    refine XS.iloadN X107.here hx rfl (hb hby own_d9_6) rfl ?_
    show sT p e below T107 (mkF m 7 #[rv u0, iv (-1 : Int32), iv 29, iv 32] [(.int 32), (.int 29)]) tz
    refine XS.icmpNo X107.here hx rfl (hb hby own_d9_7) rfl (tlt (by decide : (29 : Int32) < (32 : Int32))).2.1 ?_
    show sT p e below T107 (mkF m 10 #[rv u0, iv (-1 : Int32), iv 29, iv 32] []) tz
    refine XS.aloadN X107.here hx rfl (hb hby own_d9_10) rfl rfl ?_
    show sT p e below T107 (mkF m 11 #[rv u0, iv (-1 : Int32), iv 29, iv 32] [(.ref u0)]) tz
    refine XS.iloadN X107.here hx rfl (hb hby own_d9_11) rfl ?_
    show sT p e below T107 (mkF m 12 #[rv u0, iv (-1 : Int32), iv 29, iv 32] [(.int 29), (.ref u0)]) tz
    refine XS.iloadN X107.here hx rfl (hb hby own_d9_12) rfl ?_
    exact kz
  obtain ⟨cl109, Ar109, q109, S109, M109, H109, G109⟩ := id V107
  have hin110 : ¬ ((29 : Int32) < 0 ∨ cl109.slots.size ≤ ((29 : Int32)).toNatClampNeg) := inb_of S109 ⟨by decide, by decide⟩
  obtain ⟨T110, h110, X110, e110, W110, st110⟩ := stI X107 hx hZ e107 Ar109 (j := (29 : Int32)) hin110 (g := (mkF m 13 #[rv u0, iv (-1 : Int32), iv 29, iv 32] [(.int (-1 : Int32)), (.int 29), (.ref u0)])) rfl rfl (hb hby own_d9_13)
  have V110 : Arv Z h110 u0 ks .int (32 : Int32) [(.int (-1 : Int32)), (.int (-1 : Int32)), (.int (-1 : Int32)), (.int (-1 : Int32)), (.int (-1 : Int32)), (.int (-1 : Int32)), (.int (-1 : Int32)), (.int (-1 : Int32)), (.int (-1 : Int32)), (.int (-1 : Int32)), (.int (-1 : Int32)), (.int (-1 : Int32)), (.int (-1 : Int32)), (.int (-1 : Int32)), (.int (-1 : Int32)), (.int (-1 : Int32)), (.int (-1 : Int32)), (.int (-1 : Int32)), (.int (-1 : Int32)), (.int (-1 : Int32)), (.int (-1 : Int32)), (.int (-1 : Int32)), (.int (-1 : Int32)), (.int (-1 : Int32)), (.int (-1 : Int32)), (.int (-1 : Int32)), (.int (-1 : Int32)), (.int (-1 : Int32)), (.int (-1 : Int32)), (.int (-1 : Int32)), (.int (0 : Int32)), (.int (0 : Int32))] (.int 0) := Arv.set Ar109 q109 S109 M109 H109 G109 rfl W110 29 rfl (Nat.le_of_ble_eq_true rfl)
  have N110 := Fr.snoc X110 N107 g_u0
  have O111 := O108.wr W110 g_u0
  have K111 : Keep h0 h110 [u0] := K108.wr W110 (Or.inl (List.mem_of_getElem? (i := 0) rfl))
  refine own_on (B := T110.setTop (mkF m 14 #[rv u0, iv (-1 : Int32), iv 29, iv 32] [])) (fun tz kz => st110 _ kz) ?_
  refine own_on (B := T110.setTop (mkF m 13 #[rv u0, iv (-1 : Int32), iv 30, iv 32] [(.int (-1 : Int32)), (.int 30), (.ref u0)])) (fun tz kz => ?_) ?_
  · show sT p e below T110 (mkF m 14 #[rv u0, iv (-1 : Int32), iv 29, iv 32] []) tz
    refine XS.iinc X110.here hx rfl (hb hby own_d9_14) rfl (l' := #[rv u0, iv (-1 : Int32), iv 30, iv 32]) rfl ?_
    show sT p e below T110 (mkF m 17 #[rv u0, iv (-1 : Int32), iv 30, iv 32] []) tz
    refine XS.goto X110.here hx rfl (pc0 := 17) (pc' := 5) rfl (hb hby own_d9_17) (by decide) (by decide) ?_
    show sT p e below T110 (mkF m 5 #[rv u0, iv (-1 : Int32), iv 30, iv 32] []) tz
    refine XS.iloadN X110.here hx rfl (hb hby own_d9_5) rfl ?_
    show sT p e below T110 (mkF m 6 #[rv u0, iv (-1 : Int32), iv 30, iv 32] [(.int 30)]) tz
    refine XS.iloadN X110.here hx rfl (hb hby own_d9_6) rfl ?_
    show sT p e below T110 (mkF m 7 #[rv u0, iv (-1 : Int32), iv 30, iv 32] [(.int 32), (.int 30)]) tz
    refine XS.icmpNo X110.here hx rfl (hb hby own_d9_7) rfl (tlt (by decide : (30 : Int32) < (32 : Int32))).2.1 ?_
    show sT p e below T110 (mkF m 10 #[rv u0, iv (-1 : Int32), iv 30, iv 32] []) tz
    refine XS.aloadN X110.here hx rfl (hb hby own_d9_10) rfl rfl ?_
    show sT p e below T110 (mkF m 11 #[rv u0, iv (-1 : Int32), iv 30, iv 32] [(.ref u0)]) tz
    refine XS.iloadN X110.here hx rfl (hb hby own_d9_11) rfl ?_
    show sT p e below T110 (mkF m 12 #[rv u0, iv (-1 : Int32), iv 30, iv 32] [(.int 30), (.ref u0)]) tz
    refine XS.iloadN X110.here hx rfl (hb hby own_d9_12) rfl ?_
    exact kz
  obtain ⟨cl112, Ar112, q112, S112, M112, H112, G112⟩ := id V110
  have hin113 : ¬ ((30 : Int32) < 0 ∨ cl112.slots.size ≤ ((30 : Int32)).toNatClampNeg) := inb_of S112 ⟨by decide, by decide⟩
  obtain ⟨T113, h113, X113, e113, W113, st113⟩ := stI X110 hx hZ e110 Ar112 (j := (30 : Int32)) hin113 (g := (mkF m 13 #[rv u0, iv (-1 : Int32), iv 30, iv 32] [(.int (-1 : Int32)), (.int 30), (.ref u0)])) rfl rfl (hb hby own_d9_13)
  have V113 : Arv Z h113 u0 ks .int (32 : Int32) [(.int (-1 : Int32)), (.int (-1 : Int32)), (.int (-1 : Int32)), (.int (-1 : Int32)), (.int (-1 : Int32)), (.int (-1 : Int32)), (.int (-1 : Int32)), (.int (-1 : Int32)), (.int (-1 : Int32)), (.int (-1 : Int32)), (.int (-1 : Int32)), (.int (-1 : Int32)), (.int (-1 : Int32)), (.int (-1 : Int32)), (.int (-1 : Int32)), (.int (-1 : Int32)), (.int (-1 : Int32)), (.int (-1 : Int32)), (.int (-1 : Int32)), (.int (-1 : Int32)), (.int (-1 : Int32)), (.int (-1 : Int32)), (.int (-1 : Int32)), (.int (-1 : Int32)), (.int (-1 : Int32)), (.int (-1 : Int32)), (.int (-1 : Int32)), (.int (-1 : Int32)), (.int (-1 : Int32)), (.int (-1 : Int32)), (.int (-1 : Int32)), (.int (0 : Int32))] (.int 0) := Arv.set Ar112 q112 S112 M112 H112 G112 rfl W113 30 rfl (Nat.le_of_ble_eq_true rfl)
  have N113 := Fr.snoc X113 N110 g_u0
  have O114 := O111.wr W113 g_u0
  have K114 : Keep h0 h113 [u0] := K111.wr W113 (Or.inl (List.mem_of_getElem? (i := 0) rfl))
  refine own_on (B := T113.setTop (mkF m 14 #[rv u0, iv (-1 : Int32), iv 30, iv 32] [])) (fun tz kz => st113 _ kz) ?_
  refine own_on (B := T113.setTop (mkF m 13 #[rv u0, iv (-1 : Int32), iv 31, iv 32] [(.int (-1 : Int32)), (.int 31), (.ref u0)])) (fun tz kz => ?_) ?_
  · show sT p e below T113 (mkF m 14 #[rv u0, iv (-1 : Int32), iv 30, iv 32] []) tz
    refine XS.iinc X113.here hx rfl (hb hby own_d9_14) rfl (l' := #[rv u0, iv (-1 : Int32), iv 31, iv 32]) rfl ?_
    show sT p e below T113 (mkF m 17 #[rv u0, iv (-1 : Int32), iv 31, iv 32] []) tz
    refine XS.goto X113.here hx rfl (pc0 := 17) (pc' := 5) rfl (hb hby own_d9_17) (by decide) (by decide) ?_
    show sT p e below T113 (mkF m 5 #[rv u0, iv (-1 : Int32), iv 31, iv 32] []) tz
    refine XS.iloadN X113.here hx rfl (hb hby own_d9_5) rfl ?_
    show sT p e below T113 (mkF m 6 #[rv u0, iv (-1 : Int32), iv 31, iv 32] [(.int 31)]) tz
    refine XS.iloadN X113.here hx rfl (hb hby own_d9_6) rfl ?_
    show sT p e below T113 (mkF m 7 #[rv u0, iv (-1 : Int32), iv 31, iv 32] [(.int 32), (.int 31)]) tz
    refine XS.icmpNo X113.here hx rfl (hb hby own_d9_7) rfl (tlt (by decide : (31 : Int32) < (32 : Int32))).2.1 ?_
    show sT p e below T113 (mkF m 10 #[rv u0, iv (-1 : Int32), iv 31, iv 32] []) tz
    refine XS.aloadN X113.here hx rfl (hb hby own_d9_10) rfl rfl ?_
    show sT p e below T113 (mkF m 11 #[rv u0, iv (-1 : Int32), iv 31, iv 32] [(.ref u0)]) tz
    refine XS.iloadN X113.here hx rfl (hb hby own_d9_11) rfl ?_
    show sT p e below T113 (mkF m 12 #[rv u0, iv (-1 : Int32), iv 31, iv 32] [(.int 31), (.ref u0)]) tz
    refine XS.iloadN X113.here hx rfl (hb hby own_d9_12) rfl ?_
    exact kz
  obtain ⟨cl115, Ar115, q115, S115, M115, H115, G115⟩ := id V113
  have hin116 : ¬ ((31 : Int32) < 0 ∨ cl115.slots.size ≤ ((31 : Int32)).toNatClampNeg) := inb_of S115 ⟨by decide, by decide⟩
  obtain ⟨T116, h116, X116, e116, W116, st116⟩ := stI X113 hx hZ e113 Ar115 (j := (31 : Int32)) hin116 (g := (mkF m 13 #[rv u0, iv (-1 : Int32), iv 31, iv 32] [(.int (-1 : Int32)), (.int 31), (.ref u0)])) rfl rfl (hb hby own_d9_13)
  have V116 : Arv Z h116 u0 ks .int (32 : Int32) [(.int (-1 : Int32)), (.int (-1 : Int32)), (.int (-1 : Int32)), (.int (-1 : Int32)), (.int (-1 : Int32)), (.int (-1 : Int32)), (.int (-1 : Int32)), (.int (-1 : Int32)), (.int (-1 : Int32)), (.int (-1 : Int32)), (.int (-1 : Int32)), (.int (-1 : Int32)), (.int (-1 : Int32)), (.int (-1 : Int32)), (.int (-1 : Int32)), (.int (-1 : Int32)), (.int (-1 : Int32)), (.int (-1 : Int32)), (.int (-1 : Int32)), (.int (-1 : Int32)), (.int (-1 : Int32)), (.int (-1 : Int32)), (.int (-1 : Int32)), (.int (-1 : Int32)), (.int (-1 : Int32)), (.int (-1 : Int32)), (.int (-1 : Int32)), (.int (-1 : Int32)), (.int (-1 : Int32)), (.int (-1 : Int32)), (.int (-1 : Int32)), (.int (-1 : Int32))] (.int 0) := Arv.set Ar115 q115 S115 M115 H115 G115 rfl W116 31 rfl (Nat.le_of_ble_eq_true rfl)
  have N116 := Fr.snoc X116 N113 g_u0
  have O117 := O114.wr W116 g_u0
  have K117 : Keep h0 h116 [u0] := K114.wr W116 (Or.inl (List.mem_of_getElem? (i := 0) rfl))
  refine own_on (B := T116.setTop (mkF m 14 #[rv u0, iv (-1 : Int32), iv 31, iv 32] [])) (fun tz kz => st116 _ kz) ?_
  refine own_on (B := T116.setTop (mkF m 20 #[rv u0, iv (-1 : Int32), iv 32, iv 32] [])) (fun tz kz => ?_) ?_
  · show sT p e below T116 (mkF m 14 #[rv u0, iv (-1 : Int32), iv 31, iv 32] []) tz
    refine XS.iinc X116.here hx rfl (hb hby own_d9_14) rfl (l' := #[rv u0, iv (-1 : Int32), iv 32, iv 32]) rfl ?_
    show sT p e below T116 (mkF m 17 #[rv u0, iv (-1 : Int32), iv 32, iv 32] []) tz
    refine XS.goto X116.here hx rfl (pc0 := 17) (pc' := 5) rfl (hb hby own_d9_17) (by decide) (by decide) ?_
    show sT p e below T116 (mkF m 5 #[rv u0, iv (-1 : Int32), iv 32, iv 32] []) tz
    refine XS.iloadN X116.here hx rfl (hb hby own_d9_5) rfl ?_
    show sT p e below T116 (mkF m 6 #[rv u0, iv (-1 : Int32), iv 32, iv 32] [(.int 32)]) tz
    refine XS.iloadN X116.here hx rfl (hb hby own_d9_6) rfl ?_
    show sT p e below T116 (mkF m 7 #[rv u0, iv (-1 : Int32), iv 32, iv 32] [(.int 32), (.int 32)]) tz
    refine XS.icmpYes X116.here hx rfl (pc0 := 7) (pc' := 20) rfl (hb hby own_d9_7) rfl (flt Int32.lt_irrefl).2.1 (by decide) (by decide) ?_
    exact kz
  obtain ⟨fs, hr, hrun, hended, hW, hsame⟩ := X116.leave (v := none) (fun _ => rfl)
  refine own_of ⟨_, _, ?_, hrun, hended, _, _, rfl, ?_, ⟨_, rfl⟩, hW, hsame.mono (by decide) (by decide)⟩
  · show sT p e below T116 (mkF m 20 #[rv u0, iv (-1 : Int32), iv 32, iv 32] []) _
    exact X116.returnOut hx Bd.returns (hb hby own_d9_20) hr
  · show Q9 Z u0 ks h0 n0 _ T116.heap _
    rw [e116]
    exact ⟨rfl, N116, K117, V116⟩
theorem own_pn_com_example_vows_to_moves_vowstomoves_model_LongNumbering : plainName "com/example/vows_to_moves/vowstomoves/model/LongNumbering" = true := by first | (simp [plainName, overriddenIn]; done) | decide +kernel
theorem own_ef_8 (m : MethodId) (x0 : Int32) : entryFrame m #[(.int x0)] 2 = mkF m 0 #[iv x0, .unset] [] := by first | (simp [entryFrame, mkF, argsToLocals, Value.category]; done) | rfl
def Q8 (Z : State)  (h0 : Heap) (n0 : Nat) (v : Option Value) (h : Heap) (L : List Loc) : Prop := ∃ (sa : Addr) (ks : ClassId), v = some (.ref sa) ∧ Fr n0 L ∧ Keep h0 h [] ∧ h0.size ≤ sa ∧ Arv Z h sa ks .int (32 : Int32) (List.replicate 32 (.int (-1 : Int32))) (.int 0)
theorem own_d8_0 : decode prog_82_method_11_code 0 = .ok (.iload_n 0, 1) := by decide +kernel
theorem own_d8_1 : decode prog_82_method_11_code 1 = .ok (.newarray .int, 2) := by decide +kernel
theorem own_d8_3 : decode prog_82_method_11_code 3 = .ok (.astore_n 1, 1) := by decide +kernel
theorem own_d8_4 : decode prog_82_method_11_code 4 = .ok (.aload_n 1, 1) := by decide +kernel
theorem own_d8_5 : decode prog_82_method_11_code 5 = .ok (.iconst (-1), 1) := by decide +kernel
theorem own_pd1 : parseMethodDescriptor "([II)V" = some ⟨[(.array .int), .int], none⟩ := by decide +kernel
theorem own_d8_6 : decode prog_82_method_11_code 6 = .ok (.invokestatic 71, 3) := by decide +kernel
theorem own_d8_9 : decode prog_82_method_11_code 9 = .ok (.aload_n 1, 1) := by decide +kernel
theorem own_d8_10 : decode prog_82_method_11_code 10 = .ok (.areturn, 1) := by decide +kernel
set_option maxRecDepth 65536 in
set_option maxHeartbeats 40000000 in
theorem rm8 (l : Launch) (Z : State) (a0 : Array Value) (hw : ∀ d ∈ tables_1, d.before a0 Z = true) (ws : List Jvm.Cond)  (h0 : Heap) (n0 : Nat) (O0 : Old Z n0 h0) :
    MetFree l (⟨"com/example/vows_to_moves/vowstomoves/model/LongNumbering", "freeSlots", "(I)[I"⟩ : MethodName) (head1 (Jvm.Cond.code (⟨"com/example/vows_to_moves/vowstomoves/model/LongNumbering", "freeSlots", "(I)[I"⟩ : MethodName) prog_82_method_11_code 2 (some (.array .int)) :: ws) ({ frames := 1, cells := 1, slots := 32, locals := 16 } : Room)) (fun a U => a = #[(.int (32 : Int32))] ∧ Z.Warmed39 U.vm ∧ U.heap = h0) (fun _ _ _ _ _ => True) (fun _ U o U' => ∃ v L, o = .returned v ∧ Q8 Z  h0 n0 v U'.heap L ∧ FrameEnd U o U' L ({ frames := 1, cells := 1, slots := 32, locals := 16 } : Room).cells ({ frames := 1, cells := 1, slots := 32, locals := 16 } : Room).slots) := by
  refine MetFree.of_bodySF (plainFor_of_name own_pn_com_example_vows_to_moves_vowstomoves_model_LongNumbering) hisR ?_
  intro p e s m args below meth c s₁ Bd hml0 hP hK
  obtain ⟨rfl, hZ, hh⟩ := hP
  have hx := Bd.exec
  have hby := Bd.bytes
  have hml : c.maxLocals = 2 := hml0
  have hown : s.vm.findClass "com/example/vows_to_moves/vowstomoves/model/LongNumbering" = some m.cls := findClass_of_methodNamed Bd.named
  have hnm := (name_of_methodNamed Bd.named Bd.method).1
  have X0 : Stand p l e ({ frames := 1, cells := 1, slots := 32, locals := 16 } : Room) s m #[(.int (32 : Int32))] below meth c s₁ [] 0 0 := Stand.of_body Bd
  have e0 : s₁.heap = h0 := by rw [← hh, Bd.state]; rfl
  have N0 := Fr.nil n0
  change Go p.tables e below _ _
  refine own_on (B := s₁.setTop (mkF m 0 #[iv 32, un] [])) (fun tz kz => castTop (own_ef_8 m (32 : Int32)) kz) ?_
  refine own_on (B := s₁.setTop (mkF m 1 #[iv 32, un] [(.int 32)])) (fun tz kz => ?_) ?_
  · show sT p e below s₁ (mkF m 0 #[iv 32, un] []) tz
    refine XS.iloadN X0.here hx rfl (hb hby own_d8_0) rfl ?_
    exact kz
  obtain ⟨T21, h21, k21, X21, e21, E21, A21, st21⟩ := newP X0 hx hZ (own_w hw 45 rfl) e0 (g := (mkF m 1 #[iv 32, un] [(.int 32)])) rfl (hb hby own_d8_1) rfl (by decide) (cap := 32) (by decide) (by decide) (by decide) (by decide)
  obtain ⟨b21, g21⟩ : ∃ z, z = h0.size := ⟨_, rfl⟩
  rw [← g21] at A21 st21
  have g_b21 : n0 ≤ b21 := Nat.le_trans (own_old O0) (Nat.le_of_eq g21.symm)
  have sz_b21 : h0.size ≤ b21 := Nat.le_trans (Keep.refl h0 []).1 (Nat.le_of_eq g21.symm)
  have O22 := O0.ext E21
  have K22 : Keep h0 h21 [] := (Keep.refl h0 []).ext E21
  have V21 : Arv Z h21 b21 k21 .int (32 : Int32) [(.int (0 : Int32)), (.int (0 : Int32)), (.int (0 : Int32)), (.int (0 : Int32)), (.int (0 : Int32)), (.int (0 : Int32)), (.int (0 : Int32)), (.int (0 : Int32)), (.int (0 : Int32)), (.int (0 : Int32)), (.int (0 : Int32)), (.int (0 : Int32)), (.int (0 : Int32)), (.int (0 : Int32)), (.int (0 : Int32)), (.int (0 : Int32)), (.int (0 : Int32)), (.int (0 : Int32)), (.int (0 : Int32)), (.int (0 : Int32)), (.int (0 : Int32)), (.int (0 : Int32)), (.int (0 : Int32)), (.int (0 : Int32)), (.int (0 : Int32)), (.int (0 : Int32)), (.int (0 : Int32)), (.int (0 : Int32)), (.int (0 : Int32)), (.int (0 : Int32)), (.int (0 : Int32)), (.int (0 : Int32))] (.int (0 : Int32)) := (Arv.new A21 (by decide)).pad (pad_rep [] (.int (0 : Int32)) 32)
  refine own_on (B := T21.setTop (mkF m 3 #[iv 32, un] [(.ref b21)])) (fun tz kz => st21 _ kz) ?_
  refine own_on (B := T21.setTop (mkF m 6 #[iv 32, rv b21] [(.int (-1 : Int32)), (.ref b21)])) (fun tz kz => ?_) ?_
  · show sT p e below T21 (mkF m 3 #[iv 32, un] [(.ref b21)]) tz
    refine XS.astoreN X21.here hx rfl (hb hby own_d8_3) rfl rfl (l' := #[iv 32, rv b21]) rfl ?_
    show sT p e below T21 (mkF m 4 #[iv 32, rv b21] []) tz
    refine XS.aloadN X21.here hx rfl (hb hby own_d8_4) rfl rfl ?_
    show sT p e below T21 (mkF m 5 #[iv 32, rv b21] [(.ref b21)]) tz
    refine XS.iconst X21.here hx rfl (hb hby own_d8_5) ?_
    exact kz
  obtain ⟨_, _, ⟨T23, L23, k23, n23⟩, -, X23, ⟨Lc23, hQ23, l23, y23, z23⟩, st23⟩ := Jvm.LawKit.callS X21 hx (y := (⟨"java/util/Arrays", "fill", "([II)V"⟩ : MethodName)) hown (mvT hZ (own_w hw 46 rfl)) (mvT hZ (own_w hw 47 rfl)) (mvT hZ (own_w hw 48 rfl)) (mvT hZ (own_w hw 49 rfl)) (by decide) (backOf (W := 0) (rm9 l Z a0 hw [] b21 k21 h21 n0 O22 V21 g_b21) hZ (own_w hw 49 rfl) (own_w hw 48 rfl) (by decide) (by decide)) (g := (mkF m 6 #[iv 32, rv b21] [(.int (-1 : Int32)), (.ref b21)])) rfl (by rw [hml]; rfl) (argsL := [(.ref b21), (.int (-1 : Int32))]) (rest := []) (lenOf own_pd1 rfl) rfl (by show 2 * 0 + _ ≤ _; exact Nat.le_of_eq rfl) (hb hby own_d8_6) (fun _ _ => ⟨rfl, e21, (by decide : 1 + 0 ≤ _), (by decide : 32 + 0 ≤ _)⟩)
  dsimp only [Pt.U, Pt.locs, Pt.cells, Pt.slots] at X23 l23 y23 z23 st23 hQ23
  subst l23 y23 z23
  obtain ⟨rfl, Nq23, Kq23, Vq23⟩ := hQ23
  have N23 := Fr.app N0 Nq23
  have O24 := O22.keep Kq23 (allS g_b21 all0)
  have K24 : Keep h0 T23.heap [] := K22.trans Kq23 (allS (Or.inr sz_b21) all0)
  refine own_on (B := T23.setTop (mkF m 9 #[iv 32, rv b21] [])) (fun tz kz => st23 _ kz) ?_
  refine own_on (B := T23.setTop (mkF m 10 #[iv 32, rv b21] [(.ref b21)])) (fun tz kz => ?_) ?_
  · show sT p e below T23 (mkF m 9 #[iv 32, rv b21] []) tz
    refine XS.aloadN X23.here hx rfl (hb hby own_d8_9) rfl rfl ?_
    exact kz
  obtain ⟨fs, hr, hrun, hended, hW, hsame⟩ := X23.leave (v := some (.ref b21)) (fun h => by rw [Bd.returns] at h; cases h)
  refine own_of ⟨_, _, ?_, hrun, hended, _, _, rfl, ?_, ⟨_, rfl⟩, hW, hsame.mono (by decide) (by decide)⟩
  · show sT p e below T23 (mkF m 10 #[iv 32, rv b21] [(.ref b21)]) _
    exact own_retV X23 hx Bd.returns rfl rfl (hb hby own_d8_10) hr
  · show Q8 Z  h0 n0 _ T23.heap _
    exact ⟨b21, k21, rfl, N23, K24, sz_b21, Vq23⟩
theorem own_ef_3 (m : MethodId) (x0 : Addr) (x1 : Int32) : entryFrame m #[(.ref x0), (.int x1)] 2 = mkF m 0 #[rv x0, iv x1] [] := by first | (simp [entryFrame, mkF, argsToLocals, Value.category]; done) | rfl
def Q3 (Z : State) (u0 : Addr) (h0 : Heap) (n0 : Nat) (v : Option Value) (h : Heap) (L : List Loc) : Prop := ∃ (lc ja sa : Addr) (kj ks : ClassId), v = none ∧ Fr n0 L ∧ Keep h0 h [u0] ∧ h0.size ≤ lc ∧ @LT.lt Nat _ lc ja ∧ @LT.lt Nat _ ja sa ∧ Fld Z h u0 "com/example/vows_to_moves/vowstomoves/model/LongNumbering" "keys" "Lcom/example/vows_to_moves/vowstomoves/model/LongColumn;" (.ref lc) ∧ Fld Z h u0 "com/example/vows_to_moves/vowstomoves/model/LongNumbering" "slots" "[I" (.ref sa) ∧ Exa Z h lc "com/example/vows_to_moves/vowstomoves/model/LongColumn" ∧ Fld Z h lc "com/example/vows_to_moves/vowstomoves/model/LongColumn" "chunks" "[[J" (.ref ja) ∧ Fld Z h lc "com/example/vows_to_moves/vowstomoves/model/LongColumn" "size" "I" (.int (0 : Int32)) ∧ Arv Z h ja kj (.array .long) (4 : Int32) [.null, .null, .null, .null] .null ∧ OvrA Z kj .long "[J" ∧ Arv Z h sa ks .int (32 : Int32) (List.replicate 32 (.int (-1 : Int32))) (.int 0)
theorem own_d3_0 : decode prog_82_method_1_code 0 = .ok (.aload_n 0, 1) := by decide +kernel
theorem own_d3_1 : decode prog_82_method_1_code 1 = .ok (.invokespecial 3, 3) := by decide +kernel
theorem own_d3_4 : decode prog_82_method_1_code 4 = .ok (.aload_n 0, 1) := by decide +kernel
theorem own_d3_5 : decode prog_82_method_1_code 5 = .ok (.new 9, 3) := by decide +kernel
theorem own_d3_8 : decode prog_82_method_1_code 8 = .ok (.dup, 1) := by decide +kernel
theorem own_pd2 : parseMethodDescriptor "()V" = some ⟨[], none⟩ := by decide +kernel
theorem own_d3_9 : decode prog_82_method_1_code 9 = .ok (.invokespecial 11, 3) := by decide +kernel
theorem own_d3_12 : decode prog_82_method_1_code 12 = .ok (.putfield 12, 3) := by decide +kernel
theorem own_d3_15 : decode prog_82_method_1_code 15 = .ok (.aload_n 0, 1) := by decide +kernel
theorem own_d3_16 : decode prog_82_method_1_code 16 = .ok (.iload_n 1, 1) := by decide +kernel
theorem own_d3_17 : decode prog_82_method_1_code 17 = .ok (.bipush 8, 2) := by decide +kernel
theorem own_pd3 : parseMethodDescriptor "(II)I" = some ⟨[.int, .int], some .int⟩ := by decide +kernel
theorem own_d3_19 : decode prog_82_method_1_code 19 = .ok (.invokestatic 16, 3) := by decide +kernel
theorem own_d3_22 : decode prog_82_method_1_code 22 = .ok (.iconst 1, 1) := by decide +kernel
theorem own_d3_23 : decode prog_82_method_1_code 23 = .ok (.isub, 1) := by decide +kernel
theorem own_d3_24 : decode prog_82_method_1_code 24 = .ok (.invokestatic 22, 3) := by decide +kernel
theorem own_d3_27 : decode prog_82_method_1_code 27 = .ok (.iconst 2, 1) := by decide +kernel
theorem own_d3_28 : decode prog_82_method_1_code 28 = .ok (.ishl, 1) := by decide +kernel
theorem own_pd4 : parseMethodDescriptor "(I)[I" = some ⟨[.int], some (.array .int)⟩ := by decide +kernel
theorem own_d3_29 : decode prog_82_method_1_code 29 = .ok (.invokestatic 28, 3) := by decide +kernel
theorem own_d3_32 : decode prog_82_method_1_code 32 = .ok (.putfield 32, 3) := by decide +kernel
theorem own_d3_35 : decode prog_82_method_1_code 35 = .ok (.return_, 1) := by decide +kernel
set_option maxRecDepth 65536 in
set_option maxHeartbeats 40000000 in
theorem rm3 (l : Launch) (Z : State) (a0 : Array Value) (hw : ∀ d ∈ tables_1, d.before a0 Z = true) (ws : List Jvm.Cond) (u0 : Addr) (h0 : Heap) (n0 : Nat) (O0 : Old Z n0 h0) (E_u0 : Exa Z h0 u0 "com/example/vows_to_moves/vowstomoves/model/LongNumbering") (g_u0 : n0 ≤ u0) (F_keys : Fld Z h0 u0 "com/example/vows_to_moves/vowstomoves/model/LongNumbering" "keys" "Lcom/example/vows_to_moves/vowstomoves/model/LongColumn;" .null) (F_slots : Fld Z h0 u0 "com/example/vows_to_moves/vowstomoves/model/LongNumbering" "slots" "[I" .null) :
    MetFree l (⟨"com/example/vows_to_moves/vowstomoves/model/LongNumbering", "<init>", "(I)V"⟩ : MethodName) (head1 (Jvm.Cond.code (⟨"com/example/vows_to_moves/vowstomoves/model/LongNumbering", "<init>", "(I)V"⟩ : MethodName) prog_82_method_1_code 2 none :: ws) ({ frames := 2, cells := 3, slots := 40, locals := 40 } : Room)) (fun a U => a = #[(.ref u0), (.int (16 : Int32))] ∧ Z.Warmed39 U.vm ∧ U.heap = h0) (fun _ _ _ _ _ => True) (fun _ U o U' => ∃ v L, o = .returned v ∧ Q3 Z u0 h0 n0 v U'.heap L ∧ FrameEnd U o U' L ({ frames := 2, cells := 3, slots := 40, locals := 40 } : Room).cells ({ frames := 2, cells := 3, slots := 40, locals := 40 } : Room).slots) := by
  refine MetFree.of_bodySF (plainFor_of_name own_pn_com_example_vows_to_moves_vowstomoves_model_LongNumbering) hisR ?_
  intro p e s m args below meth c s₁ Bd hml0 hP hK
  obtain ⟨rfl, hZ, hh⟩ := hP
  have hx := Bd.exec
  have hby := Bd.bytes
  have hml : c.maxLocals = 2 := hml0
  have hown : s.vm.findClass "com/example/vows_to_moves/vowstomoves/model/LongNumbering" = some m.cls := findClass_of_methodNamed Bd.named
  have hnm := (name_of_methodNamed Bd.named Bd.method).1
  have X0 : Stand p l e ({ frames := 2, cells := 3, slots := 40, locals := 40 } : Room) s m #[(.ref u0), (.int (16 : Int32))] below meth c s₁ [] 0 0 := Stand.of_body Bd
  have e0 : s₁.heap = h0 := by rw [← hh, Bd.state]; rfl
  have N0 := Fr.nil n0
  change Go p.tables e below _ _
  refine own_on (B := s₁.setTop (mkF m 0 #[rv u0, iv 16] [])) (fun tz kz => castTop (own_ef_3 m u0 (16 : Int32)) kz) ?_
  refine own_on (B := s₁.setTop (mkF m 1 #[rv u0, iv 16] [(.ref u0)])) (fun tz kz => ?_) ?_
  · show sT p e below s₁ (mkF m 0 #[rv u0, iv 16] []) tz
    refine XS.aloadN X0.here hx rfl (hb hby own_d3_0) rfl rfl ?_
    exact kz
  obtain ⟨T21, X21, e21, st21⟩ := initO X0 hx hZ hown (own_w hw 15 rfl) (own_w hw 7 rfl) (own_w hw 8 rfl) e0 (g := (mkF m 1 #[rv u0, iv 16] [(.ref u0)])) rfl (by rw [hml]; rfl) rfl (hb hby own_d3_1) (by decide) (W := 0) (by show 2 * 0 + _ ≤ _; exact Nat.le_of_eq rfl) (by decide)
  refine own_on (B := T21.setTop (mkF m 4 #[rv u0, iv 16] [])) (fun tz kz => st21 _ kz) ?_
  refine own_on (B := T21.setTop (mkF m 5 #[rv u0, iv 16] [(.ref u0)])) (fun tz kz => ?_) ?_
  · show sT p e below T21 (mkF m 4 #[rv u0, iv 16] []) tz
    refine XS.aloadN X21.here hx rfl (hb hby own_d3_4) rfl rfl ?_
    exact kz
  obtain ⟨T22, h22, X22, e22, E22, A22, D22, -, st22⟩ := newO X21 hx hZ hown (own_w hw 16 rfl) (own_w hw 17 rfl) (own_w hw 18 rfl) e21 (g := (mkF m 5 #[rv u0, iv 16] [(.ref u0)])) rfl (hb hby own_d3_5) (by decide) (by decide)
  obtain ⟨b22, g22⟩ : ∃ z, z = h0.size := ⟨_, rfl⟩
  rw [← g22] at A22 D22 st22
  have ne_u0_b22 : u0 ≠ b22 := Nat.ne_of_lt (Nat.lt_of_lt_of_le (E_u0).lt (Nat.le_of_eq g22.symm))
  have lne_u0_b22 : @LT.lt Nat _ u0 b22 := Nat.lt_of_lt_of_le (E_u0).lt (Nat.le_of_eq g22.symm)
  have g_b22 : n0 ≤ b22 := Nat.le_trans (own_old O0) (Nat.le_of_eq g22.symm)
  have sz_b22 : h0.size ≤ b22 := Nat.le_trans (Keep.refl h0 [u0]).1 (Nat.le_of_eq g22.symm)
  have O23 := O0.ext E22
  have K23 : Keep h0 h22 [u0] := (Keep.refl h0 [u0]).ext E22
  have F22_chunks : Fld Z h22 b22 "com/example/vows_to_moves/vowstomoves/model/LongColumn" "chunks" "[[J" .null := D22 (Or.inl (own_w hw 26 rfl)) (ty := (.array (.array .long))) (by decide)
  have F22_size : Fld Z h22 b22 "com/example/vows_to_moves/vowstomoves/model/LongColumn" "size" "I" (.int (0 : Int32)) := D22 (Or.inl (own_w hw 97 rfl)) (ty := .int) (by decide)
  refine own_on (B := T22.setTop (mkF m 8 #[rv u0, iv 16] [(.ref b22), (.ref u0)])) (fun tz kz => st22 _ kz) ?_
  refine own_on (B := T22.setTop (mkF m 9 #[rv u0, iv 16] [(.ref b22), (.ref b22), (.ref u0)])) (fun tz kz => ?_) ?_
  · show sT p e below T22 (mkF m 8 #[rv u0, iv 16] [(.ref b22), (.ref u0)]) tz
    refine XS.dup X22.here hx rfl (hb hby own_d3_8) rfl rfl ?_
    exact kz
  obtain ⟨_, _, ⟨T24, L24, k24, n24⟩, -, X24, ⟨Lc24, hQ24, l24, y24, z24⟩, st24⟩ := X22.specialBack hx (y := (⟨"com/example/vows_to_moves/vowstomoves/model/LongColumn", "<init>", "()V"⟩ : MethodName)) rfl hown (mvT hZ (own_w hw 19 rfl)) (mvT hZ (own_w hw 20 rfl)) (mvT hZ (own_w hw 21 rfl)) (by decide) (backOf (W := 2) (rm4 l Z a0 hw [] b22  h22 n0 O23 A22 g_b22 F22_chunks F22_size) hZ (own_w hw 21 rfl) (own_w hw 18 rfl) (by decide) (by decide)) (g := (mkF m 9 #[rv u0, iv 16] [(.ref b22), (.ref b22), (.ref u0)])) rfl (by rw [hml]; rfl) (Steps.refl _) (a := b22) (argsL := []) (rest := [(.ref b22), (.ref u0)]) (lenOf own_pd2 rfl) rfl (by show 2 * 0 + _ ≤ _; exact Nat.le_of_eq rfl) (hb hby own_d3_9) (fun _ _ => ⟨rfl, e22, (by decide : 1 + 1 ≤ _), (by decide : 2 + 4 ≤ _)⟩)
  dsimp only [Pt.U, Pt.locs, Pt.cells, Pt.slots] at X24 l24 y24 z24 st24 hQ24
  subst l24 y24 z24
  obtain ⟨ja24, kj24, rfl, Nq24, Kq24, zq24, Fc24, Fs24, Va24, Oa24⟩ := hQ24
  have N24 := Fr.app N0 Nq24
  have f_25 := (E_u0.ext E22)
  have ne_u0_ja24 : u0 ≠ ja24 := Nat.ne_of_lt (Nat.lt_of_lt_of_le (f_25).lt zq24)
  have lne_u0_ja24 : @LT.lt Nat _ u0 ja24 := Nat.lt_of_lt_of_le (f_25).lt zq24
  have ne_b22_ja24 : b22 ≠ ja24 := Nat.ne_of_lt (Nat.lt_of_lt_of_le (A22).lt zq24)
  have lne_b22_ja24 : @LT.lt Nat _ b22 ja24 := Nat.lt_of_lt_of_le (A22).lt zq24
  have g_ja24 : n0 ≤ ja24 := Nat.le_trans (own_old O23) zq24
  have sz_ja24 : h0.size ≤ ja24 := Nat.le_trans K23.1 zq24
  have O26 := O23.keep Kq24 (allS g_b22 all0)
  have K26 : Keep h0 T24.heap [u0] := K23.trans Kq24 (allS (Or.inr sz_b22) all0)
  refine own_on (B := T24.setTop (mkF m 12 #[rv u0, iv 16] [(.ref b22), (.ref u0)])) (fun tz kz => st24.trans kz) ?_
  have f_27 := ((F_keys.ext E22).keep Kq24 (ninS ne_u0_b22 nin0))
  have f_28 := (f_25.keep Kq24)
  obtain ⟨T29, h29, X29, e29, W29, st29⟩ := putF X24 hx hZ hown (host := "") (Or.inl (own_w hw 27 rfl)) Via.refl rfl f_27 f_28 (Or.inr ⟨(own_w hw 28 rfl), rfl, hnm⟩) (own_w hw 10 rfl) (ty := (.object "com/example/vows_to_moves/vowstomoves/model/LongColumn")) (by decide) rfl rfl (g := (mkF m 12 #[rv u0, iv 16] [(.ref b22), (.ref u0)])) rfl rfl (hb hby own_d3_12)
  have Fw29 := f_27.same W29
  have N29 := Fr.snoc X29 N24 g_u0
  have O30 := O26.wr W29 g_u0
  have K30 : Keep h0 h29 [u0] := K26.wr W29 (Or.inl (List.mem_of_getElem? (i := 0) rfl))
  refine own_on (B := T29.setTop (mkF m 15 #[rv u0, iv 16] [])) (fun tz kz => st29 _ kz) ?_
  refine own_on (B := T29.setTop (mkF m 19 #[rv u0, iv 16] [(.int 8), (.int 16), (.ref u0)])) (fun tz kz => ?_) ?_
  · show sT p e below T29 (mkF m 15 #[rv u0, iv 16] []) tz
    refine XS.aloadN X29.here hx rfl (hb hby own_d3_15) rfl rfl ?_
    show sT p e below T29 (mkF m 16 #[rv u0, iv 16] [(.ref u0)]) tz
    refine XS.iloadN X29.here hx rfl (hb hby own_d3_16) rfl ?_
    show sT p e below T29 (mkF m 17 #[rv u0, iv 16] [(.int 16), (.ref u0)]) tz
    refine XS.bipush X29.here hx rfl (hb hby own_d3_17) ?_
    exact kz
  obtain ⟨_, _, ⟨T31, L31, k31, n31⟩, -, X31, ⟨Lc31, hQ31, l31, y31, z31⟩, st31⟩ := Jvm.LawKit.callS X29 hx (y := (⟨"java/lang/Math", "max", "(II)I"⟩ : MethodName)) hown (mvT hZ (own_w hw 29 rfl)) (mvT hZ (own_w hw 30 rfl)) (mvT hZ (own_w hw 31 rfl)) (mvT hZ (own_w hw 32 rfl)) (by decide) (backOf (W := 1) (rm5 l Z a0 hw []   h29 n0 O30 ) hZ (own_w hw 32 rfl) (own_w hw 31 rfl) (by decide) (by decide)) (g := (mkF m 19 #[rv u0, iv 16] [(.int 8), (.int 16), (.ref u0)])) rfl (by rw [hml]; rfl) (argsL := [(.int (16 : Int32)), (.int (8 : Int32))]) (rest := [(.ref u0)]) (lenOf own_pd3 rfl) rfl (by show 2 * 0 + _ ≤ _; exact Nat.le_of_eq rfl) (hb hby own_d3_19) (fun _ _ => ⟨rfl, e29, (by decide : 2 + 0 ≤ _), (by decide : 6 + 0 ≤ _)⟩)
  dsimp only [Pt.U, Pt.locs, Pt.cells, Pt.slots] at X31 l31 y31 z31 st31 hQ31
  subst l31 y31 z31
  obtain ⟨rfl, Nq31, e31⟩ := hQ31
  have N31 := Fr.app N29 Nq31
  refine own_on (B := T31.setTop (mkF m 22 #[rv u0, iv 16] [(.int 16), (.ref u0)])) (fun tz kz => st31 _ kz) ?_
  refine own_on (B := T31.setTop (mkF m 24 #[rv u0, iv 16] [(.int 15), (.ref u0)])) (fun tz kz => ?_) ?_
  · show sT p e below T31 (mkF m 22 #[rv u0, iv 16] [(.int 16), (.ref u0)]) tz
    refine XS.iconst X31.here hx rfl (hb hby own_d3_22) ?_
    show sT p e below T31 (mkF m 23 #[rv u0, iv 16] [(.int 1), (.int 16), (.ref u0)]) tz
    refine XS.isub X31.here hx rfl (hb hby own_d3_23) rfl ?_
    exact kz
  obtain ⟨_, _, ⟨T32, L32, k32, n32⟩, -, X32, ⟨Lc32, hQ32, l32, y32, z32⟩, st32⟩ := Jvm.LawKit.callS X31 hx (y := (⟨"java/lang/Integer", "highestOneBit", "(I)I"⟩ : MethodName)) hown (mvT hZ (own_w hw 33 rfl)) (mvT hZ (own_w hw 34 rfl)) (mvT hZ (own_w hw 35 rfl)) (mvT hZ (own_w hw 36 rfl)) (by decide) (backOf (W := 1) (rm6 l Z a0 hw []   h29 n0 O30 ) hZ (own_w hw 36 rfl) (own_w hw 35 rfl) (by decide) (by decide)) (g := (mkF m 24 #[rv u0, iv 16] [(.int 15), (.ref u0)])) rfl (by rw [hml]; rfl) (argsL := [(.int (15 : Int32))]) (rest := [(.ref u0)]) (lenOf own_pd0 rfl) rfl (by show 2 * 0 + _ ≤ _; exact Nat.le_of_eq rfl) (hb hby own_d3_24) (fun _ _ => ⟨rfl, e31, (by decide : 2 + 0 ≤ _), (by decide : 6 + 0 ≤ _)⟩)
  dsimp only [Pt.U, Pt.locs, Pt.cells, Pt.slots] at X32 l32 y32 z32 st32 hQ32
  subst l32 y32 z32
  obtain ⟨rfl, Nq32, e32⟩ := hQ32
  have N32 := Fr.app N31 Nq32
  refine own_on (B := T32.setTop (mkF m 27 #[rv u0, iv 16] [(.int 8), (.ref u0)])) (fun tz kz => st32 _ kz) ?_
  refine own_on (B := T32.setTop (mkF m 29 #[rv u0, iv 16] [(.int 32), (.ref u0)])) (fun tz kz => ?_) ?_
  · show sT p e below T32 (mkF m 27 #[rv u0, iv 16] [(.int 8), (.ref u0)]) tz
    refine XS.iconst X32.here hx rfl (hb hby own_d3_27) ?_
    show sT p e below T32 (mkF m 28 #[rv u0, iv 16] [(.int 2), (.int 8), (.ref u0)]) tz
    refine XS.ishl X32.here hx rfl (hb hby own_d3_28) rfl ?_
    exact kz
  obtain ⟨_, _, ⟨T33, L33, k33, n33⟩, -, X33, ⟨Lc33, hQ33, l33, y33, z33⟩, st33⟩ := Jvm.LawKit.callS X32 hx (y := (⟨"com/example/vows_to_moves/vowstomoves/model/LongNumbering", "freeSlots", "(I)[I"⟩ : MethodName)) hown (mvT hZ (own_w hw 42 rfl)) (mvT hZ (own_w hw 43 rfl)) (mvT hZ (own_w hw 11 rfl)) (mvT hZ (own_w hw 44 rfl)) (by decide) (backOf (W := 1) (rm8 l Z a0 hw []   h29 n0 O30 ) hZ (own_w hw 44 rfl) (own_w hw 11 rfl) (by decide) (by decide)) (g := (mkF m 29 #[rv u0, iv 16] [(.int 32), (.ref u0)])) rfl (by rw [hml]; rfl) (argsL := [(.int (32 : Int32))]) (rest := [(.ref u0)]) (lenOf own_pd4 rfl) rfl (by show 2 * 0 + _ ≤ _; exact Nat.le_of_eq rfl) (hb hby own_d3_29) (fun _ _ => ⟨rfl, e32, (by decide : 2 + 1 ≤ _), (by decide : 6 + 32 ≤ _)⟩)
  dsimp only [Pt.U, Pt.locs, Pt.cells, Pt.slots] at X33 l33 y33 z33 st33 hQ33
  subst l33 y33 z33
  obtain ⟨sa33, ks33, rfl, Nq33, Kq33, zq33, Va33⟩ := hQ33
  have N33 := Fr.app N32 Nq33
  have f_34 := (f_28.wr W29)
  have ne_u0_sa33 : u0 ≠ sa33 := Nat.ne_of_lt (Nat.lt_of_lt_of_le (f_34).lt zq33)
  have lne_u0_sa33 : @LT.lt Nat _ u0 sa33 := Nat.lt_of_lt_of_le (f_34).lt zq33
  have f_35 := ((A22.keep Kq24).wr W29)
  have ne_b22_sa33 : b22 ≠ sa33 := Nat.ne_of_lt (Nat.lt_of_lt_of_le (f_35).lt zq33)
  have lne_b22_sa33 : @LT.lt Nat _ b22 sa33 := Nat.lt_of_lt_of_le (f_35).lt zq33
  have f_36 := (Va24.other W29 (Ne.symm ne_u0_ja24))
  have ne_ja24_sa33 : ja24 ≠ sa33 := Nat.ne_of_lt (Nat.lt_of_lt_of_le (f_36).lt zq33)
  have lne_ja24_sa33 : @LT.lt Nat _ ja24 sa33 := Nat.lt_of_lt_of_le (f_36).lt zq33
  have g_sa33 : n0 ≤ sa33 := Nat.le_trans (own_old O30) zq33
  have sz_sa33 : h0.size ≤ sa33 := Nat.le_trans K30.1 zq33
  have O37 := O30.keep Kq33 all0
  have K37 : Keep h0 T33.heap [u0] := K30.trans Kq33 all0
  refine own_on (B := T33.setTop (mkF m 32 #[rv u0, iv 16] [(.ref sa33), (.ref u0)])) (fun tz kz => st33 _ kz) ?_
  have f_38 := ((((F_slots.ext E22).keep Kq24 (ninS ne_u0_b22 nin0)).other W29 (Or.inr (slot_ne (Or.inl (own_w hw 51 rfl)) (Or.inr (own_w hw 28 rfl)) (by decide) (t := (.array .int)) (t' := (.object "com/example/vows_to_moves/vowstomoves/model/LongColumn")) (by decide) (by decide)))).keep Kq33 nin0)
  have f_39 := (f_34.keep Kq33)
  obtain ⟨T40, h40, X40, e40, W40, st40⟩ := putF X33 hx hZ hown (host := "") (Or.inl (own_w hw 50 rfl)) Via.refl rfl f_38 f_39 (Or.inl (own_w hw 51 rfl)) (own_w hw 10 rfl) (ty := (.array .int)) (by decide) rfl rfl (g := (mkF m 32 #[rv u0, iv 16] [(.ref sa33), (.ref u0)])) rfl rfl (hb hby own_d3_32)
  have Fw40 := f_38.same W40
  have N40 := Fr.snoc X40 N33 g_u0
  have O41 := O37.wr W40 g_u0
  have K41 : Keep h0 h40 [u0] := K37.wr W40 (Or.inl (List.mem_of_getElem? (i := 0) rfl))
  refine own_on (B := T40.setTop (mkF m 35 #[rv u0, iv 16] [])) (fun tz kz => st40 _ kz) ?_
  have f_42 := ((Fw29.keep Kq33 nin0).other W40 (Or.inr (slot_ne (Or.inr (own_w hw 28 rfl)) (Or.inl (own_w hw 51 rfl)) (by decide) (t := (.object "com/example/vows_to_moves/vowstomoves/model/LongColumn")) (t' := (.array .int)) (by decide) (by decide))))
  have f_43 := ((f_35.keep Kq33).wr W40)
  have f_44 := (((Fc24.other W29 (Or.inl (Ne.symm ne_u0_b22))).keep Kq33 nin0).other W40 (Or.inl (Ne.symm ne_u0_b22)))
  have f_45 := (((Fs24.other W29 (Or.inl (Ne.symm ne_u0_b22))).keep Kq33 nin0).other W40 (Or.inl (Ne.symm ne_u0_b22)))
  have f_46 := ((f_36.keep Kq33 nin0).other W40 (Ne.symm ne_u0_ja24))
  have f_47 := (Va33.other W40 (Ne.symm ne_u0_sa33))
  obtain ⟨fs, hr, hrun, hended, hW, hsame⟩ := X40.leave (v := none) (fun _ => rfl)
  refine own_of ⟨_, _, ?_, hrun, hended, _, _, rfl, ?_, ⟨_, rfl⟩, hW, hsame.mono (by decide) (by decide)⟩
  · show sT p e below T40 (mkF m 35 #[rv u0, iv 16] []) _
    exact X40.returnOut hx Bd.returns (hb hby own_d3_35) hr
  · show Q3 Z u0 h0 n0 _ T40.heap _
    rw [e40]
    exact ⟨b22, ja24, sa33, kj24, ks33, rfl, N40, K41, sz_b22, lne_b22_ja24, lne_ja24_sa33, f_42, Fw40, f_43, f_44, f_45, f_46, Oa24, f_47⟩
theorem own_pn_com_example_vows_to_moves_vowstomoves_model_DoubleColumn : plainName "com/example/vows_to_moves/vowstomoves/model/DoubleColumn" = true := by first | (simp [plainName, overriddenIn]; done) | decide +kernel
theorem own_ef_1 (m : MethodId) (x0 : Addr) : entryFrame m #[(.ref x0)] 1 = mkF m 0 #[rv x0] [] := by first | (simp [entryFrame, mkF, argsToLocals, Value.category]; done) | rfl
def Q1 (Z : State) (u0 : Addr) (h0 : Heap) (n0 : Nat) (v : Option Value) (h : Heap) (L : List Loc) : Prop := ∃ (ln lc ja sa va ca : Addr) (kj ks kv kc : ClassId), v = none ∧ Fr n0 L ∧ Keep h0 h [u0] ∧ h0.size ≤ ln ∧ @LT.lt Nat _ u0 ln ∧ @LT.lt Nat _ ln lc ∧ @LT.lt Nat _ lc ja ∧ @LT.lt Nat _ ja sa ∧ @LT.lt Nat _ sa va ∧ @LT.lt Nat _ va ca ∧ Fld Z h u0 "com/example/vows_to_moves/vowstomoves/model/DoubleColumn" "distinct" "Lcom/example/vows_to_moves/vowstomoves/model/LongNumbering;" (.ref ln) ∧ Fld Z h u0 "com/example/vows_to_moves/vowstomoves/model/DoubleColumn" "values" "[D" (.ref va) ∧ Fld Z h u0 "com/example/vows_to_moves/vowstomoves/model/DoubleColumn" "codes" "[[C" (.ref ca) ∧ Fld Z h u0 "com/example/vows_to_moves/vowstomoves/model/DoubleColumn" "plain" "[[D" .null ∧ Fld Z h u0 "com/example/vows_to_moves/vowstomoves/model/DoubleColumn" "size" "I" (.int (0 : Int32)) ∧ Exa Z h ln "com/example/vows_to_moves/vowstomoves/model/LongNumbering" ∧ Fld Z h ln "com/example/vows_to_moves/vowstomoves/model/LongNumbering" "keys" "Lcom/example/vows_to_moves/vowstomoves/model/LongColumn;" (.ref lc) ∧ Fld Z h ln "com/example/vows_to_moves/vowstomoves/model/LongNumbering" "slots" "[I" (.ref sa) ∧ Exa Z h lc "com/example/vows_to_moves/vowstomoves/model/LongColumn" ∧ Fld Z h lc "com/example/vows_to_moves/vowstomoves/model/LongColumn" "chunks" "[[J" (.ref ja) ∧ Fld Z h lc "com/example/vows_to_moves/vowstomoves/model/LongColumn" "size" "I" (.int (0 : Int32)) ∧ Arv Z h ja kj (.array .long) (4 : Int32) [.null, .null, .null, .null] .null ∧ OvrA Z kj .long "[J" ∧ Arv Z h sa ks .int (32 : Int32) (List.replicate 32 (.int (-1 : Int32))) (.int 0) ∧ Arv Z h va kv .double (16 : Int32) [.double 0, .double 0, .double 0, .double 0] (.double 0) ∧ Arv Z h ca kc (.array .char) (4 : Int32) [.null, .null, .null, .null] .null ∧ OvrA Z kc .char "[C"
theorem own_d1_0 : decode prog_72_method_1_code 0 = .ok (.aload_n 0, 1) := by decide +kernel
theorem own_d1_1 : decode prog_72_method_1_code 1 = .ok (.invokespecial 3, 3) := by decide +kernel
theorem own_d1_4 : decode prog_72_method_1_code 4 = .ok (.aload_n 0, 1) := by decide +kernel
theorem own_d1_5 : decode prog_72_method_1_code 5 = .ok (.new 9, 3) := by decide +kernel
theorem own_d1_8 : decode prog_72_method_1_code 8 = .ok (.dup, 1) := by decide +kernel
theorem own_d1_9 : decode prog_72_method_1_code 9 = .ok (.bipush 16, 2) := by decide +kernel
theorem own_pd5 : parseMethodDescriptor "(I)V" = some ⟨[.int], none⟩ := by decide +kernel
theorem own_d1_11 : decode prog_72_method_1_code 11 = .ok (.invokespecial 11, 3) := by decide +kernel
theorem own_d1_14 : decode prog_72_method_1_code 14 = .ok (.putfield 14, 3) := by decide +kernel
theorem own_d1_17 : decode prog_72_method_1_code 17 = .ok (.aload_n 0, 1) := by decide +kernel
theorem own_d1_18 : decode prog_72_method_1_code 18 = .ok (.bipush 16, 2) := by decide +kernel
theorem own_d1_20 : decode prog_72_method_1_code 20 = .ok (.newarray .double, 2) := by decide +kernel
theorem own_d1_22 : decode prog_72_method_1_code 22 = .ok (.putfield 20, 3) := by decide +kernel
theorem own_d1_25 : decode prog_72_method_1_code 25 = .ok (.aload_n 0, 1) := by decide +kernel
theorem own_d1_26 : decode prog_72_method_1_code 26 = .ok (.iconst 4, 1) := by decide +kernel
theorem own_d1_27 : decode prog_72_method_1_code 27 = .ok (.anewarray 24, 3) := by decide +kernel
theorem own_d1_30 : decode prog_72_method_1_code 30 = .ok (.putfield 26, 3) := by decide +kernel
theorem own_d1_33 : decode prog_72_method_1_code 33 = .ok (.return_, 1) := by decide +kernel
set_option maxRecDepth 65536 in
set_option maxHeartbeats 40000000 in
theorem rm1 (l : Launch) (Z : State) (a0 : Array Value) (hw : ∀ d ∈ tables_1, d.before a0 Z = true) (ws : List Jvm.Cond) (u0 : Addr) (h0 : Heap) (n0 : Nat) (O0 : Old Z n0 h0) (E_u0 : Exa Z h0 u0 "com/example/vows_to_moves/vowstomoves/model/DoubleColumn") (g_u0 : n0 ≤ u0) (F_distinct : Fld Z h0 u0 "com/example/vows_to_moves/vowstomoves/model/DoubleColumn" "distinct" "Lcom/example/vows_to_moves/vowstomoves/model/LongNumbering;" .null) (F_values : Fld Z h0 u0 "com/example/vows_to_moves/vowstomoves/model/DoubleColumn" "values" "[D" .null) (F_codes : Fld Z h0 u0 "com/example/vows_to_moves/vowstomoves/model/DoubleColumn" "codes" "[[C" .null) (F_plain : Fld Z h0 u0 "com/example/vows_to_moves/vowstomoves/model/DoubleColumn" "plain" "[[D" .null) (F_size : Fld Z h0 u0 "com/example/vows_to_moves/vowstomoves/model/DoubleColumn" "size" "I" (.int (0 : Int32))) :
    MetFree l (⟨"com/example/vows_to_moves/vowstomoves/model/DoubleColumn", "<init>", "()V"⟩ : MethodName) (head1 (Jvm.Cond.code (⟨"com/example/vows_to_moves/vowstomoves/model/DoubleColumn", "<init>", "()V"⟩ : MethodName) prog_72_method_1_code 1 none :: ws) ({ frames := 3, cells := 6, slots := 62, locals := 60 } : Room)) (fun a U => a = #[(.ref u0)] ∧ Z.Warmed39 U.vm ∧ U.heap = h0) (fun _ _ _ _ _ => True) (fun _ U o U' => ∃ v L, o = .returned v ∧ Q1 Z u0 h0 n0 v U'.heap L ∧ FrameEnd U o U' L ({ frames := 3, cells := 6, slots := 62, locals := 60 } : Room).cells ({ frames := 3, cells := 6, slots := 62, locals := 60 } : Room).slots) := by
  refine MetFree.of_bodySF (plainFor_of_name own_pn_com_example_vows_to_moves_vowstomoves_model_DoubleColumn) hisR ?_
  intro p e s m args below meth c s₁ Bd hml0 hP hK
  obtain ⟨rfl, hZ, hh⟩ := hP
  have hx := Bd.exec
  have hby := Bd.bytes
  have hml : c.maxLocals = 1 := hml0
  have hown : s.vm.findClass "com/example/vows_to_moves/vowstomoves/model/DoubleColumn" = some m.cls := findClass_of_methodNamed Bd.named
  have hnm := (name_of_methodNamed Bd.named Bd.method).1
  have X0 : Stand p l e ({ frames := 3, cells := 6, slots := 62, locals := 60 } : Room) s m #[(.ref u0)] below meth c s₁ [] 0 0 := Stand.of_body Bd
  have e0 : s₁.heap = h0 := by rw [← hh, Bd.state]; rfl
  have N0 := Fr.nil n0
  change Go p.tables e below _ _
  refine own_on (B := s₁.setTop (mkF m 0 #[rv u0] [])) (fun tz kz => castTop (own_ef_1 m u0) kz) ?_
  refine own_on (B := s₁.setTop (mkF m 1 #[rv u0] [(.ref u0)])) (fun tz kz => ?_) ?_
  · show sT p e below s₁ (mkF m 0 #[rv u0] []) tz
    refine XS.aloadN X0.here hx rfl (hb hby own_d1_0) rfl rfl ?_
    exact kz
  obtain ⟨T21, X21, e21, st21⟩ := initO X0 hx hZ hown (own_w hw 6 rfl) (own_w hw 7 rfl) (own_w hw 8 rfl) e0 (g := (mkF m 1 #[rv u0] [(.ref u0)])) rfl (by rw [hml]; rfl) rfl (hb hby own_d1_1) (by decide) (W := 0) (by show 2 * 0 + _ ≤ _; exact Nat.le_of_eq rfl) (by decide)
  refine own_on (B := T21.setTop (mkF m 4 #[rv u0] [])) (fun tz kz => st21 _ kz) ?_
  refine own_on (B := T21.setTop (mkF m 5 #[rv u0] [(.ref u0)])) (fun tz kz => ?_) ?_
  · show sT p e below T21 (mkF m 4 #[rv u0] []) tz
    refine XS.aloadN X21.here hx rfl (hb hby own_d1_4) rfl rfl ?_
    exact kz
  obtain ⟨T22, h22, X22, e22, E22, A22, D22, -, st22⟩ := newO X21 hx hZ hown (own_w hw 9 rfl) (own_w hw 10 rfl) (own_w hw 11 rfl) e21 (g := (mkF m 5 #[rv u0] [(.ref u0)])) rfl (hb hby own_d1_5) (by decide) (by decide)
  obtain ⟨b22, g22⟩ : ∃ z, z = h0.size := ⟨_, rfl⟩
  rw [← g22] at A22 D22 st22
  have ne_u0_b22 : u0 ≠ b22 := Nat.ne_of_lt (Nat.lt_of_lt_of_le (E_u0).lt (Nat.le_of_eq g22.symm))
  have lne_u0_b22 : @LT.lt Nat _ u0 b22 := Nat.lt_of_lt_of_le (E_u0).lt (Nat.le_of_eq g22.symm)
  have g_b22 : n0 ≤ b22 := Nat.le_trans (own_old O0) (Nat.le_of_eq g22.symm)
  have sz_b22 : h0.size ≤ b22 := Nat.le_trans (Keep.refl h0 [u0]).1 (Nat.le_of_eq g22.symm)
  have O23 := O0.ext E22
  have K23 : Keep h0 h22 [u0] := (Keep.refl h0 [u0]).ext E22
  have F22_keys : Fld Z h22 b22 "com/example/vows_to_moves/vowstomoves/model/LongNumbering" "keys" "Lcom/example/vows_to_moves/vowstomoves/model/LongColumn;" .null := D22 (Or.inr (own_w hw 28 rfl)) (ty := (.object "com/example/vows_to_moves/vowstomoves/model/LongColumn")) (by decide)
  have F22_slots : Fld Z h22 b22 "com/example/vows_to_moves/vowstomoves/model/LongNumbering" "slots" "[I" .null := D22 (Or.inl (own_w hw 51 rfl)) (ty := (.array .int)) (by decide)
  refine own_on (B := T22.setTop (mkF m 8 #[rv u0] [(.ref b22), (.ref u0)])) (fun tz kz => st22 _ kz) ?_
  refine own_on (B := T22.setTop (mkF m 11 #[rv u0] [(.int 16), (.ref b22), (.ref b22), (.ref u0)])) (fun tz kz => ?_) ?_
  · show sT p e below T22 (mkF m 8 #[rv u0] [(.ref b22), (.ref u0)]) tz
    refine XS.dup X22.here hx rfl (hb hby own_d1_8) rfl rfl ?_
    show sT p e below T22 (mkF m 9 #[rv u0] [(.ref b22), (.ref b22), (.ref u0)]) tz
    refine XS.bipush X22.here hx rfl (hb hby own_d1_9) ?_
    exact kz
  obtain ⟨_, _, ⟨T24, L24, k24, n24⟩, -, X24, ⟨Lc24, hQ24, l24, y24, z24⟩, st24⟩ := X22.specialBack hx (y := (⟨"com/example/vows_to_moves/vowstomoves/model/LongNumbering", "<init>", "(I)V"⟩ : MethodName)) rfl hown (mvT hZ (own_w hw 12 rfl)) (mvT hZ (own_w hw 13 rfl)) (mvT hZ (own_w hw 14 rfl)) (by decide) (backOf (W := 2) (rm3 l Z a0 hw [] b22  h22 n0 O23 A22 g_b22 F22_keys F22_slots) hZ (own_w hw 14 rfl) (own_w hw 11 rfl) (by decide) (by decide)) (g := (mkF m 11 #[rv u0] [(.int 16), (.ref b22), (.ref b22), (.ref u0)])) rfl (by rw [hml]; rfl) (Steps.refl _) (a := b22) (argsL := [(.int (16 : Int32))]) (rest := [(.ref b22), (.ref u0)]) (lenOf own_pd5 rfl) rfl (by show 2 * 0 + _ ≤ _; exact Nat.le_of_eq rfl) (hb hby own_d1_11) (fun _ _ => ⟨rfl, e22, (by decide : 1 + 3 ≤ _), (by decide : 2 + 40 ≤ _)⟩)
  dsimp only [Pt.U, Pt.locs, Pt.cells, Pt.slots] at X24 l24 y24 z24 st24 hQ24
  subst l24 y24 z24
  obtain ⟨lc24, ja24, sa24, kj24, ks24, rfl, Nq24, Kq24, zq24, o124, o224, Fk24, Fs24, El24, Fc24, Fz24, Va24, Oa24, Vs24⟩ := hQ24
  have N24 := Fr.app N0 Nq24
  have f_25 := (E_u0.ext E22)
  have ne_u0_lc24 : u0 ≠ lc24 := Nat.ne_of_lt (Nat.lt_of_lt_of_le (f_25).lt zq24)
  have lne_u0_lc24 : @LT.lt Nat _ u0 lc24 := Nat.lt_of_lt_of_le (f_25).lt zq24
  have ne_b22_lc24 : b22 ≠ lc24 := Nat.ne_of_lt (Nat.lt_of_lt_of_le (A22).lt zq24)
  have lne_b22_lc24 : @LT.lt Nat _ b22 lc24 := Nat.lt_of_lt_of_le (A22).lt zq24
  have g_lc24 : n0 ≤ lc24 := Nat.le_trans (own_old O23) zq24
  have sz_lc24 : h0.size ≤ lc24 := Nat.le_trans K23.1 zq24
  have zj24 := Nat.le_of_lt (Nat.lt_of_le_of_lt zq24 o124)
  have ne_u0_ja24 : u0 ≠ ja24 := Nat.ne_of_lt (Nat.lt_of_lt_of_le (f_25).lt zj24)
  have lne_u0_ja24 : @LT.lt Nat _ u0 ja24 := Nat.lt_of_lt_of_le (f_25).lt zj24
  have ne_b22_ja24 : b22 ≠ ja24 := Nat.ne_of_lt (Nat.lt_of_lt_of_le (A22).lt zj24)
  have lne_b22_ja24 : @LT.lt Nat _ b22 ja24 := Nat.lt_of_lt_of_le (A22).lt zj24
  have g_ja24 : n0 ≤ ja24 := Nat.le_trans (own_old O23) zj24
  have sz_ja24 : h0.size ≤ ja24 := Nat.le_trans K23.1 zj24
  have zs24 := Nat.le_of_lt (Nat.lt_of_le_of_lt zj24 o224)
  have ne_u0_sa24 : u0 ≠ sa24 := Nat.ne_of_lt (Nat.lt_of_lt_of_le (f_25).lt zs24)
  have lne_u0_sa24 : @LT.lt Nat _ u0 sa24 := Nat.lt_of_lt_of_le (f_25).lt zs24
  have ne_b22_sa24 : b22 ≠ sa24 := Nat.ne_of_lt (Nat.lt_of_lt_of_le (A22).lt zs24)
  have lne_b22_sa24 : @LT.lt Nat _ b22 sa24 := Nat.lt_of_lt_of_le (A22).lt zs24
  have g_sa24 : n0 ≤ sa24 := Nat.le_trans (own_old O23) zs24
  have sz_sa24 : h0.size ≤ sa24 := Nat.le_trans K23.1 zs24
  have O26 := O23.keep Kq24 (allS g_b22 all0)
  have K26 : Keep h0 T24.heap [u0] := K23.trans Kq24 (allS (Or.inr sz_b22) all0)
  refine own_on (B := T24.setTop (mkF m 14 #[rv u0] [(.ref b22), (.ref u0)])) (fun tz kz => st24.trans kz) ?_
  have f_27 := ((F_distinct.ext E22).keep Kq24 (ninS ne_u0_b22 nin0))
  have f_28 := (f_25.keep Kq24)
  obtain ⟨T29, h29, X29, e29, W29, st29⟩ := putF X24 hx hZ hown (host := "") (Or.inl (own_w hw 52 rfl)) Via.refl rfl f_27 f_28 (Or.inl (own_w hw 53 rfl)) (own_w hw 1 rfl) (ty := (.object "com/example/vows_to_moves/vowstomoves/model/LongNumbering")) (by decide) rfl rfl (g := (mkF m 14 #[rv u0] [(.ref b22), (.ref u0)])) rfl rfl (hb hby own_d1_14)
  have Fw29 := f_27.same W29
  have N29 := Fr.snoc X29 N24 g_u0
  have O30 := O26.wr W29 g_u0
  have K30 : Keep h0 h29 [u0] := K26.wr W29 (Or.inl (List.mem_of_getElem? (i := 0) rfl))
  refine own_on (B := T29.setTop (mkF m 17 #[rv u0] [])) (fun tz kz => st29 _ kz) ?_
  refine own_on (B := T29.setTop (mkF m 20 #[rv u0] [(.int 16), (.ref u0)])) (fun tz kz => ?_) ?_
  · show sT p e below T29 (mkF m 17 #[rv u0] []) tz
    refine XS.aloadN X29.here hx rfl (hb hby own_d1_17) rfl rfl ?_
    show sT p e below T29 (mkF m 18 #[rv u0] [(.ref u0)]) tz
    refine XS.bipush X29.here hx rfl (hb hby own_d1_18) ?_
    exact kz
  obtain ⟨T31, h31, k31, X31, e31, E31, A31, st31⟩ := newP X29 hx hZ (own_w hw 54 rfl) e29 (g := (mkF m 20 #[rv u0] [(.int 16), (.ref u0)])) rfl (hb hby own_d1_20) rfl (by decide) (cap := 16) (by decide) (by decide) (by decide) (by decide)
  obtain ⟨b31, g31⟩ : ∃ z, z = h29.size := ⟨_, rfl⟩
  rw [← g31] at A31 st31
  have f_32 := (f_28.wr W29)
  have ne_u0_b31 : u0 ≠ b31 := Nat.ne_of_lt (Nat.lt_of_lt_of_le (f_32).lt (Nat.le_of_eq g31.symm))
  have lne_u0_b31 : @LT.lt Nat _ u0 b31 := Nat.lt_of_lt_of_le (f_32).lt (Nat.le_of_eq g31.symm)
  have f_33 := ((A22.keep Kq24).wr W29)
  have ne_b22_b31 : b22 ≠ b31 := Nat.ne_of_lt (Nat.lt_of_lt_of_le (f_33).lt (Nat.le_of_eq g31.symm))
  have lne_b22_b31 : @LT.lt Nat _ b22 b31 := Nat.lt_of_lt_of_le (f_33).lt (Nat.le_of_eq g31.symm)
  have f_34 := (El24.wr W29)
  have ne_lc24_b31 : lc24 ≠ b31 := Nat.ne_of_lt (Nat.lt_of_lt_of_le (f_34).lt (Nat.le_of_eq g31.symm))
  have lne_lc24_b31 : @LT.lt Nat _ lc24 b31 := Nat.lt_of_lt_of_le (f_34).lt (Nat.le_of_eq g31.symm)
  have f_35 := (Va24.other W29 (Ne.symm ne_u0_ja24))
  have ne_ja24_b31 : ja24 ≠ b31 := Nat.ne_of_lt (Nat.lt_of_lt_of_le (f_35).lt (Nat.le_of_eq g31.symm))
  have lne_ja24_b31 : @LT.lt Nat _ ja24 b31 := Nat.lt_of_lt_of_le (f_35).lt (Nat.le_of_eq g31.symm)
  have f_36 := (Vs24.other W29 (Ne.symm ne_u0_sa24))
  have ne_sa24_b31 : sa24 ≠ b31 := Nat.ne_of_lt (Nat.lt_of_lt_of_le (f_36).lt (Nat.le_of_eq g31.symm))
  have lne_sa24_b31 : @LT.lt Nat _ sa24 b31 := Nat.lt_of_lt_of_le (f_36).lt (Nat.le_of_eq g31.symm)
  have g_b31 : n0 ≤ b31 := Nat.le_trans (own_old O30) (Nat.le_of_eq g31.symm)
  have sz_b31 : h0.size ≤ b31 := Nat.le_trans K30.1 (Nat.le_of_eq g31.symm)
  have O37 := O30.ext E31
  have K37 : Keep h0 h31 [u0] := K30.ext E31
  have V31 : Arv Z h31 b31 k31 .double (16 : Int32) [] (.double 0) := Arv.new A31 (by decide)
  refine own_on (B := T31.setTop (mkF m 22 #[rv u0] [(.ref b31), (.ref u0)])) (fun tz kz => st31 _ kz) ?_
  have Vp : Arv Z h31 b31 k31 .double (16 : Int32) [.double 0, .double 0, .double 0, .double 0] (.double 0) := Arv.pad V31 (pad_rep [] (.double 0) 4)
  have f_38 := ((((F_values.ext E22).keep Kq24 (ninS ne_u0_b22 nin0)).other W29 (Or.inr (slot_ne (Or.inl (own_w hw 56 rfl)) (Or.inl (own_w hw 53 rfl)) (by decide) (t := (.array .double)) (t' := (.object "com/example/vows_to_moves/vowstomoves/model/LongNumbering")) (by decide) (by decide)))).ext E31)
  have f_39 := (f_32.ext E31)
  obtain ⟨T40, h40, X40, e40, W40, st40⟩ := putF X31 hx hZ hown (host := "") (Or.inl (own_w hw 55 rfl)) Via.refl e31 f_38 f_39 (Or.inl (own_w hw 56 rfl)) (own_w hw 1 rfl) (ty := (.array .double)) (by decide) rfl rfl (g := (mkF m 22 #[rv u0] [(.ref b31), (.ref u0)])) rfl rfl (hb hby own_d1_22)
  have Fw40 := f_38.same W40
  have N40 := Fr.snoc X40 N29 g_u0
  have O41 := O37.wr W40 g_u0
  have K41 : Keep h0 h40 [u0] := K37.wr W40 (Or.inl (List.mem_of_getElem? (i := 0) rfl))
  refine own_on (B := T40.setTop (mkF m 25 #[rv u0] [])) (fun tz kz => st40 _ kz) ?_
  refine own_on (B := T40.setTop (mkF m 27 #[rv u0] [(.int 4), (.ref u0)])) (fun tz kz => ?_) ?_
  · show sT p e below T40 (mkF m 25 #[rv u0] []) tz
    refine XS.aloadN X40.here hx rfl (hb hby own_d1_25) rfl rfl ?_
    show sT p e below T40 (mkF m 26 #[rv u0] [(.ref u0)]) tz
    refine XS.iconst X40.here hx rfl (hb hby own_d1_26) ?_
    exact kz
  obtain ⟨T42, h42, k42, X42, e42, E42, A42, Ex42, Ov42, st42⟩ := newRA X40 hx hZ hown (ty := .char) (by decide) (own_w hw 57 rfl) (own_w hw 58 rfl) e40 (g := (mkF m 27 #[rv u0] [(.int 4), (.ref u0)])) rfl (hb hby own_d1_27) rfl (by decide) (cap := 4) (by decide) (by decide) (by decide) (by decide) (ad := "[[C") (by decide)
  obtain ⟨b42, g42⟩ : ∃ z, z = h40.size := ⟨_, rfl⟩
  rw [← g42] at A42 st42
  rw [← g42] at Ex42
  have f_43 := (f_39.wr W40)
  have ne_u0_b42 : u0 ≠ b42 := Nat.ne_of_lt (Nat.lt_of_lt_of_le (f_43).lt (Nat.le_of_eq g42.symm))
  have lne_u0_b42 : @LT.lt Nat _ u0 b42 := Nat.lt_of_lt_of_le (f_43).lt (Nat.le_of_eq g42.symm)
  have f_44 := ((f_33.ext E31).wr W40)
  have ne_b22_b42 : b22 ≠ b42 := Nat.ne_of_lt (Nat.lt_of_lt_of_le (f_44).lt (Nat.le_of_eq g42.symm))
  have lne_b22_b42 : @LT.lt Nat _ b22 b42 := Nat.lt_of_lt_of_le (f_44).lt (Nat.le_of_eq g42.symm)
  have f_45 := ((f_34.ext E31).wr W40)
  have ne_lc24_b42 : lc24 ≠ b42 := Nat.ne_of_lt (Nat.lt_of_lt_of_le (f_45).lt (Nat.le_of_eq g42.symm))
  have lne_lc24_b42 : @LT.lt Nat _ lc24 b42 := Nat.lt_of_lt_of_le (f_45).lt (Nat.le_of_eq g42.symm)
  have f_46 := ((f_35.ext E31).other W40 (Ne.symm ne_u0_ja24))
  have ne_ja24_b42 : ja24 ≠ b42 := Nat.ne_of_lt (Nat.lt_of_lt_of_le (f_46).lt (Nat.le_of_eq g42.symm))
  have lne_ja24_b42 : @LT.lt Nat _ ja24 b42 := Nat.lt_of_lt_of_le (f_46).lt (Nat.le_of_eq g42.symm)
  have f_47 := ((f_36.ext E31).other W40 (Ne.symm ne_u0_sa24))
  have ne_sa24_b42 : sa24 ≠ b42 := Nat.ne_of_lt (Nat.lt_of_lt_of_le (f_47).lt (Nat.le_of_eq g42.symm))
  have lne_sa24_b42 : @LT.lt Nat _ sa24 b42 := Nat.lt_of_lt_of_le (f_47).lt (Nat.le_of_eq g42.symm)
  have f_48 := (Vp.other W40 (Ne.symm ne_u0_b31))
  have ne_b31_b42 : b31 ≠ b42 := Nat.ne_of_lt (Nat.lt_of_lt_of_le (f_48).lt (Nat.le_of_eq g42.symm))
  have lne_b31_b42 : @LT.lt Nat _ b31 b42 := Nat.lt_of_lt_of_le (f_48).lt (Nat.le_of_eq g42.symm)
  have g_b42 : n0 ≤ b42 := Nat.le_trans (own_old O41) (Nat.le_of_eq g42.symm)
  have sz_b42 : h0.size ≤ b42 := Nat.le_trans K41.1 (Nat.le_of_eq g42.symm)
  have O49 := O41.ext E42
  have K49 : Keep h0 h42 [u0] := K41.ext E42
  have V42 : Arv Z h42 b42 k42 (.array .char) (4 : Int32) [.null, .null, .null, .null] .null := (Arv.new A42 (by decide)).pad (pad_rep [] .null 4)
  refine own_on (B := T42.setTop (mkF m 30 #[rv u0] [(.ref b42), (.ref u0)])) (fun tz kz => st42 _ kz) ?_
  have f_50 := ((((((F_codes.ext E22).keep Kq24 (ninS ne_u0_b22 nin0)).other W29 (Or.inr (slot_ne (Or.inl (own_w hw 60 rfl)) (Or.inl (own_w hw 53 rfl)) (by decide) (t := (.array (.array .char))) (t' := (.object "com/example/vows_to_moves/vowstomoves/model/LongNumbering")) (by decide) (by decide)))).ext E31).other W40 (Or.inr (slot_ne (Or.inl (own_w hw 60 rfl)) (Or.inl (own_w hw 56 rfl)) (by decide) (t := (.array (.array .char))) (t' := (.array .double)) (by decide) (by decide)))).ext E42)
  have f_51 := (f_43.ext E42)
  obtain ⟨T52, h52, X52, e52, W52, st52⟩ := putF X42 hx hZ hown (host := "") (Or.inl (own_w hw 59 rfl)) Via.refl e42 f_50 f_51 (Or.inl (own_w hw 60 rfl)) (own_w hw 1 rfl) (ty := (.array (.array .char))) (by decide) rfl rfl (g := (mkF m 30 #[rv u0] [(.ref b42), (.ref u0)])) rfl rfl (hb hby own_d1_30)
  have Fw52 := f_50.same W52
  have N52 := Fr.snoc X52 N40 g_u0
  have O53 := O49.wr W52 g_u0
  have K53 : Keep h0 h52 [u0] := K49.wr W52 (Or.inl (List.mem_of_getElem? (i := 0) rfl))
  refine own_on (B := T52.setTop (mkF m 33 #[rv u0] [])) (fun tz kz => st52 _ kz) ?_
  have f_54 := ((((Fw29.ext E31).other W40 (Or.inr (slot_ne (Or.inl (own_w hw 53 rfl)) (Or.inl (own_w hw 56 rfl)) (by decide) (t := (.object "com/example/vows_to_moves/vowstomoves/model/LongNumbering")) (t' := (.array .double)) (by decide) (by decide)))).ext E42).other W52 (Or.inr (slot_ne (Or.inl (own_w hw 53 rfl)) (Or.inl (own_w hw 60 rfl)) (by decide) (t := (.object "com/example/vows_to_moves/vowstomoves/model/LongNumbering")) (t' := (.array (.array .char))) (by decide) (by decide))))
  have f_55 := ((Fw40.ext E42).other W52 (Or.inr (slot_ne (Or.inl (own_w hw 56 rfl)) (Or.inl (own_w hw 60 rfl)) (by decide) (t := (.array .double)) (t' := (.array (.array .char))) (by decide) (by decide))))
  have f_56 := (((((((F_plain.ext E22).keep Kq24 (ninS ne_u0_b22 nin0)).other W29 (Or.inr (slot_ne (Or.inl (own_w hw 69 rfl)) (Or.inl (own_w hw 53 rfl)) (by decide) (t := (.array (.array .double))) (t' := (.object "com/example/vows_to_moves/vowstomoves/model/LongNumbering")) (by decide) (by decide)))).ext E31).other W40 (Or.inr (slot_ne (Or.inl (own_w hw 69 rfl)) (Or.inl (own_w hw 56 rfl)) (by decide) (t := (.array (.array .double))) (t' := (.array .double)) (by decide) (by decide)))).ext E42).other W52 (Or.inr (slot_ne (Or.inl (own_w hw 69 rfl)) (Or.inl (own_w hw 60 rfl)) (by decide) (t := (.array (.array .double))) (t' := (.array (.array .char))) (by decide) (by decide))))
  have f_57 := (((((((F_size.ext E22).keep Kq24 (ninS ne_u0_b22 nin0)).other W29 (Or.inr (slot_ne (Or.inl (own_w hw 67 rfl)) (Or.inl (own_w hw 53 rfl)) (by decide) (t := .int) (t' := (.object "com/example/vows_to_moves/vowstomoves/model/LongNumbering")) (by decide) (by decide)))).ext E31).other W40 (Or.inr (slot_ne (Or.inl (own_w hw 67 rfl)) (Or.inl (own_w hw 56 rfl)) (by decide) (t := .int) (t' := (.array .double)) (by decide) (by decide)))).ext E42).other W52 (Or.inr (slot_ne (Or.inl (own_w hw 67 rfl)) (Or.inl (own_w hw 60 rfl)) (by decide) (t := .int) (t' := (.array (.array .char))) (by decide) (by decide))))
  have f_58 := ((f_44.ext E42).wr W52)
  have f_59 := (((((Fk24.other W29 (Or.inl (Ne.symm ne_u0_b22))).ext E31).other W40 (Or.inl (Ne.symm ne_u0_b22))).ext E42).other W52 (Or.inl (Ne.symm ne_u0_b22)))
  have f_60 := (((((Fs24.other W29 (Or.inl (Ne.symm ne_u0_b22))).ext E31).other W40 (Or.inl (Ne.symm ne_u0_b22))).ext E42).other W52 (Or.inl (Ne.symm ne_u0_b22)))
  have f_61 := ((f_45.ext E42).wr W52)
  have f_62 := (((((Fc24.other W29 (Or.inl (Ne.symm ne_u0_lc24))).ext E31).other W40 (Or.inl (Ne.symm ne_u0_lc24))).ext E42).other W52 (Or.inl (Ne.symm ne_u0_lc24)))
  have f_63 := (((((Fz24.other W29 (Or.inl (Ne.symm ne_u0_lc24))).ext E31).other W40 (Or.inl (Ne.symm ne_u0_lc24))).ext E42).other W52 (Or.inl (Ne.symm ne_u0_lc24)))
  have f_64 := ((f_46.ext E42).other W52 (Ne.symm ne_u0_ja24))
  have f_65 := ((f_47.ext E42).other W52 (Ne.symm ne_u0_sa24))
  have f_66 := ((f_48.ext E42).other W52 (Ne.symm ne_u0_b31))
  have f_67 := (V42.other W52 (Ne.symm ne_u0_b42))
  obtain ⟨fs, hr, hrun, hended, hW, hsame⟩ := X52.leave (v := none) (fun _ => rfl)
  refine own_of ⟨_, _, ?_, hrun, hended, _, _, rfl, ?_, ⟨_, rfl⟩, hW, hsame.mono (by decide) (by decide)⟩
  · show sT p e below T52 (mkF m 33 #[rv u0] []) _
    exact X52.returnOut hx Bd.returns (hb hby own_d1_33) hr
  · show Q1 Z u0 h0 n0 _ T52.heap _
    rw [e52]
    exact ⟨b22, lc24, ja24, sa24, b31, b42, kj24, ks24, k31, k42, rfl, N52, K53, sz_b22, lne_u0_b22, lne_b22_lc24, o124, o224, lne_sa24_b31, lne_b31_b42, f_54, f_55, Fw52, f_56, f_57, f_58, f_59, f_60, f_61, f_62, f_63, f_64, Oa24, f_65, f_66, f_67, Ov42⟩
def OwnTab (vs : List Value) (m : Nat) (S : List Nat) : Prop := vs.length = 32 ∧ ∀ j, j < 32 → vs.getD j (.int 0) = .int (-1 : Int32) ∨ ∃ i, i < m ∧ vs.getD j (.int 0) = .int i.toInt32 ∧ j ∈ S
theorem own_tab0 : OwnTab (List.replicate 32 (.int (-1 : Int32))) 0 [] := ⟨by simp, fun j hj => Or.inl (by rw [List.getD_eq_getElem?_getD, List.getElem?_replicate, if_pos hj]; rfl)⟩
theorem own_tabS {vs : List Value} {m : Nat} {S : List Nat} {j : Nat} (h : OwnTab vs m S) (hj : j < 32) : OwnTab (vs.set j (.int m.toInt32)) (m + 1) (j :: S) := by
  refine ⟨by simpa using h.1, fun i hi => ?_⟩
  by_cases q : j = i
  · subst q
    exact Or.inr ⟨m, Nat.lt_succ_self m, by simp [List.getD_eq_getElem?_getD, List.getElem?_set, h.1, hj], by simp⟩
  · have e : (vs.set j (.int m.toInt32)).getD i (.int 0) = vs.getD i (.int 0) := by simp [List.getD_eq_getElem?_getD, List.getElem?_set, q]
    rw [e]
    rcases h.2 i hi with a | ⟨k, a1, a2, a3⟩
    · exact Or.inl a
    · exact Or.inr ⟨k, Nat.lt_succ_of_lt a1, a2, by simp [a3]⟩
theorem own_full {S : List Nat} {a b c d : Nat} (hS : S.length ≤ 3) (ha : a < 32) (hb : b = (a + 1) % 32) (hc : c = (b + 1) % 32) (hd : d = (c + 1) % 32) (ma : a ∈ S) (mb : b ∈ S) (mc : c ∈ S) (md : d ∈ S) : False := by
  match S, hS with
  | [], _ => simp at ma
  | [x], _ => simp only [List.mem_singleton] at *; omega
  | [x, y], _ => simp only [List.mem_cons, List.not_mem_nil, or_false] at *; omega
  | [x, y, z], _ => simp only [List.mem_cons, List.not_mem_nil, or_false] at *; omega
  | _ :: _ :: _ :: _ :: _, h => simp at h
theorem own_lt32 {x : Int32} (h0 : ¬ x < 0) (h1 : x < 32) : x.toNatClampNeg < 32 := by
  have z0 : (0 : Int32).toInt = 0 := rfl
  have z5 : (32 : Int32).toInt = 32 := rfl
  rw [Int32.lt_iff_toInt_lt] at h0 h1
  show x.toInt.toNat < 32; omega
theorem own_m31 (x : Int32) : ¬ (x &&& (31 : Int32)) < 0 ∧ (x &&& (31 : Int32)) < 32 := by
  have m := c_mask x 31 5 (by decide) (by decide)
  have z0 : (0 : Int32).toInt = 0 := rfl
  have z5 : (32 : Int32).toInt = 32 := rfl
  rw [Int32.lt_iff_toInt_lt, Int32.lt_iff_toInt_lt]; omega
theorem own_step {x y : Int32} (h0 : ¬ x < 0) (h1 : x < 32) (e : ((x + (1 : Int32)) &&& (31 : Int32)) = y) : ¬ y < 0 ∧ y < 32 ∧ y.toNatClampNeg = (x.toNatClampNeg + 1) % 32 := by
  have q := own_m31 (x + 1)
  rw [e] at q
  refine ⟨q.1, q.2, ?_⟩
  have z0 : (0 : Int32).toInt = 0 := rfl
  have z1 : (1 : Int32).toInt = 1 := rfl
  have z5 : (32 : Int32).toInt = 32 := rfl
  rw [Int32.lt_iff_toInt_lt] at h0 h1
  have a := c_iadd x 1
  have r := rng32 (x + 1)
  generalize x + 1 = u at *
  have m := c_mask u 31 5 (by decide) (by decide)
  rw [e] at m
  show y.toInt.toNat = (x.toInt.toNat + 1) % 32
  omega
theorem own_ix {i m : Nat} (hi : i < m) (hm : m ≤ 4) : ¬ i.toInt32 < 0 ∧ i.toInt32 < 4 ∧ i.toInt32.toNatClampNeg = i ∧ ¬ i.toInt32 = (-1 : Int32) ∧ i.toInt32 < m.toInt32 := by
  match m, hm with
  | 0, _ => omega
  | 1, _ => match i, hi with | 0, _ => decide
  | 2, _ => match i, hi with | 0, _ => decide | 1, _ => decide
  | 3, _ => match i, hi with | 0, _ => decide | 1, _ => decide | 2, _ => decide
  | 4, _ => match i, hi with | 0, _ => decide | 1, _ => decide | 2, _ => decide | 3, _ => decide
theorem own_sh15 {x : Int32} (h0 : ¬ x < 0) (h1 : x < 4) : ((x.toUInt32 >>> ((15 : Int32) &&& 31).toUInt32).toInt32) = 0 ∧ (x &&& (32767 : Int32)) = x := by
  have z0 : (0 : Int32).toInt = 0 := rfl
  have z5 : (4 : Int32).toInt = 4 := rfl
  rw [Int32.lt_iff_toInt_lt] at h0 h1
  have s := c_iushr x 15 15 (by decide) (by decide)
  have m := c_mask x 32767 15 (by decide) (by decide)
  constructor
  · rw [← Int32.toInt_inj]; omega
  · rw [← Int32.toInt_inj]; omega
theorem own_lcmp {x y : Int64} (h : lcmpW x y = (0 : Int32)) : x = y := by
  unfold lcmpW at h
  by_cases b : x = y
  · exact b
  · by_cases a : y < x
    · rw [if_pos a] at h; exact absurd h (by decide)
    · rw [if_neg a, if_neg b] at h; exact absurd h (by decide)
theorem own_vl {v0 v1 v2 v3 : UInt64} {i : Nat} {x : Int32} (hx : x.toNatClampNeg = i) (hi : i < 4) : ([.long v0.toInt64, .long v1.toInt64, .long v2.toInt64, .long v3.toInt64] : List Value).getD x.toNatClampNeg (.long 0) = .long ([v0, v1, v2, v3].getD i 0).toInt64 := by
  rw [hx]
  match i, hi with | 0, _ => rfl | 1, _ => rfl | 2, _ => rfl | 3, _ => rfl
theorem own_vd {v0 v1 v2 v3 : UInt64} {i : Nat} {x : Int32} (hx : x.toNatClampNeg = i) (hi : i < 4) : ([.double v0, .double v1, .double v2, .double v3] : List Value).getD x.toNatClampNeg (.double 0) = .double ([v0, v1, v2, v3].getD i 0) := by
  rw [hx]
  match i, hi with | 0, _ => rfl | 1, _ => rfl | 2, _ => rfl | 3, _ => rfl
theorem own_ef_14 (m : MethodId) (x0 : Addr) : entryFrame m #[(.ref x0)] 1 = mkF m 0 #[rv x0] [] := by first | (simp [entryFrame, mkF, argsToLocals, Value.category]; done) | rfl
def Q14 (Z : State) (u0 : Addr) (n_ : Int32) (h0 : Heap) (n0 : Nat) (v : Option Value) (h : Heap) (L : List Loc) : Prop := v = some (.int n_) ∧ Fr n0 L ∧ h = h0
theorem own_d14_0 : decode prog_81_method_2_code 0 = .ok (.aload_n 0, 1) := by decide +kernel
theorem own_d14_1 : decode prog_81_method_2_code 1 = .ok (.getfield 15, 3) := by decide +kernel
theorem own_d14_4 : decode prog_81_method_2_code 4 = .ok (.ireturn, 1) := by decide +kernel
set_option maxRecDepth 65536 in
set_option maxHeartbeats 40000000 in
theorem rm14 (l : Launch) (Z : State) (a0 : Array Value) (hw : ∀ d ∈ tables_1, d.before a0 Z = true) (ws : List Jvm.Cond) (u0 : Addr) (n_ : Int32) (h0 : Heap) (n0 : Nat) (O0 : Old Z n0 h0) (Fs : Fld Z h0 u0 "com/example/vows_to_moves/vowstomoves/model/LongColumn" "size" "I" (.int n_)) :
    MetFree l (⟨"com/example/vows_to_moves/vowstomoves/model/LongColumn", "size", "()I"⟩ : MethodName) (head1 (Jvm.Cond.code (⟨"com/example/vows_to_moves/vowstomoves/model/LongColumn", "size", "()I"⟩ : MethodName) prog_81_method_2_code 1 (some .int) :: ws) ({ frames := 0, cells := 0, slots := 0, locals := 0 } : Room)) (fun a U => a = #[(.ref u0)] ∧ Z.Warmed39 U.vm ∧ U.heap = h0) (fun _ _ _ _ _ => True) (fun _ U o U' => ∃ v L, o = .returned v ∧ Q14 Z u0 n_ h0 n0 v U'.heap L ∧ FrameEnd U o U' L ({ frames := 0, cells := 0, slots := 0, locals := 0 } : Room).cells ({ frames := 0, cells := 0, slots := 0, locals := 0 } : Room).slots) := by
  refine MetFree.of_bodySF (plainFor_of_name own_pn_com_example_vows_to_moves_vowstomoves_model_LongColumn) hisR ?_
  intro p e s m args below meth c s₁ Bd hml0 hP hK
  obtain ⟨rfl, hZ, hh⟩ := hP
  have hx := Bd.exec
  have hby := Bd.bytes
  have hml : c.maxLocals = 1 := hml0
  have hown : s.vm.findClass "com/example/vows_to_moves/vowstomoves/model/LongColumn" = some m.cls := findClass_of_methodNamed Bd.named
  have hnm := (name_of_methodNamed Bd.named Bd.method).1
  have X0 : Stand p l e ({ frames := 0, cells := 0, slots := 0, locals := 0 } : Room) s m #[(.ref u0)] below meth c s₁ [] 0 0 := Stand.of_body Bd
  have e0 : s₁.heap = h0 := by rw [← hh, Bd.state]; rfl
  have N0 := Fr.nil n0
  change Go p.tables e below _ _
  refine own_on (B := s₁.setTop (mkF m 0 #[rv u0] [])) (fun tz kz => castTop (own_ef_14 m u0) kz) ?_
  refine own_on (B := s₁.setTop (mkF m 1 #[rv u0] [(.ref u0)])) (fun tz kz => ?_) ?_
  · show sT p e below s₁ (mkF m 0 #[rv u0] []) tz
    refine XS.aloadN X0.here hx rfl (hb hby own_d14_0) rfl rfl ?_
    exact kz
  obtain ⟨T21, X21, e21, st21⟩ := getF X0 hx hZ hown (host := "") (Or.inl (own_w hw 96 rfl)) Via.refl e0 Fs (g := (mkF m 1 #[rv u0] [(.ref u0)])) rfl rfl (hb hby own_d14_1)
  refine own_on (B := T21.setTop (mkF m 4 #[rv u0] [(.int n_)])) (fun tz kz => st21 _ kz) ?_
  obtain ⟨fs, hr, hrun, hended, hW, hsame⟩ := X21.leave (v := some (.int n_)) (fun h => by rw [Bd.returns] at h; cases h)
  refine own_of ⟨_, _, ?_, hrun, hended, _, _, rfl, ?_, ⟨_, rfl⟩, hW, hsame.mono (by decide) (by decide)⟩
  · show sT p e below T21 (mkF m 4 #[rv u0] [(.int n_)]) _
    exact own_retI X21 hx Bd.returns (hb hby own_d14_4) hr
  · show Q14 Z u0 n_ h0 n0 _ T21.heap _
    rw [e21]
    exact ⟨rfl, N0, rfl⟩
theorem own_ef_13 (m : MethodId) (x0 : Addr) : entryFrame m #[(.ref x0)] 1 = mkF m 0 #[rv x0] [] := by first | (simp [entryFrame, mkF, argsToLocals, Value.category]; done) | rfl
def Q13 (Z : State) (u0 : Addr) (lc : Addr) (n_ : Int32) (h0 : Heap) (n0 : Nat) (v : Option Value) (h : Heap) (L : List Loc) : Prop := v = some (.int n_) ∧ Fr n0 L ∧ h = h0
theorem own_d13_0 : decode prog_82_method_5_code 0 = .ok (.aload_n 0, 1) := by decide +kernel
theorem own_d13_1 : decode prog_82_method_5_code 1 = .ok (.getfield 12, 3) := by decide +kernel
theorem own_pd6 : parseMethodDescriptor "()I" = some ⟨[], some .int⟩ := by decide +kernel
theorem own_d13_4 : decode prog_82_method_5_code 4 = .ok (.invokevirtual 40, 3) := by decide +kernel
theorem own_d13_7 : decode prog_82_method_5_code 7 = .ok (.ireturn, 1) := by decide +kernel
set_option maxRecDepth 65536 in
set_option maxHeartbeats 40000000 in
theorem rm13 (l : Launch) (Z : State) (a0 : Array Value) (hw : ∀ d ∈ tables_1, d.before a0 Z = true) (ws : List Jvm.Cond) (u0 : Addr) (lc : Addr) (n_ : Int32) (h0 : Heap) (n0 : Nat) (O0 : Old Z n0 h0) (Fk : Fld Z h0 u0 "com/example/vows_to_moves/vowstomoves/model/LongNumbering" "keys" "Lcom/example/vows_to_moves/vowstomoves/model/LongColumn;" (.ref lc)) (El : Exa Z h0 lc "com/example/vows_to_moves/vowstomoves/model/LongColumn") (Fs : Fld Z h0 lc "com/example/vows_to_moves/vowstomoves/model/LongColumn" "size" "I" (.int n_)) :
    MetFree l (⟨"com/example/vows_to_moves/vowstomoves/model/LongNumbering", "count", "()I"⟩ : MethodName) (head1 (Jvm.Cond.code (⟨"com/example/vows_to_moves/vowstomoves/model/LongNumbering", "count", "()I"⟩ : MethodName) prog_82_method_5_code 1 (some .int) :: ws) ({ frames := 1, cells := 0, slots := 0, locals := 12 } : Room)) (fun a U => a = #[(.ref u0)] ∧ Z.Warmed39 U.vm ∧ U.heap = h0) (fun _ _ _ _ _ => True) (fun _ U o U' => ∃ v L, o = .returned v ∧ Q13 Z u0 lc n_ h0 n0 v U'.heap L ∧ FrameEnd U o U' L ({ frames := 1, cells := 0, slots := 0, locals := 12 } : Room).cells ({ frames := 1, cells := 0, slots := 0, locals := 12 } : Room).slots) := by
  refine MetFree.of_bodySF (plainFor_of_name own_pn_com_example_vows_to_moves_vowstomoves_model_LongNumbering) hisR ?_
  intro p e s m args below meth c s₁ Bd hml0 hP hK
  obtain ⟨rfl, hZ, hh⟩ := hP
  have hx := Bd.exec
  have hby := Bd.bytes
  have hml : c.maxLocals = 1 := hml0
  have hown : s.vm.findClass "com/example/vows_to_moves/vowstomoves/model/LongNumbering" = some m.cls := findClass_of_methodNamed Bd.named
  have hnm := (name_of_methodNamed Bd.named Bd.method).1
  have X0 : Stand p l e ({ frames := 1, cells := 0, slots := 0, locals := 12 } : Room) s m #[(.ref u0)] below meth c s₁ [] 0 0 := Stand.of_body Bd
  have e0 : s₁.heap = h0 := by rw [← hh, Bd.state]; rfl
  have N0 := Fr.nil n0
  change Go p.tables e below _ _
  refine own_on (B := s₁.setTop (mkF m 0 #[rv u0] [])) (fun tz kz => castTop (own_ef_13 m u0) kz) ?_
  refine own_on (B := s₁.setTop (mkF m 1 #[rv u0] [(.ref u0)])) (fun tz kz => ?_) ?_
  · show sT p e below s₁ (mkF m 0 #[rv u0] []) tz
    refine XS.aloadN X0.here hx rfl (hb hby own_d13_0) rfl rfl ?_
    exact kz
  obtain ⟨T21, X21, e21, st21⟩ := getF X0 hx hZ hown (host := "") (Or.inl (own_w hw 27 rfl)) Via.refl e0 Fk (g := (mkF m 1 #[rv u0] [(.ref u0)])) rfl rfl (hb hby own_d13_1)
  refine own_on (B := T21.setTop (mkF m 4 #[rv u0] [(.ref lc)])) (fun tz kz => st21 _ kz) ?_
  obtain ⟨cq22, kq22, q22a, q22b, q22c⟩ := isOf hZ e21 El
  obtain ⟨_, _, ⟨T22, L22, k22, n22⟩, -, X22, ⟨Lc22, hQ22, l22, y22, z22⟩, st22⟩ := X21.virtualBack hx (y := (⟨"com/example/vows_to_moves/vowstomoves/model/LongColumn", "size", "()I"⟩ : MethodName)) (z := (⟨"com/example/vows_to_moves/vowstomoves/model/LongColumn", "size", "()I"⟩ : MethodName)) hown (mvT hZ (own_w hw 91 rfl)) (mvT hZ (own_w hw 92 rfl)) (notFace_of_selects (args := #[]) (mvT hZ (own_w hw 94 rfl))) (mvT hZ (own_w hw 94 rfl)) (mvT hZ (own_w hw 93 rfl)) (by decide) (backOf (W := 0) (rm14 l Z a0 hw [] lc n_ h0 n0 O0 Fs) hZ (own_w hw 95 rfl) (own_w hw 18 rfl) (by decide) (by decide)) q22a q22c (g := (mkF m 4 #[rv u0] [(.ref lc)])) rfl (by rw [hml]; rfl) (Steps.refl _) (argsL := []) (rest := []) (lenOf own_pd6 rfl) rfl (by show 2 * 0 + _ ≤ _; exact Nat.le_of_eq rfl) (hb hby own_d13_4) (fun _ _ => ⟨rfl, e21, (by decide : 0 + 0 ≤ _), (by decide : 0 + 0 ≤ _)⟩)
  dsimp only [Pt.U, Pt.locs, Pt.cells, Pt.slots] at X22 l22 y22 z22 st22 hQ22
  subst l22 y22 z22
  obtain ⟨rfl, Nq22, e22⟩ := hQ22
  have N22 := Fr.app N0 Nq22
  refine own_on (B := T22.setTop (mkF m 7 #[rv u0] [(.int n_)])) (fun tz kz => st22.trans kz) ?_
  obtain ⟨fs, hr, hrun, hended, hW, hsame⟩ := X22.leave (v := some (.int n_)) (fun h => by rw [Bd.returns] at h; cases h)
  refine own_of ⟨_, _, ?_, hrun, hended, _, _, rfl, ?_, ⟨_, rfl⟩, hW, hsame.mono (by decide) (by decide)⟩
  · show sT p e below T22 (mkF m 7 #[rv u0] [(.int n_)]) _
    exact own_retI X22 hx Bd.returns (hb hby own_d13_7) hr
  · show Q13 Z u0 lc n_ h0 n0 _ T22.heap _
    rw [e22]
    exact ⟨rfl, N22, rfl⟩
theorem own_ef_22 (m : MethodId) (x0 : Addr) (x1 : Int32) : entryFrame m #[(.ref x0), (.int x1)] 2 = mkF m 0 #[rv x0, iv x1] [] := by first | (simp [entryFrame, mkF, argsToLocals, Value.category]; done) | rfl
def Q22 (Z : State) (u0 : Addr) (p1 : Int32) (ja : Addr) (jc : Addr) (kj : ClassId) (kl : ClassId) (ls : List Value) (ky : Int64) (h0 : Heap) (n0 : Nat) (v : Option Value) (h : Heap) (L : List Loc) : Prop := v = some (.long ky) ∧ Fr n0 L ∧ h = h0
theorem own_d22_0 : decode prog_81_method_3_code 0 = .ok (.aload_n 0, 1) := by decide +kernel
theorem own_d22_1 : decode prog_81_method_3_code 1 = .ok (.getfield 9, 3) := by decide +kernel
theorem own_d22_4 : decode prog_81_method_3_code 4 = .ok (.iload_n 1, 1) := by decide +kernel
theorem own_d22_5 : decode prog_81_method_3_code 5 = .ok (.bipush 15, 2) := by decide +kernel
theorem own_d22_7 : decode prog_81_method_3_code 7 = .ok (.iushr, 1) := by decide +kernel
theorem own_d22_8 : decode prog_81_method_3_code 8 = .ok (.aaload, 1) := by decide +kernel
theorem own_d22_9 : decode prog_81_method_3_code 9 = .ok (.iload_n 1, 1) := by decide +kernel
theorem own_d22_10 : decode prog_81_method_3_code 10 = .ok (.sipush 32767, 3) := by decide +kernel
theorem own_d22_13 : decode prog_81_method_3_code 13 = .ok (.iand, 1) := by decide +kernel
theorem own_d22_14 : decode prog_81_method_3_code 14 = .ok (.laload, 1) := by decide +kernel
theorem own_d22_15 : decode prog_81_method_3_code 15 = .ok (.lreturn, 1) := by decide +kernel
set_option maxRecDepth 65536 in
set_option maxHeartbeats 40000000 in
theorem rm22 (l : Launch) (Z : State) (a0 : Array Value) (hw : ∀ d ∈ tables_1, d.before a0 Z = true) (ws : List Jvm.Cond) (u0 : Addr) (p1 : Int32) (ja : Addr) (jc : Addr) (kj : ClassId) (kl : ClassId) (ls : List Value) (ky : Int64) (h0 : Heap) (n0 : Nat) (O0 : Old Z n0 h0) (Fc : Fld Z h0 u0 "com/example/vows_to_moves/vowstomoves/model/LongColumn" "chunks" "[[J" (.ref ja)) (Vj : Arv Z h0 ja kj (.array .long) (4 : Int32) [(.ref jc), .null, .null, .null] .null) (Vl : Arv Z h0 jc kl .long (32768 : Int32) ls (.long 0)) (lo : ¬ p1 < 0) (hi : p1 < 4) (hk_ : ls.getD p1.toNatClampNeg (.long 0) = .long ky) :
    MetFree l (⟨"com/example/vows_to_moves/vowstomoves/model/LongColumn", "get", "(I)J"⟩ : MethodName) (head1 (Jvm.Cond.code (⟨"com/example/vows_to_moves/vowstomoves/model/LongColumn", "get", "(I)J"⟩ : MethodName) prog_81_method_3_code 2 (some .long) :: ws) ({ frames := 0, cells := 0, slots := 0, locals := 0 } : Room)) (fun a U => a = #[(.ref u0), (.int p1)] ∧ Z.Warmed39 U.vm ∧ U.heap = h0) (fun _ _ _ _ _ => True) (fun _ U o U' => ∃ v L, o = .returned v ∧ Q22 Z u0 p1 ja jc kj kl ls ky h0 n0 v U'.heap L ∧ FrameEnd U o U' L ({ frames := 0, cells := 0, slots := 0, locals := 0 } : Room).cells ({ frames := 0, cells := 0, slots := 0, locals := 0 } : Room).slots) := by
  refine MetFree.of_bodySF (plainFor_of_name own_pn_com_example_vows_to_moves_vowstomoves_model_LongColumn) hisR ?_
  intro p e s m args below meth c s₁ Bd hml0 hP hK
  obtain ⟨rfl, hZ, hh⟩ := hP
  have hx := Bd.exec
  have hby := Bd.bytes
  have hml : c.maxLocals = 2 := hml0
  have hown : s.vm.findClass "com/example/vows_to_moves/vowstomoves/model/LongColumn" = some m.cls := findClass_of_methodNamed Bd.named
  have hnm := (name_of_methodNamed Bd.named Bd.method).1
  have X0 : Stand p l e ({ frames := 0, cells := 0, slots := 0, locals := 0 } : Room) s m #[(.ref u0), (.int p1)] below meth c s₁ [] 0 0 := Stand.of_body Bd
  have e0 : s₁.heap = h0 := by rw [← hh, Bd.state]; rfl
  have N0 := Fr.nil n0
  change Go p.tables e below _ _
  refine own_on (B := s₁.setTop (mkF m 0 #[rv u0, iv p1] [])) (fun tz kz => castTop (own_ef_22 m u0 p1) kz) ?_
  refine own_on (B := s₁.setTop (mkF m 1 #[rv u0, iv p1] [(.ref u0)])) (fun tz kz => ?_) ?_
  · show sT p e below s₁ (mkF m 0 #[rv u0, iv p1] []) tz
    refine XS.aloadN X0.here hx rfl (hb hby own_d22_0) rfl rfl ?_
    exact kz
  obtain ⟨T21, X21, e21, st21⟩ := getF X0 hx hZ hown (host := "") (Or.inl (own_w hw 25 rfl)) Via.refl e0 Fc (g := (mkF m 1 #[rv u0, iv p1] [(.ref u0)])) rfl rfl (hb hby own_d22_1)
  refine own_on (B := T21.setTop (mkF m 4 #[rv u0, iv p1] [(.ref ja)])) (fun tz kz => st21 _ kz) ?_
  refine own_on (B := T21.setTop (mkF m 8 #[rv u0, iv p1] [(.int ((p1.toUInt32 >>> ((15 : Int32) &&& 31).toUInt32).toInt32)), (.ref ja)])) (fun tz kz => ?_) ?_
  · show sT p e below T21 (mkF m 4 #[rv u0, iv p1] [(.ref ja)]) tz
    refine XS.iloadN X21.here hx rfl (hb hby own_d22_4) rfl ?_
    show sT p e below T21 (mkF m 5 #[rv u0, iv p1] [(.int p1), (.ref ja)]) tz
    refine XS.bipush X21.here hx rfl (hb hby own_d22_5) ?_
    show sT p e below T21 (mkF m 7 #[rv u0, iv p1] [(.int 15), (.int p1), (.ref ja)]) tz
    refine XS.iushr X21.here hx rfl (hb hby own_d22_7) rfl ?_
    exact kz
  rw [(own_sh15 lo hi).1]
  obtain ⟨cl22, Ar22, q22, S22, M22, H22, G22⟩ := id Vj
  have hin23 : ¬ ((0 : Int32) < 0 ∨ cl22.slots.size ≤ ((0 : Int32)).toNatClampNeg) := inb_of S22 ⟨by decide, by decide⟩
  have hat23 : cl22.slots[((0 : Int32)).toNatClampNeg]? = some (.ref jc) := Has.at H22 hin23 rfl
  refine own_on (B := T21.setTop (mkF m 14 #[rv u0, iv p1] [(.int (p1 &&& (32767 : Int32))), (.ref jc)])) (fun tz kz => ?_) ?_
  · show sT p e below T21 (mkF m 8 #[rv u0, iv p1] [(.int 0), (.ref ja)]) tz
    refine X21.aaload hx (j := (0 : Int32)) (v := (.ref jc)) (by rw [e21]; exact Ar22.1) (State.isArrayOf_alike hZ.alike Ar22.2.1) rfl Ar22.2.2 hin23 hat23 (g := (mkF m 8 #[rv u0, iv p1] [(.int 0), (.ref ja)])) rfl rfl (hb hby own_d22_8) _ ?_
    show sT p e below T21 (mkF m 9 #[rv u0, iv p1] [(.ref jc)]) tz
    refine XS.iloadN X21.here hx rfl (hb hby own_d22_9) rfl ?_
    show sT p e below T21 (mkF m 10 #[rv u0, iv p1] [(.int p1), (.ref jc)]) tz
    refine XS.sipush X21.here hx rfl (hb hby own_d22_10) ?_
    show sT p e below T21 (mkF m 13 #[rv u0, iv p1] [(.int 32767), (.int p1), (.ref jc)]) tz
    refine XS.iand X21.here hx rfl (hb hby own_d22_13) rfl ?_
    exact kz
  rw [(own_sh15 lo hi).2]
  obtain ⟨cl24, Ar24, q24, S24, M24, H24, G24⟩ := id Vl
  have hin25 : ¬ (p1 < 0 ∨ cl24.slots.size ≤ (p1).toNatClampNeg) := inb_of S24 ⟨lo, Int32.lt_trans hi (by decide)⟩
  have hat25 : cl24.slots[(p1).toNatClampNeg]? = some (.long ky) := Has.at H24 hin25 hk_
  refine own_on (B := T21.setTop (mkF m 15 #[rv u0, iv p1] [(.long ky)])) (fun tz kz => ?_) ?_
  · show sT p e below T21 (mkF m 14 #[rv u0, iv p1] [(.int p1), (.ref jc)]) tz
    refine X21.laload hx (j := p1) (v := (.long ky)) (by rw [e21]; exact Ar24.1) (State.isArrayOf_alike hZ.alike Ar24.2.1) Ar24.2.2 hin25 hat25 (g := (mkF m 14 #[rv u0, iv p1] [(.int p1), (.ref jc)])) rfl rfl (hb hby own_d22_14) _ ?_
    exact kz
  obtain ⟨fs, hr, hrun, hended, hW, hsame⟩ := X21.leave (v := some (.long ky)) (fun h => by rw [Bd.returns] at h; cases h)
  refine own_of ⟨_, _, ?_, hrun, hended, _, _, rfl, ?_, ⟨_, rfl⟩, hW, hsame.mono (by decide) (by decide)⟩
  · show sT p e below T21 (mkF m 15 #[rv u0, iv p1] [(.long ky)]) _
    exact own_retJ X21 hx Bd.returns (hb hby own_d22_15) hr
  · show Q22 Z u0 p1 ja jc kj kl ls ky h0 n0 _ T21.heap _
    rw [e21]
    exact ⟨rfl, N0, rfl⟩
theorem own_ef_17 (m : MethodId) (x0 : Int64) (x1 : Int32) : entryFrame m #[(.long x0), (.int x1)] 5 = mkF m 0 #[.val (.long x0), .second, iv x1, .unset, .unset] [] := by first | (simp [entryFrame, mkF, argsToLocals, Value.category]; done) | rfl
def Q17 (Z : State) (q0 : Int64) (h0 : Heap) (n0 : Nat) (v : Option Value) (h : Heap) (L : List Loc) : Prop := ∃ r : Int32, v = some (.int r) ∧ ¬ r < 0 ∧ r < 32 ∧ Fr n0 L ∧ h = h0
theorem own_d17_0 : decode prog_82_method_10_code 0 = .ok (.lload_n 0, 1) := by decide +kernel
theorem own_d17_1 : decode prog_82_method_10_code 1 = .ok (.lload_n 0, 1) := by decide +kernel
theorem own_d17_2 : decode prog_82_method_10_code 2 = .ok (.bipush 30, 2) := by decide +kernel
theorem own_d17_4 : decode prog_82_method_10_code 4 = .ok (.lushr, 1) := by decide +kernel
theorem own_d17_5 : decode prog_82_method_10_code 5 = .ok (.lxor, 1) := by decide +kernel
theorem own_d17_6 : decode prog_82_method_10_code 6 = .ok (.ldc2_w 67, 3) := by decide +kernel
theorem own_d17_9 : decode prog_82_method_10_code 9 = .ok (.lmul, 1) := by decide +kernel
theorem own_d17_10 : decode prog_82_method_10_code 10 = .ok (.lstore_n 3, 1) := by decide +kernel
theorem own_d17_11 : decode prog_82_method_10_code 11 = .ok (.lload_n 3, 1) := by decide +kernel
theorem own_d17_12 : decode prog_82_method_10_code 12 = .ok (.lload_n 3, 1) := by decide +kernel
theorem own_d17_13 : decode prog_82_method_10_code 13 = .ok (.bipush 27, 2) := by decide +kernel
theorem own_d17_15 : decode prog_82_method_10_code 15 = .ok (.lushr, 1) := by decide +kernel
theorem own_d17_16 : decode prog_82_method_10_code 16 = .ok (.lxor, 1) := by decide +kernel
theorem own_d17_17 : decode prog_82_method_10_code 17 = .ok (.ldc2_w 69, 3) := by decide +kernel
theorem own_d17_20 : decode prog_82_method_10_code 20 = .ok (.lmul, 1) := by decide +kernel
theorem own_d17_21 : decode prog_82_method_10_code 21 = .ok (.lstore_n 3, 1) := by decide +kernel
theorem own_d17_22 : decode prog_82_method_10_code 22 = .ok (.lload_n 3, 1) := by decide +kernel
theorem own_d17_23 : decode prog_82_method_10_code 23 = .ok (.lload_n 3, 1) := by decide +kernel
theorem own_d17_24 : decode prog_82_method_10_code 24 = .ok (.bipush 31, 2) := by decide +kernel
theorem own_d17_26 : decode prog_82_method_10_code 26 = .ok (.lushr, 1) := by decide +kernel
theorem own_d17_27 : decode prog_82_method_10_code 27 = .ok (.lxor, 1) := by decide +kernel
theorem own_d17_28 : decode prog_82_method_10_code 28 = .ok (.l2i, 1) := by decide +kernel
theorem own_d17_29 : decode prog_82_method_10_code 29 = .ok (.iload_n 2, 1) := by decide +kernel
theorem own_d17_30 : decode prog_82_method_10_code 30 = .ok (.iand, 1) := by decide +kernel
theorem own_d17_31 : decode prog_82_method_10_code 31 = .ok (.ireturn, 1) := by decide +kernel
set_option maxRecDepth 65536 in
set_option maxHeartbeats 40000000 in
theorem rm17 (l : Launch) (Z : State) (a0 : Array Value) (hw : ∀ d ∈ tables_1, d.before a0 Z = true) (ws : List Jvm.Cond) (q0 : Int64) (h0 : Heap) (n0 : Nat) (O0 : Old Z n0 h0) :
    MetFree l (⟨"com/example/vows_to_moves/vowstomoves/model/LongNumbering", "firstSlot", "(JI)I"⟩ : MethodName) (head1 (Jvm.Cond.code (⟨"com/example/vows_to_moves/vowstomoves/model/LongNumbering", "firstSlot", "(JI)I"⟩ : MethodName) prog_82_method_10_code 5 (some .int) :: ws) ({ frames := 0, cells := 0, slots := 0, locals := 0 } : Room)) (fun a U => a = #[(.long q0), (.int (31 : Int32))] ∧ Z.Warmed39 U.vm ∧ U.heap = h0) (fun _ _ _ _ _ => True) (fun _ U o U' => ∃ v L, o = .returned v ∧ Q17 Z q0 h0 n0 v U'.heap L ∧ FrameEnd U o U' L ({ frames := 0, cells := 0, slots := 0, locals := 0 } : Room).cells ({ frames := 0, cells := 0, slots := 0, locals := 0 } : Room).slots) := by
  refine MetFree.of_bodySF (plainFor_of_name own_pn_com_example_vows_to_moves_vowstomoves_model_LongNumbering) hisR ?_
  intro p e s m args below meth c s₁ Bd hml0 hP hK
  obtain ⟨rfl, hZ, hh⟩ := hP
  have hx := Bd.exec
  have hby := Bd.bytes
  have hml : c.maxLocals = 5 := hml0
  have hown : s.vm.findClass "com/example/vows_to_moves/vowstomoves/model/LongNumbering" = some m.cls := findClass_of_methodNamed Bd.named
  have hnm := (name_of_methodNamed Bd.named Bd.method).1
  have X0 : Stand p l e ({ frames := 0, cells := 0, slots := 0, locals := 0 } : Room) s m #[(.long q0), (.int (31 : Int32))] below meth c s₁ [] 0 0 := Stand.of_body Bd
  have e0 : s₁.heap = h0 := by rw [← hh, Bd.state]; rfl
  have N0 := Fr.nil n0
  change Go p.tables e below _ _
  refine own_on (B := s₁.setTop (mkF m 0 #[.val (.long q0), sn, iv 31, un, un] [])) (fun tz kz => castTop (own_ef_17 m q0 (31 : Int32)) kz) ?_
  refine own_on (B := s₁.setTop (mkF m 31 #[.val (.long q0), sn, iv 31, .val (.long ((((q0 ^^^ ((q0.toUInt64 >>> ((30 : Int32) &&& 0x3f).toInt64.toUInt64).toInt64)) * (-4658895280553007687 : Int64)) ^^^ ((((q0 ^^^ ((q0.toUInt64 >>> ((30 : Int32) &&& 0x3f).toInt64.toUInt64).toInt64)) * (-4658895280553007687 : Int64)).toUInt64 >>> ((27 : Int32) &&& 0x3f).toInt64.toUInt64).toInt64)) * (-7723592293110705685 : Int64))), sn] [(.int (((((((q0 ^^^ ((q0.toUInt64 >>> ((30 : Int32) &&& 0x3f).toInt64.toUInt64).toInt64)) * (-4658895280553007687 : Int64)) ^^^ ((((q0 ^^^ ((q0.toUInt64 >>> ((30 : Int32) &&& 0x3f).toInt64.toUInt64).toInt64)) * (-4658895280553007687 : Int64)).toUInt64 >>> ((27 : Int32) &&& 0x3f).toInt64.toUInt64).toInt64)) * (-7723592293110705685 : Int64)) ^^^ ((((((q0 ^^^ ((q0.toUInt64 >>> ((30 : Int32) &&& 0x3f).toInt64.toUInt64).toInt64)) * (-4658895280553007687 : Int64)) ^^^ ((((q0 ^^^ ((q0.toUInt64 >>> ((30 : Int32) &&& 0x3f).toInt64.toUInt64).toInt64)) * (-4658895280553007687 : Int64)).toUInt64 >>> ((27 : Int32) &&& 0x3f).toInt64.toUInt64).toInt64)) * (-7723592293110705685 : Int64)).toUInt64 >>> ((31 : Int32) &&& 0x3f).toInt64.toUInt64).toInt64)).toInt32) &&& (31 : Int32)))])) (fun tz kz => ?_) ?_
  · show sT p e below s₁ (mkF m 0 #[.val (.long q0), sn, iv 31, un, un] []) tz
    refine XS.lloadN X0.here hx rfl (hb hby own_d17_0) rfl ?_
    show sT p e below s₁ (mkF m 1 #[.val (.long q0), sn, iv 31, un, un] [(.long q0)]) tz
    refine XS.lloadN X0.here hx rfl (hb hby own_d17_1) rfl ?_
    show sT p e below s₁ (mkF m 2 #[.val (.long q0), sn, iv 31, un, un] [(.long q0), (.long q0)]) tz
    refine XS.bipush X0.here hx rfl (hb hby own_d17_2) ?_
    show sT p e below s₁ (mkF m 4 #[.val (.long q0), sn, iv 31, un, un] [(.int 30), (.long q0), (.long q0)]) tz
    refine XS.lushr X0.here hx rfl (hb hby own_d17_4) rfl ?_
    show sT p e below s₁ (mkF m 5 #[.val (.long q0), sn, iv 31, un, un] [(.long ((q0.toUInt64 >>> ((30 : Int32) &&& 0x3f).toInt64.toUInt64).toInt64)), (.long q0)]) tz
    refine XS.lxor X0.here hx rfl (hb hby own_d17_5) rfl ?_
    show sT p e below s₁ (mkF m 6 #[.val (.long q0), sn, iv 31, un, un] [(.long (q0 ^^^ ((q0.toUInt64 >>> ((30 : Int32) &&& 0x3f).toInt64.toUInt64).toInt64)))]) tz
    refine X0.ldc2Long hx hown (mvT hZ (own_w hw 110 rfl)) (g := (mkF m 6 #[.val (.long q0), sn, iv 31, un, un] [(.long (q0 ^^^ ((q0.toUInt64 >>> ((30 : Int32) &&& 0x3f).toInt64.toUInt64).toInt64)))])) rfl (hb hby own_d17_6) _ ?_
    show sT p e below s₁ (mkF m 9 #[.val (.long q0), sn, iv 31, un, un] [(.long (-4658895280553007687 : Int64)), (.long (q0 ^^^ ((q0.toUInt64 >>> ((30 : Int32) &&& 0x3f).toInt64.toUInt64).toInt64)))]) tz
    refine XS.lmul X0.here hx rfl (hb hby own_d17_9) rfl ?_
    show sT p e below s₁ (mkF m 10 #[.val (.long q0), sn, iv 31, un, un] [(.long ((q0 ^^^ ((q0.toUInt64 >>> ((30 : Int32) &&& 0x3f).toInt64.toUInt64).toInt64)) * (-4658895280553007687 : Int64)))]) tz
    refine XS.lstoreN X0.here hx rfl (hb hby own_d17_10) rfl (l' := #[.val (.long q0), sn, iv 31, .val (.long ((q0 ^^^ ((q0.toUInt64 >>> ((30 : Int32) &&& 0x3f).toInt64.toUInt64).toInt64)) * (-4658895280553007687 : Int64))), sn]) rfl ?_
    show sT p e below s₁ (mkF m 11 #[.val (.long q0), sn, iv 31, .val (.long ((q0 ^^^ ((q0.toUInt64 >>> ((30 : Int32) &&& 0x3f).toInt64.toUInt64).toInt64)) * (-4658895280553007687 : Int64))), sn] []) tz
    refine XS.lloadN X0.here hx rfl (hb hby own_d17_11) rfl ?_
    show sT p e below s₁ (mkF m 12 #[.val (.long q0), sn, iv 31, .val (.long ((q0 ^^^ ((q0.toUInt64 >>> ((30 : Int32) &&& 0x3f).toInt64.toUInt64).toInt64)) * (-4658895280553007687 : Int64))), sn] [(.long ((q0 ^^^ ((q0.toUInt64 >>> ((30 : Int32) &&& 0x3f).toInt64.toUInt64).toInt64)) * (-4658895280553007687 : Int64)))]) tz
    refine XS.lloadN X0.here hx rfl (hb hby own_d17_12) rfl ?_
    show sT p e below s₁ (mkF m 13 #[.val (.long q0), sn, iv 31, .val (.long ((q0 ^^^ ((q0.toUInt64 >>> ((30 : Int32) &&& 0x3f).toInt64.toUInt64).toInt64)) * (-4658895280553007687 : Int64))), sn] [(.long ((q0 ^^^ ((q0.toUInt64 >>> ((30 : Int32) &&& 0x3f).toInt64.toUInt64).toInt64)) * (-4658895280553007687 : Int64))), (.long ((q0 ^^^ ((q0.toUInt64 >>> ((30 : Int32) &&& 0x3f).toInt64.toUInt64).toInt64)) * (-4658895280553007687 : Int64)))]) tz
    refine XS.bipush X0.here hx rfl (hb hby own_d17_13) ?_
    show sT p e below s₁ (mkF m 15 #[.val (.long q0), sn, iv 31, .val (.long ((q0 ^^^ ((q0.toUInt64 >>> ((30 : Int32) &&& 0x3f).toInt64.toUInt64).toInt64)) * (-4658895280553007687 : Int64))), sn] [(.int 27), (.long ((q0 ^^^ ((q0.toUInt64 >>> ((30 : Int32) &&& 0x3f).toInt64.toUInt64).toInt64)) * (-4658895280553007687 : Int64))), (.long ((q0 ^^^ ((q0.toUInt64 >>> ((30 : Int32) &&& 0x3f).toInt64.toUInt64).toInt64)) * (-4658895280553007687 : Int64)))]) tz
    refine XS.lushr X0.here hx rfl (hb hby own_d17_15) rfl ?_
    show sT p e below s₁ (mkF m 16 #[.val (.long q0), sn, iv 31, .val (.long ((q0 ^^^ ((q0.toUInt64 >>> ((30 : Int32) &&& 0x3f).toInt64.toUInt64).toInt64)) * (-4658895280553007687 : Int64))), sn] [(.long ((((q0 ^^^ ((q0.toUInt64 >>> ((30 : Int32) &&& 0x3f).toInt64.toUInt64).toInt64)) * (-4658895280553007687 : Int64)).toUInt64 >>> ((27 : Int32) &&& 0x3f).toInt64.toUInt64).toInt64)), (.long ((q0 ^^^ ((q0.toUInt64 >>> ((30 : Int32) &&& 0x3f).toInt64.toUInt64).toInt64)) * (-4658895280553007687 : Int64)))]) tz
    refine XS.lxor X0.here hx rfl (hb hby own_d17_16) rfl ?_
    show sT p e below s₁ (mkF m 17 #[.val (.long q0), sn, iv 31, .val (.long ((q0 ^^^ ((q0.toUInt64 >>> ((30 : Int32) &&& 0x3f).toInt64.toUInt64).toInt64)) * (-4658895280553007687 : Int64))), sn] [(.long (((q0 ^^^ ((q0.toUInt64 >>> ((30 : Int32) &&& 0x3f).toInt64.toUInt64).toInt64)) * (-4658895280553007687 : Int64)) ^^^ ((((q0 ^^^ ((q0.toUInt64 >>> ((30 : Int32) &&& 0x3f).toInt64.toUInt64).toInt64)) * (-4658895280553007687 : Int64)).toUInt64 >>> ((27 : Int32) &&& 0x3f).toInt64.toUInt64).toInt64)))]) tz
    refine X0.ldc2Long hx hown (mvT hZ (own_w hw 111 rfl)) (g := (mkF m 17 #[.val (.long q0), sn, iv 31, .val (.long ((q0 ^^^ ((q0.toUInt64 >>> ((30 : Int32) &&& 0x3f).toInt64.toUInt64).toInt64)) * (-4658895280553007687 : Int64))), sn] [(.long (((q0 ^^^ ((q0.toUInt64 >>> ((30 : Int32) &&& 0x3f).toInt64.toUInt64).toInt64)) * (-4658895280553007687 : Int64)) ^^^ ((((q0 ^^^ ((q0.toUInt64 >>> ((30 : Int32) &&& 0x3f).toInt64.toUInt64).toInt64)) * (-4658895280553007687 : Int64)).toUInt64 >>> ((27 : Int32) &&& 0x3f).toInt64.toUInt64).toInt64)))])) rfl (hb hby own_d17_17) _ ?_
    show sT p e below s₁ (mkF m 20 #[.val (.long q0), sn, iv 31, .val (.long ((q0 ^^^ ((q0.toUInt64 >>> ((30 : Int32) &&& 0x3f).toInt64.toUInt64).toInt64)) * (-4658895280553007687 : Int64))), sn] [(.long (-7723592293110705685 : Int64)), (.long (((q0 ^^^ ((q0.toUInt64 >>> ((30 : Int32) &&& 0x3f).toInt64.toUInt64).toInt64)) * (-4658895280553007687 : Int64)) ^^^ ((((q0 ^^^ ((q0.toUInt64 >>> ((30 : Int32) &&& 0x3f).toInt64.toUInt64).toInt64)) * (-4658895280553007687 : Int64)).toUInt64 >>> ((27 : Int32) &&& 0x3f).toInt64.toUInt64).toInt64)))]) tz
    refine XS.lmul X0.here hx rfl (hb hby own_d17_20) rfl ?_
    show sT p e below s₁ (mkF m 21 #[.val (.long q0), sn, iv 31, .val (.long ((q0 ^^^ ((q0.toUInt64 >>> ((30 : Int32) &&& 0x3f).toInt64.toUInt64).toInt64)) * (-4658895280553007687 : Int64))), sn] [(.long ((((q0 ^^^ ((q0.toUInt64 >>> ((30 : Int32) &&& 0x3f).toInt64.toUInt64).toInt64)) * (-4658895280553007687 : Int64)) ^^^ ((((q0 ^^^ ((q0.toUInt64 >>> ((30 : Int32) &&& 0x3f).toInt64.toUInt64).toInt64)) * (-4658895280553007687 : Int64)).toUInt64 >>> ((27 : Int32) &&& 0x3f).toInt64.toUInt64).toInt64)) * (-7723592293110705685 : Int64)))]) tz
    refine XS.lstoreN X0.here hx rfl (hb hby own_d17_21) rfl (l' := #[.val (.long q0), sn, iv 31, .val (.long ((((q0 ^^^ ((q0.toUInt64 >>> ((30 : Int32) &&& 0x3f).toInt64.toUInt64).toInt64)) * (-4658895280553007687 : Int64)) ^^^ ((((q0 ^^^ ((q0.toUInt64 >>> ((30 : Int32) &&& 0x3f).toInt64.toUInt64).toInt64)) * (-4658895280553007687 : Int64)).toUInt64 >>> ((27 : Int32) &&& 0x3f).toInt64.toUInt64).toInt64)) * (-7723592293110705685 : Int64))), sn]) rfl ?_
    show sT p e below s₁ (mkF m 22 #[.val (.long q0), sn, iv 31, .val (.long ((((q0 ^^^ ((q0.toUInt64 >>> ((30 : Int32) &&& 0x3f).toInt64.toUInt64).toInt64)) * (-4658895280553007687 : Int64)) ^^^ ((((q0 ^^^ ((q0.toUInt64 >>> ((30 : Int32) &&& 0x3f).toInt64.toUInt64).toInt64)) * (-4658895280553007687 : Int64)).toUInt64 >>> ((27 : Int32) &&& 0x3f).toInt64.toUInt64).toInt64)) * (-7723592293110705685 : Int64))), sn] []) tz
    refine XS.lloadN X0.here hx rfl (hb hby own_d17_22) rfl ?_
    show sT p e below s₁ (mkF m 23 #[.val (.long q0), sn, iv 31, .val (.long ((((q0 ^^^ ((q0.toUInt64 >>> ((30 : Int32) &&& 0x3f).toInt64.toUInt64).toInt64)) * (-4658895280553007687 : Int64)) ^^^ ((((q0 ^^^ ((q0.toUInt64 >>> ((30 : Int32) &&& 0x3f).toInt64.toUInt64).toInt64)) * (-4658895280553007687 : Int64)).toUInt64 >>> ((27 : Int32) &&& 0x3f).toInt64.toUInt64).toInt64)) * (-7723592293110705685 : Int64))), sn] [(.long ((((q0 ^^^ ((q0.toUInt64 >>> ((30 : Int32) &&& 0x3f).toInt64.toUInt64).toInt64)) * (-4658895280553007687 : Int64)) ^^^ ((((q0 ^^^ ((q0.toUInt64 >>> ((30 : Int32) &&& 0x3f).toInt64.toUInt64).toInt64)) * (-4658895280553007687 : Int64)).toUInt64 >>> ((27 : Int32) &&& 0x3f).toInt64.toUInt64).toInt64)) * (-7723592293110705685 : Int64)))]) tz
    refine XS.lloadN X0.here hx rfl (hb hby own_d17_23) rfl ?_
    show sT p e below s₁ (mkF m 24 #[.val (.long q0), sn, iv 31, .val (.long ((((q0 ^^^ ((q0.toUInt64 >>> ((30 : Int32) &&& 0x3f).toInt64.toUInt64).toInt64)) * (-4658895280553007687 : Int64)) ^^^ ((((q0 ^^^ ((q0.toUInt64 >>> ((30 : Int32) &&& 0x3f).toInt64.toUInt64).toInt64)) * (-4658895280553007687 : Int64)).toUInt64 >>> ((27 : Int32) &&& 0x3f).toInt64.toUInt64).toInt64)) * (-7723592293110705685 : Int64))), sn] [(.long ((((q0 ^^^ ((q0.toUInt64 >>> ((30 : Int32) &&& 0x3f).toInt64.toUInt64).toInt64)) * (-4658895280553007687 : Int64)) ^^^ ((((q0 ^^^ ((q0.toUInt64 >>> ((30 : Int32) &&& 0x3f).toInt64.toUInt64).toInt64)) * (-4658895280553007687 : Int64)).toUInt64 >>> ((27 : Int32) &&& 0x3f).toInt64.toUInt64).toInt64)) * (-7723592293110705685 : Int64))), (.long ((((q0 ^^^ ((q0.toUInt64 >>> ((30 : Int32) &&& 0x3f).toInt64.toUInt64).toInt64)) * (-4658895280553007687 : Int64)) ^^^ ((((q0 ^^^ ((q0.toUInt64 >>> ((30 : Int32) &&& 0x3f).toInt64.toUInt64).toInt64)) * (-4658895280553007687 : Int64)).toUInt64 >>> ((27 : Int32) &&& 0x3f).toInt64.toUInt64).toInt64)) * (-7723592293110705685 : Int64)))]) tz
    refine XS.bipush X0.here hx rfl (hb hby own_d17_24) ?_
    show sT p e below s₁ (mkF m 26 #[.val (.long q0), sn, iv 31, .val (.long ((((q0 ^^^ ((q0.toUInt64 >>> ((30 : Int32) &&& 0x3f).toInt64.toUInt64).toInt64)) * (-4658895280553007687 : Int64)) ^^^ ((((q0 ^^^ ((q0.toUInt64 >>> ((30 : Int32) &&& 0x3f).toInt64.toUInt64).toInt64)) * (-4658895280553007687 : Int64)).toUInt64 >>> ((27 : Int32) &&& 0x3f).toInt64.toUInt64).toInt64)) * (-7723592293110705685 : Int64))), sn] [(.int 31), (.long ((((q0 ^^^ ((q0.toUInt64 >>> ((30 : Int32) &&& 0x3f).toInt64.toUInt64).toInt64)) * (-4658895280553007687 : Int64)) ^^^ ((((q0 ^^^ ((q0.toUInt64 >>> ((30 : Int32) &&& 0x3f).toInt64.toUInt64).toInt64)) * (-4658895280553007687 : Int64)).toUInt64 >>> ((27 : Int32) &&& 0x3f).toInt64.toUInt64).toInt64)) * (-7723592293110705685 : Int64))), (.long ((((q0 ^^^ ((q0.toUInt64 >>> ((30 : Int32) &&& 0x3f).toInt64.toUInt64).toInt64)) * (-4658895280553007687 : Int64)) ^^^ ((((q0 ^^^ ((q0.toUInt64 >>> ((30 : Int32) &&& 0x3f).toInt64.toUInt64).toInt64)) * (-4658895280553007687 : Int64)).toUInt64 >>> ((27 : Int32) &&& 0x3f).toInt64.toUInt64).toInt64)) * (-7723592293110705685 : Int64)))]) tz
    refine XS.lushr X0.here hx rfl (hb hby own_d17_26) rfl ?_
    show sT p e below s₁ (mkF m 27 #[.val (.long q0), sn, iv 31, .val (.long ((((q0 ^^^ ((q0.toUInt64 >>> ((30 : Int32) &&& 0x3f).toInt64.toUInt64).toInt64)) * (-4658895280553007687 : Int64)) ^^^ ((((q0 ^^^ ((q0.toUInt64 >>> ((30 : Int32) &&& 0x3f).toInt64.toUInt64).toInt64)) * (-4658895280553007687 : Int64)).toUInt64 >>> ((27 : Int32) &&& 0x3f).toInt64.toUInt64).toInt64)) * (-7723592293110705685 : Int64))), sn] [(.long ((((((q0 ^^^ ((q0.toUInt64 >>> ((30 : Int32) &&& 0x3f).toInt64.toUInt64).toInt64)) * (-4658895280553007687 : Int64)) ^^^ ((((q0 ^^^ ((q0.toUInt64 >>> ((30 : Int32) &&& 0x3f).toInt64.toUInt64).toInt64)) * (-4658895280553007687 : Int64)).toUInt64 >>> ((27 : Int32) &&& 0x3f).toInt64.toUInt64).toInt64)) * (-7723592293110705685 : Int64)).toUInt64 >>> ((31 : Int32) &&& 0x3f).toInt64.toUInt64).toInt64)), (.long ((((q0 ^^^ ((q0.toUInt64 >>> ((30 : Int32) &&& 0x3f).toInt64.toUInt64).toInt64)) * (-4658895280553007687 : Int64)) ^^^ ((((q0 ^^^ ((q0.toUInt64 >>> ((30 : Int32) &&& 0x3f).toInt64.toUInt64).toInt64)) * (-4658895280553007687 : Int64)).toUInt64 >>> ((27 : Int32) &&& 0x3f).toInt64.toUInt64).toInt64)) * (-7723592293110705685 : Int64)))]) tz
    refine XS.lxor X0.here hx rfl (hb hby own_d17_27) rfl ?_
    show sT p e below s₁ (mkF m 28 #[.val (.long q0), sn, iv 31, .val (.long ((((q0 ^^^ ((q0.toUInt64 >>> ((30 : Int32) &&& 0x3f).toInt64.toUInt64).toInt64)) * (-4658895280553007687 : Int64)) ^^^ ((((q0 ^^^ ((q0.toUInt64 >>> ((30 : Int32) &&& 0x3f).toInt64.toUInt64).toInt64)) * (-4658895280553007687 : Int64)).toUInt64 >>> ((27 : Int32) &&& 0x3f).toInt64.toUInt64).toInt64)) * (-7723592293110705685 : Int64))), sn] [(.long (((((q0 ^^^ ((q0.toUInt64 >>> ((30 : Int32) &&& 0x3f).toInt64.toUInt64).toInt64)) * (-4658895280553007687 : Int64)) ^^^ ((((q0 ^^^ ((q0.toUInt64 >>> ((30 : Int32) &&& 0x3f).toInt64.toUInt64).toInt64)) * (-4658895280553007687 : Int64)).toUInt64 >>> ((27 : Int32) &&& 0x3f).toInt64.toUInt64).toInt64)) * (-7723592293110705685 : Int64)) ^^^ ((((((q0 ^^^ ((q0.toUInt64 >>> ((30 : Int32) &&& 0x3f).toInt64.toUInt64).toInt64)) * (-4658895280553007687 : Int64)) ^^^ ((((q0 ^^^ ((q0.toUInt64 >>> ((30 : Int32) &&& 0x3f).toInt64.toUInt64).toInt64)) * (-4658895280553007687 : Int64)).toUInt64 >>> ((27 : Int32) &&& 0x3f).toInt64.toUInt64).toInt64)) * (-7723592293110705685 : Int64)).toUInt64 >>> ((31 : Int32) &&& 0x3f).toInt64.toUInt64).toInt64)))]) tz
    refine XS.l2i X0.here hx rfl (hb hby own_d17_28) rfl ?_
    show sT p e below s₁ (mkF m 29 #[.val (.long q0), sn, iv 31, .val (.long ((((q0 ^^^ ((q0.toUInt64 >>> ((30 : Int32) &&& 0x3f).toInt64.toUInt64).toInt64)) * (-4658895280553007687 : Int64)) ^^^ ((((q0 ^^^ ((q0.toUInt64 >>> ((30 : Int32) &&& 0x3f).toInt64.toUInt64).toInt64)) * (-4658895280553007687 : Int64)).toUInt64 >>> ((27 : Int32) &&& 0x3f).toInt64.toUInt64).toInt64)) * (-7723592293110705685 : Int64))), sn] [(.int ((((((q0 ^^^ ((q0.toUInt64 >>> ((30 : Int32) &&& 0x3f).toInt64.toUInt64).toInt64)) * (-4658895280553007687 : Int64)) ^^^ ((((q0 ^^^ ((q0.toUInt64 >>> ((30 : Int32) &&& 0x3f).toInt64.toUInt64).toInt64)) * (-4658895280553007687 : Int64)).toUInt64 >>> ((27 : Int32) &&& 0x3f).toInt64.toUInt64).toInt64)) * (-7723592293110705685 : Int64)) ^^^ ((((((q0 ^^^ ((q0.toUInt64 >>> ((30 : Int32) &&& 0x3f).toInt64.toUInt64).toInt64)) * (-4658895280553007687 : Int64)) ^^^ ((((q0 ^^^ ((q0.toUInt64 >>> ((30 : Int32) &&& 0x3f).toInt64.toUInt64).toInt64)) * (-4658895280553007687 : Int64)).toUInt64 >>> ((27 : Int32) &&& 0x3f).toInt64.toUInt64).toInt64)) * (-7723592293110705685 : Int64)).toUInt64 >>> ((31 : Int32) &&& 0x3f).toInt64.toUInt64).toInt64)).toInt32))]) tz
    refine XS.iloadN X0.here hx rfl (hb hby own_d17_29) rfl ?_
    show sT p e below s₁ (mkF m 30 #[.val (.long q0), sn, iv 31, .val (.long ((((q0 ^^^ ((q0.toUInt64 >>> ((30 : Int32) &&& 0x3f).toInt64.toUInt64).toInt64)) * (-4658895280553007687 : Int64)) ^^^ ((((q0 ^^^ ((q0.toUInt64 >>> ((30 : Int32) &&& 0x3f).toInt64.toUInt64).toInt64)) * (-4658895280553007687 : Int64)).toUInt64 >>> ((27 : Int32) &&& 0x3f).toInt64.toUInt64).toInt64)) * (-7723592293110705685 : Int64))), sn] [(.int 31), (.int ((((((q0 ^^^ ((q0.toUInt64 >>> ((30 : Int32) &&& 0x3f).toInt64.toUInt64).toInt64)) * (-4658895280553007687 : Int64)) ^^^ ((((q0 ^^^ ((q0.toUInt64 >>> ((30 : Int32) &&& 0x3f).toInt64.toUInt64).toInt64)) * (-4658895280553007687 : Int64)).toUInt64 >>> ((27 : Int32) &&& 0x3f).toInt64.toUInt64).toInt64)) * (-7723592293110705685 : Int64)) ^^^ ((((((q0 ^^^ ((q0.toUInt64 >>> ((30 : Int32) &&& 0x3f).toInt64.toUInt64).toInt64)) * (-4658895280553007687 : Int64)) ^^^ ((((q0 ^^^ ((q0.toUInt64 >>> ((30 : Int32) &&& 0x3f).toInt64.toUInt64).toInt64)) * (-4658895280553007687 : Int64)).toUInt64 >>> ((27 : Int32) &&& 0x3f).toInt64.toUInt64).toInt64)) * (-7723592293110705685 : Int64)).toUInt64 >>> ((31 : Int32) &&& 0x3f).toInt64.toUInt64).toInt64)).toInt32))]) tz
    refine XS.iand X0.here hx rfl (hb hby own_d17_30) rfl ?_
    exact kz
  obtain ⟨fs, hr, hrun, hended, hW, hsame⟩ := X0.leave (v := some (.int (((((((q0 ^^^ ((q0.toUInt64 >>> ((30 : Int32) &&& 0x3f).toInt64.toUInt64).toInt64)) * (-4658895280553007687 : Int64)) ^^^ ((((q0 ^^^ ((q0.toUInt64 >>> ((30 : Int32) &&& 0x3f).toInt64.toUInt64).toInt64)) * (-4658895280553007687 : Int64)).toUInt64 >>> ((27 : Int32) &&& 0x3f).toInt64.toUInt64).toInt64)) * (-7723592293110705685 : Int64)) ^^^ ((((((q0 ^^^ ((q0.toUInt64 >>> ((30 : Int32) &&& 0x3f).toInt64.toUInt64).toInt64)) * (-4658895280553007687 : Int64)) ^^^ ((((q0 ^^^ ((q0.toUInt64 >>> ((30 : Int32) &&& 0x3f).toInt64.toUInt64).toInt64)) * (-4658895280553007687 : Int64)).toUInt64 >>> ((27 : Int32) &&& 0x3f).toInt64.toUInt64).toInt64)) * (-7723592293110705685 : Int64)).toUInt64 >>> ((31 : Int32) &&& 0x3f).toInt64.toUInt64).toInt64)).toInt32) &&& (31 : Int32)))) (fun h => by rw [Bd.returns] at h; cases h)
  refine own_of ⟨_, _, ?_, hrun, hended, _, _, rfl, ?_, ⟨_, rfl⟩, hW, hsame.mono (by decide) (by decide)⟩
  · show sT p e below s₁ (mkF m 31 #[.val (.long q0), sn, iv 31, .val (.long ((((q0 ^^^ ((q0.toUInt64 >>> ((30 : Int32) &&& 0x3f).toInt64.toUInt64).toInt64)) * (-4658895280553007687 : Int64)) ^^^ ((((q0 ^^^ ((q0.toUInt64 >>> ((30 : Int32) &&& 0x3f).toInt64.toUInt64).toInt64)) * (-4658895280553007687 : Int64)).toUInt64 >>> ((27 : Int32) &&& 0x3f).toInt64.toUInt64).toInt64)) * (-7723592293110705685 : Int64))), sn] [(.int (((((((q0 ^^^ ((q0.toUInt64 >>> ((30 : Int32) &&& 0x3f).toInt64.toUInt64).toInt64)) * (-4658895280553007687 : Int64)) ^^^ ((((q0 ^^^ ((q0.toUInt64 >>> ((30 : Int32) &&& 0x3f).toInt64.toUInt64).toInt64)) * (-4658895280553007687 : Int64)).toUInt64 >>> ((27 : Int32) &&& 0x3f).toInt64.toUInt64).toInt64)) * (-7723592293110705685 : Int64)) ^^^ ((((((q0 ^^^ ((q0.toUInt64 >>> ((30 : Int32) &&& 0x3f).toInt64.toUInt64).toInt64)) * (-4658895280553007687 : Int64)) ^^^ ((((q0 ^^^ ((q0.toUInt64 >>> ((30 : Int32) &&& 0x3f).toInt64.toUInt64).toInt64)) * (-4658895280553007687 : Int64)).toUInt64 >>> ((27 : Int32) &&& 0x3f).toInt64.toUInt64).toInt64)) * (-7723592293110705685 : Int64)).toUInt64 >>> ((31 : Int32) &&& 0x3f).toInt64.toUInt64).toInt64)).toInt32) &&& (31 : Int32)))]) _
    exact own_retI X0 hx Bd.returns (hb hby own_d17_31) hr
  · show Q17 Z q0 h0 n0 _ s₁.heap _
    rw [e0]
    exact ⟨_, rfl, (own_m31 _).1, (own_m31 _).2, N0, rfl⟩
theorem own_ef_16z (m : MethodId) (x0 : Addr) (x1 : Int64) : entryFrame m #[(.ref x0), (.long x1)] 6 = mkF m 0 #[rv x0, .val (.long x1), .second, .unset, .unset, .unset] [] := by first | (simp [entryFrame, mkF, argsToLocals, Value.category]; done) | rfl
def Q16z (Z : State) (u0 : Addr) (q1 : Int64) (sa : Addr) (ks : ClassId) (vs : List Value) (S : List Nat) (h0 : Heap) (n0 : Nat) (v : Option Value) (h : Heap) (L : List Loc) : Prop := ∃ j : Int32, v = some (.int j) ∧ ¬ j < 0 ∧ j < 32 ∧ vs.getD j.toNatClampNeg (.int 0) = .int (-1 : Int32) ∧ Fr n0 L ∧ h = h0
theorem own_d16_0 : decode prog_82_method_9_code 0 = .ok (.aload_n 0, 1) := by decide +kernel
theorem own_d16_1 : decode prog_82_method_9_code 1 = .ok (.getfield 32, 3) := by decide +kernel
theorem own_d16_4 : decode prog_82_method_9_code 4 = .ok (.arraylength, 1) := by decide +kernel
theorem own_d16_5 : decode prog_82_method_9_code 5 = .ok (.iconst 1, 1) := by decide +kernel
theorem own_d16_6 : decode prog_82_method_9_code 6 = .ok (.isub, 1) := by decide +kernel
theorem own_d16_7 : decode prog_82_method_9_code 7 = .ok (.istore_n 3, 1) := by decide +kernel
theorem own_d16_8 : decode prog_82_method_9_code 8 = .ok (.lload_n 1, 1) := by decide +kernel
theorem own_d16_9 : decode prog_82_method_9_code 9 = .ok (.iload_n 3, 1) := by decide +kernel
theorem own_pd7 : parseMethodDescriptor "(JI)I" = some ⟨[.long, .int], some .int⟩ := by decide +kernel
theorem own_d16_10 : decode prog_82_method_9_code 10 = .ok (.invokestatic 63, 3) := by decide +kernel
theorem own_d16_13 : decode prog_82_method_9_code 13 = .ok (.istore 4, 2) := by decide +kernel
theorem own_d16_15 : decode prog_82_method_9_code 15 = .ok (.aload_n 0, 1) := by decide +kernel
theorem own_d16_16 : decode prog_82_method_9_code 16 = .ok (.getfield 32, 3) := by decide +kernel
theorem own_d16_19 : decode prog_82_method_9_code 19 = .ok (.iload 4, 2) := by decide +kernel
theorem own_d16_21 : decode prog_82_method_9_code 21 = .ok (.iaload, 1) := by decide +kernel
theorem own_d16_22 : decode prog_82_method_9_code 22 = .ok (.istore 5, 2) := by decide +kernel
theorem own_d16_24 : decode prog_82_method_9_code 24 = .ok (.iload 5, 2) := by decide +kernel
theorem own_d16_26 : decode prog_82_method_9_code 26 = .ok (.iconst (-1), 1) := by decide +kernel
theorem own_d16_27 : decode prog_82_method_9_code 27 = .ok (.if_icmp .eq 17, 3) := by decide +kernel
theorem own_d16_44 : decode prog_82_method_9_code 44 = .ok (.iload 4, 2) := by decide +kernel
theorem own_d16_46 : decode prog_82_method_9_code 46 = .ok (.ireturn, 1) := by decide +kernel
set_option maxRecDepth 65536 in
set_option maxHeartbeats 40000000 in
theorem rm16z (l : Launch) (Z : State) (a0 : Array Value) (hw : ∀ d ∈ tables_1, d.before a0 Z = true) (ws : List Jvm.Cond) (u0 : Addr) (q1 : Int64) (sa : Addr) (ks : ClassId) (vs : List Value) (S : List Nat) (h0 : Heap) (n0 : Nat) (O0 : Old Z n0 h0) (E_u0 : Exa Z h0 u0 "com/example/vows_to_moves/vowstomoves/model/LongNumbering") (Fsl : Fld Z h0 u0 "com/example/vows_to_moves/vowstomoves/model/LongNumbering" "slots" "[I" (.ref sa)) (Vs : Arv Z h0 sa ks .int (32 : Int32) vs (.int 0)) (hT : OwnTab vs 0 S) :
    MetFree l (⟨"com/example/vows_to_moves/vowstomoves/model/LongNumbering", "slotOf", "(J)I"⟩ : MethodName) (head1 (Jvm.Cond.code (⟨"com/example/vows_to_moves/vowstomoves/model/LongNumbering", "slotOf", "(J)I"⟩ : MethodName) prog_82_method_9_code 6 (some .int) :: ws) ({ frames := 1, cells := 0, slots := 0, locals := 16 } : Room)) (fun a U => a = #[(.ref u0), (.long q1)] ∧ Z.Warmed39 U.vm ∧ U.heap = h0) (fun _ _ _ _ _ => True) (fun _ U o U' => ∃ v L, o = .returned v ∧ Q16z Z u0 q1 sa ks vs S h0 n0 v U'.heap L ∧ FrameEnd U o U' L ({ frames := 1, cells := 0, slots := 0, locals := 16 } : Room).cells ({ frames := 1, cells := 0, slots := 0, locals := 16 } : Room).slots) := by
  refine MetFree.of_bodySF (plainFor_of_name own_pn_com_example_vows_to_moves_vowstomoves_model_LongNumbering) hisR ?_
  intro p e s m args below meth c s₁ Bd hml0 hP hK
  obtain ⟨rfl, hZ, hh⟩ := hP
  have hx := Bd.exec
  have hby := Bd.bytes
  have hml : c.maxLocals = 6 := hml0
  have hown : s.vm.findClass "com/example/vows_to_moves/vowstomoves/model/LongNumbering" = some m.cls := findClass_of_methodNamed Bd.named
  have hnm := (name_of_methodNamed Bd.named Bd.method).1
  have X0 : Stand p l e ({ frames := 1, cells := 0, slots := 0, locals := 16 } : Room) s m #[(.ref u0), (.long q1)] below meth c s₁ [] 0 0 := Stand.of_body Bd
  have e0 : s₁.heap = h0 := by rw [← hh, Bd.state]; rfl
  have N0 := Fr.nil n0
  change Go p.tables e below _ _
  refine own_on (B := s₁.setTop (mkF m 0 #[rv u0, .val (.long q1), sn, un, un, un] [])) (fun tz kz => castTop (own_ef_16z m u0 q1) kz) ?_
  refine own_on (B := s₁.setTop (mkF m 1 #[rv u0, .val (.long q1), sn, un, un, un] [(.ref u0)])) (fun tz kz => ?_) ?_
  · show sT p e below s₁ (mkF m 0 #[rv u0, .val (.long q1), sn, un, un, un] []) tz
    refine XS.aloadN X0.here hx rfl (hb hby own_d16_0) rfl rfl ?_
    exact kz
  obtain ⟨T21, X21, e21, st21⟩ := getF X0 hx hZ hown (host := "") (Or.inl (own_w hw 50 rfl)) Via.refl e0 Fsl (g := (mkF m 1 #[rv u0, .val (.long q1), sn, un, un, un] [(.ref u0)])) rfl rfl (hb hby own_d16_1)
  refine own_on (B := T21.setTop (mkF m 4 #[rv u0, .val (.long q1), sn, un, un, un] [(.ref sa)])) (fun tz kz => st21 _ kz) ?_
  obtain ⟨cl22, Ar22, q22, S22, M22, H22, G22⟩ := id Vs
  refine own_on (B := T21.setTop (mkF m 10 #[rv u0, .val (.long q1), sn, iv 31, un, un] [(.int 31), (.long q1)])) (fun tz kz => ?_) ?_
  · show sT p e below T21 (mkF m 4 #[rv u0, .val (.long q1), sn, un, un, un] [(.ref sa)]) tz
    refine X21.arraylength hx (by rw [e21]; exact Ar22.1) (State.isArrayOf_alike hZ.alike Ar22.2.1) (g := (mkF m 4 #[rv u0, .val (.long q1), sn, un, un, un] [(.ref sa)])) rfl rfl (hb hby own_d16_4) _ ?_
    rw [len_of S22 M22]
    show sT p e below T21 (mkF m 5 #[rv u0, .val (.long q1), sn, un, un, un] [(.int 32)]) tz
    refine XS.iconst X21.here hx rfl (hb hby own_d16_5) ?_
    show sT p e below T21 (mkF m 6 #[rv u0, .val (.long q1), sn, un, un, un] [(.int 1), (.int 32)]) tz
    refine XS.isub X21.here hx rfl (hb hby own_d16_6) rfl ?_
    show sT p e below T21 (mkF m 7 #[rv u0, .val (.long q1), sn, un, un, un] [(.int 31)]) tz
    refine XS.istoreN X21.here hx rfl (hb hby own_d16_7) rfl (l' := #[rv u0, .val (.long q1), sn, iv 31, un, un]) rfl ?_
    show sT p e below T21 (mkF m 8 #[rv u0, .val (.long q1), sn, iv 31, un, un] []) tz
    refine XS.lloadN X21.here hx rfl (hb hby own_d16_8) rfl ?_
    show sT p e below T21 (mkF m 9 #[rv u0, .val (.long q1), sn, iv 31, un, un] [(.long q1)]) tz
    refine XS.iloadN X21.here hx rfl (hb hby own_d16_9) rfl ?_
    exact kz
  obtain ⟨_, _, ⟨T23, L23, k23, n23⟩, -, X23, ⟨Lc23, hQ23, l23, y23, z23⟩, st23⟩ := Jvm.LawKit.callS X21 hx (y := (⟨"com/example/vows_to_moves/vowstomoves/model/LongNumbering", "firstSlot", "(JI)I"⟩ : MethodName)) hown (mvT hZ (own_w hw 107 rfl)) (mvT hZ (own_w hw 108 rfl)) (mvT hZ (own_w hw 11 rfl)) (mvT hZ (own_w hw 109 rfl)) (by decide) (backOf (W := 0) (rm17 l Z a0 hw [] q1  h0 n0 O0 ) hZ (own_w hw 109 rfl) (own_w hw 11 rfl) (by decide) (by decide)) (g := (mkF m 10 #[rv u0, .val (.long q1), sn, iv 31, un, un] [(.int 31), (.long q1)])) rfl (by rw [hml]; rfl) (argsL := [(.long q1), (.int (31 : Int32))]) (rest := []) (lenOf own_pd7 rfl) rfl (by show 2 * 0 + _ ≤ _; exact Nat.le_of_eq rfl) (hb hby own_d16_10) (fun _ _ => ⟨rfl, e21, (by decide : 0 + 0 ≤ _), (by decide : 0 + 0 ≤ _)⟩)
  dsimp only [Pt.U, Pt.locs, Pt.cells, Pt.slots] at X23 l23 y23 z23 st23 hQ23
  subst l23 y23 z23
  obtain ⟨j0, rfl, lo0, hi0, Nq23, eq23⟩ := hQ23
  have N23 := Fr.app N0 Nq23
  refine own_on (B := T23.setTop (mkF m 13 #[rv u0, .val (.long q1), sn, iv 31, un, un] [(.int j0)])) (fun tz kz => st23 _ kz) ?_
  refine own_on (B := T23.setTop (mkF m 16 #[rv u0, .val (.long q1), sn, iv 31, iv j0, un] [(.ref u0)])) (fun tz kz => ?_) ?_
  · show sT p e below T23 (mkF m 13 #[rv u0, .val (.long q1), sn, iv 31, un, un] [(.int j0)]) tz
    refine XS.istore X23.here hx rfl (hb hby own_d16_13) rfl (l' := #[rv u0, .val (.long q1), sn, iv 31, iv j0, un]) rfl ?_
    show sT p e below T23 (mkF m 15 #[rv u0, .val (.long q1), sn, iv 31, iv j0, un] []) tz
    refine XS.aloadN X23.here hx rfl (hb hby own_d16_15) rfl rfl ?_
    exact kz
  obtain ⟨T24, X24, e24, st24⟩ := getF X23 hx hZ hown (host := "") (Or.inl (own_w hw 50 rfl)) Via.refl eq23 Fsl (g := (mkF m 16 #[rv u0, .val (.long q1), sn, iv 31, iv j0, un] [(.ref u0)])) rfl rfl (hb hby own_d16_16)
  refine own_on (B := T24.setTop (mkF m 19 #[rv u0, .val (.long q1), sn, iv 31, iv j0, un] [(.ref sa)])) (fun tz kz => st24 _ kz) ?_
  refine own_on (B := T24.setTop (mkF m 21 #[rv u0, .val (.long q1), sn, iv 31, iv j0, un] [(.int j0), (.ref sa)])) (fun tz kz => ?_) ?_
  · show sT p e below T24 (mkF m 19 #[rv u0, .val (.long q1), sn, iv 31, iv j0, un] [(.ref sa)]) tz
    refine XS.iload X24.here hx rfl (hb hby own_d16_19) rfl ?_
    exact kz
  have hA : vs.getD j0.toNatClampNeg (.int 0) = .int (-1 : Int32) := (hT.2 _ (own_lt32 lo0 hi0)).elim id (fun ⟨i, hi, _⟩ => absurd hi (Nat.not_lt_zero i))
  obtain ⟨cl25, Ar25, q25, S25, M25, H25, G25⟩ := id Vs
  have hin26 : ¬ (j0 < 0 ∨ cl25.slots.size ≤ (j0).toNatClampNeg) := inb_of S25 ⟨lo0, hi0⟩
  have hat26 : cl25.slots[(j0).toNatClampNeg]? = some (.int (-1 : Int32)) := Has.at H25 hin26 hA
  refine own_on (B := T24.setTop (mkF m 46 #[rv u0, .val (.long q1), sn, iv 31, iv j0, iv (-1 : Int32)] [(.int j0)])) (fun tz kz => ?_) ?_
  · show sT p e below T24 (mkF m 21 #[rv u0, .val (.long q1), sn, iv 31, iv j0, un] [(.int j0), (.ref sa)]) tz
    refine X24.iaload hx (j := j0) (v := (.int (-1 : Int32))) (by rw [e24]; exact Ar25.1) (State.isArrayOf_alike hZ.alike Ar25.2.1) Ar25.2.2 hin26 hat26 (g := (mkF m 21 #[rv u0, .val (.long q1), sn, iv 31, iv j0, un] [(.int j0), (.ref sa)])) rfl rfl (hb hby own_d16_21) _ ?_
    show sT p e below T24 (mkF m 22 #[rv u0, .val (.long q1), sn, iv 31, iv j0, un] [(.int (-1 : Int32))]) tz
    refine XS.istore X24.here hx rfl (hb hby own_d16_22) rfl (l' := #[rv u0, .val (.long q1), sn, iv 31, iv j0, iv (-1 : Int32)]) rfl ?_
    show sT p e below T24 (mkF m 24 #[rv u0, .val (.long q1), sn, iv 31, iv j0, iv (-1 : Int32)] []) tz
    refine XS.iload X24.here hx rfl (hb hby own_d16_24) rfl ?_
    show sT p e below T24 (mkF m 26 #[rv u0, .val (.long q1), sn, iv 31, iv j0, iv (-1 : Int32)] [(.int (-1 : Int32))]) tz
    refine XS.iconst X24.here hx rfl (hb hby own_d16_26) ?_
    show sT p e below T24 (mkF m 27 #[rv u0, .val (.long q1), sn, iv 31, iv j0, iv (-1 : Int32)] [(.int (-1 : Int32)), (.int (-1 : Int32))]) tz
    refine XS.icmpYes X24.here hx rfl (pc0 := 27) (pc' := 44) rfl (hb hby own_d16_27) rfl (teq rfl).1 (by decide) (by decide) ?_
    show sT p e below T24 (mkF m 44 #[rv u0, .val (.long q1), sn, iv 31, iv j0, iv (-1 : Int32)] []) tz
    refine XS.iload X24.here hx rfl (hb hby own_d16_44) rfl ?_
    exact kz
  obtain ⟨fs, hr, hrun, hended, hW, hsame⟩ := X24.leave (v := some (.int j0)) (fun h => by rw [Bd.returns] at h; cases h)
  refine own_of ⟨_, _, ?_, hrun, hended, _, _, rfl, ?_, ⟨_, rfl⟩, hW, hsame.mono (by decide) (by decide)⟩
  · show sT p e below T24 (mkF m 46 #[rv u0, .val (.long q1), sn, iv 31, iv j0, iv (-1 : Int32)] [(.int j0)]) _
    exact own_retI X24 hx Bd.returns (hb hby own_d16_46) hr
  · show Q16z Z u0 q1 sa ks vs S h0 n0 _ T24.heap _
    rw [e24]
    exact ⟨j0, rfl, lo0, hi0, hA, N23, rfl⟩
theorem own_ef_16a (m : MethodId) (x0 : Addr) (x1 : Int64) : entryFrame m #[(.ref x0), (.long x1)] 6 = mkF m 0 #[rv x0, .val (.long x1), .second, .unset, .unset, .unset] [] := by first | (simp [entryFrame, mkF, argsToLocals, Value.category]; done) | rfl
def Q16a (Z : State) (u0 : Addr) (q1 : Int64) (sa : Addr) (ks : ClassId) (vs : List Value) (S : List Nat) (lc : Addr) (ja : Addr) (jc : Addr) (kj : ClassId) (kl : ClassId) (v0 : UInt64) (v1 : UInt64) (v2 : UInt64) (v3 : UInt64) (mm : Nat) (h0 : Heap) (n0 : Nat) (v : Option Value) (h : Heap) (L : List Loc) : Prop := ∃ j : Int32, v = some (.int j) ∧ ¬ j < 0 ∧ j < 32 ∧ (vs.getD j.toNatClampNeg (.int 0) = .int (-1 : Int32) ∨ ∃ i, i < mm ∧ vs.getD j.toNatClampNeg (.int 0) = .int i.toInt32 ∧ ([v0, v1, v2, v3].getD i 0).toInt64 = q1) ∧ Fr n0 L ∧ h = h0
theorem own_d16_30 : decode prog_82_method_9_code 30 = .ok (.aload_n 0, 1) := by decide +kernel
theorem own_d16_31 : decode prog_82_method_9_code 31 = .ok (.getfield 12, 3) := by decide +kernel
theorem own_d16_34 : decode prog_82_method_9_code 34 = .ok (.iload 5, 2) := by decide +kernel
theorem own_pd8 : parseMethodDescriptor "(I)J" = some ⟨[.int], some .long⟩ := by decide +kernel
theorem own_d16_36 : decode prog_82_method_9_code 36 = .ok (.invokevirtual 48, 3) := by decide +kernel
theorem own_d16_39 : decode prog_82_method_9_code 39 = .ok (.lload_n 1, 1) := by decide +kernel
theorem own_d16_40 : decode prog_82_method_9_code 40 = .ok (.lcmp, 1) := by decide +kernel
theorem own_d16_41 : decode prog_82_method_9_code 41 = .ok (.ifCond .ne 6, 3) := by decide +kernel
theorem own_d16_47 : decode prog_82_method_9_code 47 = .ok (.iload 4, 2) := by decide +kernel
theorem own_d16_49 : decode prog_82_method_9_code 49 = .ok (.iconst 1, 1) := by decide +kernel
theorem own_d16_50 : decode prog_82_method_9_code 50 = .ok (.iadd, 1) := by decide +kernel
theorem own_d16_51 : decode prog_82_method_9_code 51 = .ok (.iload_n 3, 1) := by decide +kernel
theorem own_d16_52 : decode prog_82_method_9_code 52 = .ok (.iand, 1) := by decide +kernel
theorem own_d16_53 : decode prog_82_method_9_code 53 = .ok (.istore 4, 2) := by decide +kernel
theorem own_d16_55 : decode prog_82_method_9_code 55 = .ok (.goto (-40), 3) := by decide +kernel
set_option maxRecDepth 65536 in
set_option maxHeartbeats 40000000 in
theorem rm16a (l : Launch) (Z : State) (a0 : Array Value) (hw : ∀ d ∈ tables_1, d.before a0 Z = true) (ws : List Jvm.Cond) (u0 : Addr) (q1 : Int64) (sa : Addr) (ks : ClassId) (vs : List Value) (S : List Nat) (lc : Addr) (ja : Addr) (jc : Addr) (kj : ClassId) (kl : ClassId) (v0 : UInt64) (v1 : UInt64) (v2 : UInt64) (v3 : UInt64) (mm : Nat) (h0 : Heap) (n0 : Nat) (O0 : Old Z n0 h0) (E_u0 : Exa Z h0 u0 "com/example/vows_to_moves/vowstomoves/model/LongNumbering") (Fsl : Fld Z h0 u0 "com/example/vows_to_moves/vowstomoves/model/LongNumbering" "slots" "[I" (.ref sa)) (Vs : Arv Z h0 sa ks .int (32 : Int32) vs (.int 0)) (Fk : Fld Z h0 u0 "com/example/vows_to_moves/vowstomoves/model/LongNumbering" "keys" "Lcom/example/vows_to_moves/vowstomoves/model/LongColumn;" (.ref lc)) (El : Exa Z h0 lc "com/example/vows_to_moves/vowstomoves/model/LongColumn") (Fc : Fld Z h0 lc "com/example/vows_to_moves/vowstomoves/model/LongColumn" "chunks" "[[J" (.ref ja)) (Vj : Arv Z h0 ja kj (.array .long) (4 : Int32) [(.ref jc), .null, .null, .null] .null) (Vl : Arv Z h0 jc kl .long (32768 : Int32) [(.long v0.toInt64), (.long v1.toInt64), (.long v2.toInt64), (.long v3.toInt64)] (.long 0)) (hT : OwnTab vs mm S) (hS : S.length ≤ 3) (hm : mm ≤ 4) :
    MetFree l (⟨"com/example/vows_to_moves/vowstomoves/model/LongNumbering", "slotOf", "(J)I"⟩ : MethodName) (head1 (Jvm.Cond.code (⟨"com/example/vows_to_moves/vowstomoves/model/LongNumbering", "slotOf", "(J)I"⟩ : MethodName) prog_82_method_9_code 6 (some .int) :: ws) ({ frames := 1, cells := 0, slots := 0, locals := 20 } : Room)) (fun a U => a = #[(.ref u0), (.long q1)] ∧ Z.Warmed39 U.vm ∧ U.heap = h0) (fun _ _ _ _ _ => True) (fun _ U o U' => ∃ v L, o = .returned v ∧ Q16a Z u0 q1 sa ks vs S lc ja jc kj kl v0 v1 v2 v3 mm h0 n0 v U'.heap L ∧ FrameEnd U o U' L ({ frames := 1, cells := 0, slots := 0, locals := 20 } : Room).cells ({ frames := 1, cells := 0, slots := 0, locals := 20 } : Room).slots) := by
  refine MetFree.of_bodySF (plainFor_of_name own_pn_com_example_vows_to_moves_vowstomoves_model_LongNumbering) hisR ?_
  intro p e s m args below meth c s₁ Bd hml0 hP hK
  obtain ⟨rfl, hZ, hh⟩ := hP
  have hx := Bd.exec
  have hby := Bd.bytes
  have hml : c.maxLocals = 6 := hml0
  have hown : s.vm.findClass "com/example/vows_to_moves/vowstomoves/model/LongNumbering" = some m.cls := findClass_of_methodNamed Bd.named
  have hnm := (name_of_methodNamed Bd.named Bd.method).1
  have X0 : Stand p l e ({ frames := 1, cells := 0, slots := 0, locals := 20 } : Room) s m #[(.ref u0), (.long q1)] below meth c s₁ [] 0 0 := Stand.of_body Bd
  have e0 : s₁.heap = h0 := by rw [← hh, Bd.state]; rfl
  have N0 := Fr.nil n0
  change Go p.tables e below _ _
  refine own_on (B := s₁.setTop (mkF m 0 #[rv u0, .val (.long q1), sn, un, un, un] [])) (fun tz kz => castTop (own_ef_16a m u0 q1) kz) ?_
  refine own_on (B := s₁.setTop (mkF m 1 #[rv u0, .val (.long q1), sn, un, un, un] [(.ref u0)])) (fun tz kz => ?_) ?_
  · show sT p e below s₁ (mkF m 0 #[rv u0, .val (.long q1), sn, un, un, un] []) tz
    refine XS.aloadN X0.here hx rfl (hb hby own_d16_0) rfl rfl ?_
    exact kz
  obtain ⟨T21, X21, e21, st21⟩ := getF X0 hx hZ hown (host := "") (Or.inl (own_w hw 50 rfl)) Via.refl e0 Fsl (g := (mkF m 1 #[rv u0, .val (.long q1), sn, un, un, un] [(.ref u0)])) rfl rfl (hb hby own_d16_1)
  refine own_on (B := T21.setTop (mkF m 4 #[rv u0, .val (.long q1), sn, un, un, un] [(.ref sa)])) (fun tz kz => st21 _ kz) ?_
  obtain ⟨cl22, Ar22, q22, S22, M22, H22, G22⟩ := id Vs
  refine own_on (B := T21.setTop (mkF m 10 #[rv u0, .val (.long q1), sn, iv 31, un, un] [(.int 31), (.long q1)])) (fun tz kz => ?_) ?_
  · show sT p e below T21 (mkF m 4 #[rv u0, .val (.long q1), sn, un, un, un] [(.ref sa)]) tz
    refine X21.arraylength hx (by rw [e21]; exact Ar22.1) (State.isArrayOf_alike hZ.alike Ar22.2.1) (g := (mkF m 4 #[rv u0, .val (.long q1), sn, un, un, un] [(.ref sa)])) rfl rfl (hb hby own_d16_4) _ ?_
    rw [len_of S22 M22]
    show sT p e below T21 (mkF m 5 #[rv u0, .val (.long q1), sn, un, un, un] [(.int 32)]) tz
    refine XS.iconst X21.here hx rfl (hb hby own_d16_5) ?_
    show sT p e below T21 (mkF m 6 #[rv u0, .val (.long q1), sn, un, un, un] [(.int 1), (.int 32)]) tz
    refine XS.isub X21.here hx rfl (hb hby own_d16_6) rfl ?_
    show sT p e below T21 (mkF m 7 #[rv u0, .val (.long q1), sn, un, un, un] [(.int 31)]) tz
    refine XS.istoreN X21.here hx rfl (hb hby own_d16_7) rfl (l' := #[rv u0, .val (.long q1), sn, iv 31, un, un]) rfl ?_
    show sT p e below T21 (mkF m 8 #[rv u0, .val (.long q1), sn, iv 31, un, un] []) tz
    refine XS.lloadN X21.here hx rfl (hb hby own_d16_8) rfl ?_
    show sT p e below T21 (mkF m 9 #[rv u0, .val (.long q1), sn, iv 31, un, un] [(.long q1)]) tz
    refine XS.iloadN X21.here hx rfl (hb hby own_d16_9) rfl ?_
    exact kz
  obtain ⟨_, _, ⟨T23, L23, k23, n23⟩, -, X23, ⟨Lc23, hQ23, l23, y23, z23⟩, st23⟩ := Jvm.LawKit.callS X21 hx (y := (⟨"com/example/vows_to_moves/vowstomoves/model/LongNumbering", "firstSlot", "(JI)I"⟩ : MethodName)) hown (mvT hZ (own_w hw 107 rfl)) (mvT hZ (own_w hw 108 rfl)) (mvT hZ (own_w hw 11 rfl)) (mvT hZ (own_w hw 109 rfl)) (by decide) (backOf (W := 0) (rm17 l Z a0 hw [] q1  h0 n0 O0 ) hZ (own_w hw 109 rfl) (own_w hw 11 rfl) (by decide) (by decide)) (g := (mkF m 10 #[rv u0, .val (.long q1), sn, iv 31, un, un] [(.int 31), (.long q1)])) rfl (by rw [hml]; rfl) (argsL := [(.long q1), (.int (31 : Int32))]) (rest := []) (lenOf own_pd7 rfl) rfl (by show 2 * 0 + _ ≤ _; exact Nat.le_of_eq rfl) (hb hby own_d16_10) (fun _ _ => ⟨rfl, e21, (by decide : 0 + 0 ≤ _), (by decide : 0 + 0 ≤ _)⟩)
  dsimp only [Pt.U, Pt.locs, Pt.cells, Pt.slots] at X23 l23 y23 z23 st23 hQ23
  subst l23 y23 z23
  obtain ⟨j0, rfl, lo0, hi0, Nq23, eq23⟩ := hQ23
  have N23 := Fr.app N0 Nq23
  refine own_on (B := T23.setTop (mkF m 13 #[rv u0, .val (.long q1), sn, iv 31, un, un] [(.int j0)])) (fun tz kz => st23 _ kz) ?_
  refine own_on (B := T23.setTop (mkF m 16 #[rv u0, .val (.long q1), sn, iv 31, iv j0, un] [(.ref u0)])) (fun tz kz => ?_) ?_
  · show sT p e below T23 (mkF m 13 #[rv u0, .val (.long q1), sn, iv 31, un, un] [(.int j0)]) tz
    refine XS.istore X23.here hx rfl (hb hby own_d16_13) rfl (l' := #[rv u0, .val (.long q1), sn, iv 31, iv j0, un]) rfl ?_
    show sT p e below T23 (mkF m 15 #[rv u0, .val (.long q1), sn, iv 31, iv j0, un] []) tz
    refine XS.aloadN X23.here hx rfl (hb hby own_d16_15) rfl rfl ?_
    exact kz
  obtain ⟨T24, X24, e24, st24⟩ := getF X23 hx hZ hown (host := "") (Or.inl (own_w hw 50 rfl)) Via.refl eq23 Fsl (g := (mkF m 16 #[rv u0, .val (.long q1), sn, iv 31, iv j0, un] [(.ref u0)])) rfl rfl (hb hby own_d16_16)
  refine own_on (B := T24.setTop (mkF m 19 #[rv u0, .val (.long q1), sn, iv 31, iv j0, un] [(.ref sa)])) (fun tz kz => st24 _ kz) ?_
  refine own_on (B := T24.setTop (mkF m 21 #[rv u0, .val (.long q1), sn, iv 31, iv j0, un] [(.int j0), (.ref sa)])) (fun tz kz => ?_) ?_
  · show sT p e below T24 (mkF m 19 #[rv u0, .val (.long q1), sn, iv 31, iv j0, un] [(.ref sa)]) tz
    refine XS.iload X24.here hx rfl (hb hby own_d16_19) rfl ?_
    exact kz
  rcases hT.2 _ (own_lt32 lo0 hi0) with hA | ⟨i0, im0, iv0, is0⟩
  · obtain ⟨cl25, Ar25, q25, S25, M25, H25, G25⟩ := id Vs
    have hin26 : ¬ (j0 < 0 ∨ cl25.slots.size ≤ (j0).toNatClampNeg) := inb_of S25 ⟨lo0, hi0⟩
    have hat26 : cl25.slots[(j0).toNatClampNeg]? = some (.int (-1 : Int32)) := Has.at H25 hin26 hA
    refine own_on (B := T24.setTop (mkF m 46 #[rv u0, .val (.long q1), sn, iv 31, iv j0, iv (-1 : Int32)] [(.int j0)])) (fun tz kz => ?_) ?_
    · show sT p e below T24 (mkF m 21 #[rv u0, .val (.long q1), sn, iv 31, iv j0, un] [(.int j0), (.ref sa)]) tz
      refine X24.iaload hx (j := j0) (v := (.int (-1 : Int32))) (by rw [e24]; exact Ar25.1) (State.isArrayOf_alike hZ.alike Ar25.2.1) Ar25.2.2 hin26 hat26 (g := (mkF m 21 #[rv u0, .val (.long q1), sn, iv 31, iv j0, un] [(.int j0), (.ref sa)])) rfl rfl (hb hby own_d16_21) _ ?_
      show sT p e below T24 (mkF m 22 #[rv u0, .val (.long q1), sn, iv 31, iv j0, un] [(.int (-1 : Int32))]) tz
      refine XS.istore X24.here hx rfl (hb hby own_d16_22) rfl (l' := #[rv u0, .val (.long q1), sn, iv 31, iv j0, iv (-1 : Int32)]) rfl ?_
      show sT p e below T24 (mkF m 24 #[rv u0, .val (.long q1), sn, iv 31, iv j0, iv (-1 : Int32)] []) tz
      refine XS.iload X24.here hx rfl (hb hby own_d16_24) rfl ?_
      show sT p e below T24 (mkF m 26 #[rv u0, .val (.long q1), sn, iv 31, iv j0, iv (-1 : Int32)] [(.int (-1 : Int32))]) tz
      refine XS.iconst X24.here hx rfl (hb hby own_d16_26) ?_
      show sT p e below T24 (mkF m 27 #[rv u0, .val (.long q1), sn, iv 31, iv j0, iv (-1 : Int32)] [(.int (-1 : Int32)), (.int (-1 : Int32))]) tz
      refine XS.icmpYes X24.here hx rfl (pc0 := 27) (pc' := 44) rfl (hb hby own_d16_27) rfl (teq rfl).1 (by decide) (by decide) ?_
      show sT p e below T24 (mkF m 44 #[rv u0, .val (.long q1), sn, iv 31, iv j0, iv (-1 : Int32)] []) tz
      refine XS.iload X24.here hx rfl (hb hby own_d16_44) rfl ?_
      exact kz
    obtain ⟨fs, hr, hrun, hended, hW, hsame⟩ := X24.leave (v := some (.int j0)) (fun h => by rw [Bd.returns] at h; cases h)
    refine own_of ⟨_, _, ?_, hrun, hended, _, _, rfl, ?_, ⟨_, rfl⟩, hW, hsame.mono (by decide) (by decide)⟩
    · show sT p e below T24 (mkF m 46 #[rv u0, .val (.long q1), sn, iv 31, iv j0, iv (-1 : Int32)] [(.int j0)]) _
      exact own_retI X24 hx Bd.returns (hb hby own_d16_46) hr
    · show Q16a Z u0 q1 sa ks vs S lc ja jc kj kl v0 v1 v2 v3 mm h0 n0 _ T24.heap _
      rw [e24]
      exact ⟨j0, rfl, lo0, hi0, Or.inl hA, N23, rfl⟩
  · obtain ⟨ia0, ib0, ic0, id0, -⟩ := own_ix im0 hm
    obtain ⟨cl27, Ar27, q27, S27, M27, H27, G27⟩ := id Vs
    have hin28 : ¬ (j0 < 0 ∨ cl27.slots.size ≤ (j0).toNatClampNeg) := inb_of S27 ⟨lo0, hi0⟩
    have hat28 : cl27.slots[(j0).toNatClampNeg]? = some (.int i0.toInt32) := Has.at H27 hin28 iv0
    refine own_on (B := T24.setTop (mkF m 31 #[rv u0, .val (.long q1), sn, iv 31, iv j0, iv i0.toInt32] [(.ref u0)])) (fun tz kz => ?_) ?_
    · show sT p e below T24 (mkF m 21 #[rv u0, .val (.long q1), sn, iv 31, iv j0, un] [(.int j0), (.ref sa)]) tz
      refine X24.iaload hx (j := j0) (v := (.int i0.toInt32)) (by rw [e24]; exact Ar27.1) (State.isArrayOf_alike hZ.alike Ar27.2.1) Ar27.2.2 hin28 hat28 (g := (mkF m 21 #[rv u0, .val (.long q1), sn, iv 31, iv j0, un] [(.int j0), (.ref sa)])) rfl rfl (hb hby own_d16_21) _ ?_
      show sT p e below T24 (mkF m 22 #[rv u0, .val (.long q1), sn, iv 31, iv j0, un] [(.int i0.toInt32)]) tz
      refine XS.istore X24.here hx rfl (hb hby own_d16_22) rfl (l' := #[rv u0, .val (.long q1), sn, iv 31, iv j0, iv i0.toInt32]) rfl ?_
      show sT p e below T24 (mkF m 24 #[rv u0, .val (.long q1), sn, iv 31, iv j0, iv i0.toInt32] []) tz
      refine XS.iload X24.here hx rfl (hb hby own_d16_24) rfl ?_
      show sT p e below T24 (mkF m 26 #[rv u0, .val (.long q1), sn, iv 31, iv j0, iv i0.toInt32] [(.int i0.toInt32)]) tz
      refine XS.iconst X24.here hx rfl (hb hby own_d16_26) ?_
      show sT p e below T24 (mkF m 27 #[rv u0, .val (.long q1), sn, iv 31, iv j0, iv i0.toInt32] [(.int (-1 : Int32)), (.int i0.toInt32)]) tz
      refine XS.icmpNo X24.here hx rfl (hb hby own_d16_27) rfl (feq id0).1 ?_
      show sT p e below T24 (mkF m 30 #[rv u0, .val (.long q1), sn, iv 31, iv j0, iv i0.toInt32] []) tz
      refine XS.aloadN X24.here hx rfl (hb hby own_d16_30) rfl rfl ?_
      exact kz
    obtain ⟨T29, X29, e29, st29⟩ := getF X24 hx hZ hown (host := "") (Or.inl (own_w hw 27 rfl)) Via.refl e24 Fk (g := (mkF m 31 #[rv u0, .val (.long q1), sn, iv 31, iv j0, iv i0.toInt32] [(.ref u0)])) rfl rfl (hb hby own_d16_31)
    refine own_on (B := T29.setTop (mkF m 34 #[rv u0, .val (.long q1), sn, iv 31, iv j0, iv i0.toInt32] [(.ref lc)])) (fun tz kz => st29 _ kz) ?_
    refine own_on (B := T29.setTop (mkF m 36 #[rv u0, .val (.long q1), sn, iv 31, iv j0, iv i0.toInt32] [(.int i0.toInt32), (.ref lc)])) (fun tz kz => ?_) ?_
    · show sT p e below T29 (mkF m 34 #[rv u0, .val (.long q1), sn, iv 31, iv j0, iv i0.toInt32] [(.ref lc)]) tz
      refine XS.iload X29.here hx rfl (hb hby own_d16_34) rfl ?_
      exact kz
    obtain ⟨cq30, kq30, q30a, q30b, q30c⟩ := isOf hZ e29 El
    obtain ⟨_, _, ⟨T30, L30, k30, n30⟩, -, X30, ⟨Lc30, hQ30, l30, y30, z30⟩, st30⟩ := X29.virtualBack hx (y := (⟨"com/example/vows_to_moves/vowstomoves/model/LongColumn", "get", "(I)J"⟩ : MethodName)) (z := (⟨"com/example/vows_to_moves/vowstomoves/model/LongColumn", "get", "(I)J"⟩ : MethodName)) hown (mvT hZ (own_w hw 136 rfl)) (mvT hZ (own_w hw 137 rfl)) (notFace_of_selects (args := #[]) (mvT hZ (own_w hw 139 rfl))) (mvT hZ (own_w hw 139 rfl)) (mvT hZ (own_w hw 138 rfl)) (by decide) (backOf (W := 0) (rm22 l Z a0 hw [] lc i0.toInt32 ja jc kj kl [(.long v0.toInt64), (.long v1.toInt64), (.long v2.toInt64), (.long v3.toInt64)] ([v0, v1, v2, v3].getD i0 0).toInt64 h0 n0 O0 Fc Vj Vl ia0 ib0 (own_vl ic0 (Nat.lt_of_lt_of_le im0 hm))) hZ (own_w hw 140 rfl) (own_w hw 18 rfl) (by decide) (by decide)) q30a q30c (g := (mkF m 36 #[rv u0, .val (.long q1), sn, iv 31, iv j0, iv i0.toInt32] [(.int i0.toInt32), (.ref lc)])) rfl (by rw [hml]; rfl) (Steps.refl _) (argsL := [(.int i0.toInt32)]) (rest := []) (lenOf own_pd8 rfl) rfl (by show 2 * 0 + _ ≤ _; exact Nat.le_of_eq rfl) (hb hby own_d16_36) (fun _ _ => ⟨rfl, e29, (by decide : 0 + 0 ≤ _), (by decide : 0 + 0 ≤ _)⟩)
    dsimp only [Pt.U, Pt.locs, Pt.cells, Pt.slots] at X30 l30 y30 z30 st30 hQ30
    subst l30 y30 z30
    obtain ⟨rfl, Nq30, e30⟩ := hQ30
    have N30 := Fr.app N23 Nq30
    refine own_on (B := T30.setTop (mkF m 39 #[rv u0, .val (.long q1), sn, iv 31, iv j0, iv i0.toInt32] [(.long ([v0, v1, v2, v3].getD i0 0).toInt64)])) (fun tz kz => st30.trans kz) ?_
    refine own_on (B := T30.setTop (mkF m 41 #[rv u0, .val (.long q1), sn, iv 31, iv j0, iv i0.toInt32] [(.int (lcmpW ([v0, v1, v2, v3].getD i0 0).toInt64 q1))])) (fun tz kz => ?_) ?_
    · show sT p e below T30 (mkF m 39 #[rv u0, .val (.long q1), sn, iv 31, iv j0, iv i0.toInt32] [(.long ([v0, v1, v2, v3].getD i0 0).toInt64)]) tz
      refine XS.lloadN X30.here hx rfl (hb hby own_d16_39) rfl ?_
      show sT p e below T30 (mkF m 40 #[rv u0, .val (.long q1), sn, iv 31, iv j0, iv i0.toInt32] [(.long q1), (.long ([v0, v1, v2, v3].getD i0 0).toInt64)]) tz
      refine XS.lcmp X30.here hx rfl (hb hby own_d16_40) rfl ?_
      exact kz
    by_cases hq0 : (lcmpW ([v0, v1, v2, v3].getD i0 0).toInt64 q1) = (0 : Int32)
    · refine own_on (B := T30.setTop (mkF m 46 #[rv u0, .val (.long q1), sn, iv 31, iv j0, iv i0.toInt32] [(.int j0)])) (fun tz kz => ?_) ?_
      · show sT p e below T30 (mkF m 41 #[rv u0, .val (.long q1), sn, iv 31, iv j0, iv i0.toInt32] [(.int (lcmpW ([v0, v1, v2, v3].getD i0 0).toInt64 q1))]) tz
        refine XS.ifNo X30.here hx rfl (hb hby own_d16_41) rfl ((if0 _ _).trans (teq hq0).2) ?_
        show sT p e below T30 (mkF m 44 #[rv u0, .val (.long q1), sn, iv 31, iv j0, iv i0.toInt32] []) tz
        refine XS.iload X30.here hx rfl (hb hby own_d16_44) rfl ?_
        exact kz
      obtain ⟨fs, hr, hrun, hended, hW, hsame⟩ := X30.leave (v := some (.int j0)) (fun h => by rw [Bd.returns] at h; cases h)
      refine own_of ⟨_, _, ?_, hrun, hended, _, _, rfl, ?_, ⟨_, rfl⟩, hW, hsame.mono (by decide) (by decide)⟩
      · show sT p e below T30 (mkF m 46 #[rv u0, .val (.long q1), sn, iv 31, iv j0, iv i0.toInt32] [(.int j0)]) _
        exact own_retI X30 hx Bd.returns (hb hby own_d16_46) hr
      · show Q16a Z u0 q1 sa ks vs S lc ja jc kj kl v0 v1 v2 v3 mm h0 n0 _ T30.heap _
        rw [e30]
        exact ⟨j0, rfl, lo0, hi0, Or.inr ⟨i0, im0, iv0, own_lcmp hq0⟩, N30, rfl⟩
    · refine own_on (B := T30.setTop (mkF m 15 #[rv u0, .val (.long q1), sn, iv 31, iv ((j0 + (1 : Int32)) &&& (31 : Int32)), iv i0.toInt32] [])) (fun tz kz => ?_) ?_
      · show sT p e below T30 (mkF m 41 #[rv u0, .val (.long q1), sn, iv 31, iv j0, iv i0.toInt32] [(.int (lcmpW ([v0, v1, v2, v3].getD i0 0).toInt64 q1))]) tz
        refine XS.ifYes X30.here hx rfl (pc0 := 41) (pc' := 47) rfl (hb hby own_d16_41) rfl ((if0 _ _).trans (feq hq0).2) (by decide) (by decide) ?_
        show sT p e below T30 (mkF m 47 #[rv u0, .val (.long q1), sn, iv 31, iv j0, iv i0.toInt32] []) tz
        refine XS.iload X30.here hx rfl (hb hby own_d16_47) rfl ?_
        show sT p e below T30 (mkF m 49 #[rv u0, .val (.long q1), sn, iv 31, iv j0, iv i0.toInt32] [(.int j0)]) tz
        refine XS.iconst X30.here hx rfl (hb hby own_d16_49) ?_
        show sT p e below T30 (mkF m 50 #[rv u0, .val (.long q1), sn, iv 31, iv j0, iv i0.toInt32] [(.int 1), (.int j0)]) tz
        refine XS.iadd X30.here hx rfl (hb hby own_d16_50) rfl ?_
        show sT p e below T30 (mkF m 51 #[rv u0, .val (.long q1), sn, iv 31, iv j0, iv i0.toInt32] [(.int (j0 + (1 : Int32)))]) tz
        refine XS.iloadN X30.here hx rfl (hb hby own_d16_51) rfl ?_
        show sT p e below T30 (mkF m 52 #[rv u0, .val (.long q1), sn, iv 31, iv j0, iv i0.toInt32] [(.int 31), (.int (j0 + (1 : Int32)))]) tz
        refine XS.iand X30.here hx rfl (hb hby own_d16_52) rfl ?_
        show sT p e below T30 (mkF m 53 #[rv u0, .val (.long q1), sn, iv 31, iv j0, iv i0.toInt32] [(.int ((j0 + (1 : Int32)) &&& (31 : Int32)))]) tz
        refine XS.istore X30.here hx rfl (hb hby own_d16_53) rfl (l' := #[rv u0, .val (.long q1), sn, iv 31, iv ((j0 + (1 : Int32)) &&& (31 : Int32)), iv i0.toInt32]) rfl ?_
        show sT p e below T30 (mkF m 55 #[rv u0, .val (.long q1), sn, iv 31, iv ((j0 + (1 : Int32)) &&& (31 : Int32)), iv i0.toInt32] []) tz
        refine XS.goto X30.here hx rfl (pc0 := 55) (pc' := 15) rfl (hb hby own_d16_55) (by decide) (by decide) ?_
        exact kz
      generalize hv_j1 : ((j0 + (1 : Int32)) &&& (31 : Int32)) = j1
      obtain ⟨lo1, hi1, e1_⟩ := own_step lo0 hi0 hv_j1
      refine own_on (B := T30.setTop (mkF m 16 #[rv u0, .val (.long q1), sn, iv 31, iv j1, iv i0.toInt32] [(.ref u0)])) (fun tz kz => ?_) ?_
      · show sT p e below T30 (mkF m 15 #[rv u0, .val (.long q1), sn, iv 31, iv j1, iv i0.toInt32] []) tz
        refine XS.aloadN X30.here hx rfl (hb hby own_d16_15) rfl rfl ?_
        exact kz
      obtain ⟨T31, X31, e31, st31⟩ := getF X30 hx hZ hown (host := "") (Or.inl (own_w hw 50 rfl)) Via.refl e30 Fsl (g := (mkF m 16 #[rv u0, .val (.long q1), sn, iv 31, iv j1, iv i0.toInt32] [(.ref u0)])) rfl rfl (hb hby own_d16_16)
      refine own_on (B := T31.setTop (mkF m 19 #[rv u0, .val (.long q1), sn, iv 31, iv j1, iv i0.toInt32] [(.ref sa)])) (fun tz kz => st31 _ kz) ?_
      refine own_on (B := T31.setTop (mkF m 21 #[rv u0, .val (.long q1), sn, iv 31, iv j1, iv i0.toInt32] [(.int j1), (.ref sa)])) (fun tz kz => ?_) ?_
      · show sT p e below T31 (mkF m 19 #[rv u0, .val (.long q1), sn, iv 31, iv j1, iv i0.toInt32] [(.ref sa)]) tz
        refine XS.iload X31.here hx rfl (hb hby own_d16_19) rfl ?_
        exact kz
      rcases hT.2 _ (own_lt32 lo1 hi1) with hA | ⟨i1, im1, iv1, is1⟩
      · obtain ⟨cl32, Ar32, q32, S32, M32, H32, G32⟩ := id Vs
        have hin33 : ¬ (j1 < 0 ∨ cl32.slots.size ≤ (j1).toNatClampNeg) := inb_of S32 ⟨lo1, hi1⟩
        have hat33 : cl32.slots[(j1).toNatClampNeg]? = some (.int (-1 : Int32)) := Has.at H32 hin33 hA
        refine own_on (B := T31.setTop (mkF m 46 #[rv u0, .val (.long q1), sn, iv 31, iv j1, iv (-1 : Int32)] [(.int j1)])) (fun tz kz => ?_) ?_
        · show sT p e below T31 (mkF m 21 #[rv u0, .val (.long q1), sn, iv 31, iv j1, iv i0.toInt32] [(.int j1), (.ref sa)]) tz
          refine X31.iaload hx (j := j1) (v := (.int (-1 : Int32))) (by rw [e31]; exact Ar32.1) (State.isArrayOf_alike hZ.alike Ar32.2.1) Ar32.2.2 hin33 hat33 (g := (mkF m 21 #[rv u0, .val (.long q1), sn, iv 31, iv j1, iv i0.toInt32] [(.int j1), (.ref sa)])) rfl rfl (hb hby own_d16_21) _ ?_
          show sT p e below T31 (mkF m 22 #[rv u0, .val (.long q1), sn, iv 31, iv j1, iv i0.toInt32] [(.int (-1 : Int32))]) tz
          refine XS.istore X31.here hx rfl (hb hby own_d16_22) rfl (l' := #[rv u0, .val (.long q1), sn, iv 31, iv j1, iv (-1 : Int32)]) rfl ?_
          show sT p e below T31 (mkF m 24 #[rv u0, .val (.long q1), sn, iv 31, iv j1, iv (-1 : Int32)] []) tz
          refine XS.iload X31.here hx rfl (hb hby own_d16_24) rfl ?_
          show sT p e below T31 (mkF m 26 #[rv u0, .val (.long q1), sn, iv 31, iv j1, iv (-1 : Int32)] [(.int (-1 : Int32))]) tz
          refine XS.iconst X31.here hx rfl (hb hby own_d16_26) ?_
          show sT p e below T31 (mkF m 27 #[rv u0, .val (.long q1), sn, iv 31, iv j1, iv (-1 : Int32)] [(.int (-1 : Int32)), (.int (-1 : Int32))]) tz
          refine XS.icmpYes X31.here hx rfl (pc0 := 27) (pc' := 44) rfl (hb hby own_d16_27) rfl (teq rfl).1 (by decide) (by decide) ?_
          show sT p e below T31 (mkF m 44 #[rv u0, .val (.long q1), sn, iv 31, iv j1, iv (-1 : Int32)] []) tz
          refine XS.iload X31.here hx rfl (hb hby own_d16_44) rfl ?_
          exact kz
        obtain ⟨fs, hr, hrun, hended, hW, hsame⟩ := X31.leave (v := some (.int j1)) (fun h => by rw [Bd.returns] at h; cases h)
        refine own_of ⟨_, _, ?_, hrun, hended, _, _, rfl, ?_, ⟨_, rfl⟩, hW, hsame.mono (by decide) (by decide)⟩
        · show sT p e below T31 (mkF m 46 #[rv u0, .val (.long q1), sn, iv 31, iv j1, iv (-1 : Int32)] [(.int j1)]) _
          exact own_retI X31 hx Bd.returns (hb hby own_d16_46) hr
        · show Q16a Z u0 q1 sa ks vs S lc ja jc kj kl v0 v1 v2 v3 mm h0 n0 _ T31.heap _
          rw [e31]
          exact ⟨j1, rfl, lo1, hi1, Or.inl hA, N30, rfl⟩
      · obtain ⟨ia1, ib1, ic1, id1, -⟩ := own_ix im1 hm
        obtain ⟨cl34, Ar34, q34, S34, M34, H34, G34⟩ := id Vs
        have hin35 : ¬ (j1 < 0 ∨ cl34.slots.size ≤ (j1).toNatClampNeg) := inb_of S34 ⟨lo1, hi1⟩
        have hat35 : cl34.slots[(j1).toNatClampNeg]? = some (.int i1.toInt32) := Has.at H34 hin35 iv1
        refine own_on (B := T31.setTop (mkF m 31 #[rv u0, .val (.long q1), sn, iv 31, iv j1, iv i1.toInt32] [(.ref u0)])) (fun tz kz => ?_) ?_
        · show sT p e below T31 (mkF m 21 #[rv u0, .val (.long q1), sn, iv 31, iv j1, iv i0.toInt32] [(.int j1), (.ref sa)]) tz
          refine X31.iaload hx (j := j1) (v := (.int i1.toInt32)) (by rw [e31]; exact Ar34.1) (State.isArrayOf_alike hZ.alike Ar34.2.1) Ar34.2.2 hin35 hat35 (g := (mkF m 21 #[rv u0, .val (.long q1), sn, iv 31, iv j1, iv i0.toInt32] [(.int j1), (.ref sa)])) rfl rfl (hb hby own_d16_21) _ ?_
          show sT p e below T31 (mkF m 22 #[rv u0, .val (.long q1), sn, iv 31, iv j1, iv i0.toInt32] [(.int i1.toInt32)]) tz
          refine XS.istore X31.here hx rfl (hb hby own_d16_22) rfl (l' := #[rv u0, .val (.long q1), sn, iv 31, iv j1, iv i1.toInt32]) rfl ?_
          show sT p e below T31 (mkF m 24 #[rv u0, .val (.long q1), sn, iv 31, iv j1, iv i1.toInt32] []) tz
          refine XS.iload X31.here hx rfl (hb hby own_d16_24) rfl ?_
          show sT p e below T31 (mkF m 26 #[rv u0, .val (.long q1), sn, iv 31, iv j1, iv i1.toInt32] [(.int i1.toInt32)]) tz
          refine XS.iconst X31.here hx rfl (hb hby own_d16_26) ?_
          show sT p e below T31 (mkF m 27 #[rv u0, .val (.long q1), sn, iv 31, iv j1, iv i1.toInt32] [(.int (-1 : Int32)), (.int i1.toInt32)]) tz
          refine XS.icmpNo X31.here hx rfl (hb hby own_d16_27) rfl (feq id1).1 ?_
          show sT p e below T31 (mkF m 30 #[rv u0, .val (.long q1), sn, iv 31, iv j1, iv i1.toInt32] []) tz
          refine XS.aloadN X31.here hx rfl (hb hby own_d16_30) rfl rfl ?_
          exact kz
        obtain ⟨T36, X36, e36, st36⟩ := getF X31 hx hZ hown (host := "") (Or.inl (own_w hw 27 rfl)) Via.refl e31 Fk (g := (mkF m 31 #[rv u0, .val (.long q1), sn, iv 31, iv j1, iv i1.toInt32] [(.ref u0)])) rfl rfl (hb hby own_d16_31)
        refine own_on (B := T36.setTop (mkF m 34 #[rv u0, .val (.long q1), sn, iv 31, iv j1, iv i1.toInt32] [(.ref lc)])) (fun tz kz => st36 _ kz) ?_
        refine own_on (B := T36.setTop (mkF m 36 #[rv u0, .val (.long q1), sn, iv 31, iv j1, iv i1.toInt32] [(.int i1.toInt32), (.ref lc)])) (fun tz kz => ?_) ?_
        · show sT p e below T36 (mkF m 34 #[rv u0, .val (.long q1), sn, iv 31, iv j1, iv i1.toInt32] [(.ref lc)]) tz
          refine XS.iload X36.here hx rfl (hb hby own_d16_34) rfl ?_
          exact kz
        obtain ⟨cq37, kq37, q37a, q37b, q37c⟩ := isOf hZ e36 El
        obtain ⟨_, _, ⟨T37, L37, k37, n37⟩, -, X37, ⟨Lc37, hQ37, l37, y37, z37⟩, st37⟩ := X36.virtualBack hx (y := (⟨"com/example/vows_to_moves/vowstomoves/model/LongColumn", "get", "(I)J"⟩ : MethodName)) (z := (⟨"com/example/vows_to_moves/vowstomoves/model/LongColumn", "get", "(I)J"⟩ : MethodName)) hown (mvT hZ (own_w hw 136 rfl)) (mvT hZ (own_w hw 137 rfl)) (notFace_of_selects (args := #[]) (mvT hZ (own_w hw 139 rfl))) (mvT hZ (own_w hw 139 rfl)) (mvT hZ (own_w hw 138 rfl)) (by decide) (backOf (W := 0) (rm22 l Z a0 hw [] lc i1.toInt32 ja jc kj kl [(.long v0.toInt64), (.long v1.toInt64), (.long v2.toInt64), (.long v3.toInt64)] ([v0, v1, v2, v3].getD i1 0).toInt64 h0 n0 O0 Fc Vj Vl ia1 ib1 (own_vl ic1 (Nat.lt_of_lt_of_le im1 hm))) hZ (own_w hw 140 rfl) (own_w hw 18 rfl) (by decide) (by decide)) q37a q37c (g := (mkF m 36 #[rv u0, .val (.long q1), sn, iv 31, iv j1, iv i1.toInt32] [(.int i1.toInt32), (.ref lc)])) rfl (by rw [hml]; rfl) (Steps.refl _) (argsL := [(.int i1.toInt32)]) (rest := []) (lenOf own_pd8 rfl) rfl (by show 2 * 0 + _ ≤ _; exact Nat.le_of_eq rfl) (hb hby own_d16_36) (fun _ _ => ⟨rfl, e36, (by decide : 0 + 0 ≤ _), (by decide : 0 + 0 ≤ _)⟩)
        dsimp only [Pt.U, Pt.locs, Pt.cells, Pt.slots] at X37 l37 y37 z37 st37 hQ37
        subst l37 y37 z37
        obtain ⟨rfl, Nq37, e37⟩ := hQ37
        have N37 := Fr.app N30 Nq37
        refine own_on (B := T37.setTop (mkF m 39 #[rv u0, .val (.long q1), sn, iv 31, iv j1, iv i1.toInt32] [(.long ([v0, v1, v2, v3].getD i1 0).toInt64)])) (fun tz kz => st37.trans kz) ?_
        refine own_on (B := T37.setTop (mkF m 41 #[rv u0, .val (.long q1), sn, iv 31, iv j1, iv i1.toInt32] [(.int (lcmpW ([v0, v1, v2, v3].getD i1 0).toInt64 q1))])) (fun tz kz => ?_) ?_
        · show sT p e below T37 (mkF m 39 #[rv u0, .val (.long q1), sn, iv 31, iv j1, iv i1.toInt32] [(.long ([v0, v1, v2, v3].getD i1 0).toInt64)]) tz
          refine XS.lloadN X37.here hx rfl (hb hby own_d16_39) rfl ?_
          show sT p e below T37 (mkF m 40 #[rv u0, .val (.long q1), sn, iv 31, iv j1, iv i1.toInt32] [(.long q1), (.long ([v0, v1, v2, v3].getD i1 0).toInt64)]) tz
          refine XS.lcmp X37.here hx rfl (hb hby own_d16_40) rfl ?_
          exact kz
        by_cases hq1 : (lcmpW ([v0, v1, v2, v3].getD i1 0).toInt64 q1) = (0 : Int32)
        · refine own_on (B := T37.setTop (mkF m 46 #[rv u0, .val (.long q1), sn, iv 31, iv j1, iv i1.toInt32] [(.int j1)])) (fun tz kz => ?_) ?_
          · show sT p e below T37 (mkF m 41 #[rv u0, .val (.long q1), sn, iv 31, iv j1, iv i1.toInt32] [(.int (lcmpW ([v0, v1, v2, v3].getD i1 0).toInt64 q1))]) tz
            refine XS.ifNo X37.here hx rfl (hb hby own_d16_41) rfl ((if0 _ _).trans (teq hq1).2) ?_
            show sT p e below T37 (mkF m 44 #[rv u0, .val (.long q1), sn, iv 31, iv j1, iv i1.toInt32] []) tz
            refine XS.iload X37.here hx rfl (hb hby own_d16_44) rfl ?_
            exact kz
          obtain ⟨fs, hr, hrun, hended, hW, hsame⟩ := X37.leave (v := some (.int j1)) (fun h => by rw [Bd.returns] at h; cases h)
          refine own_of ⟨_, _, ?_, hrun, hended, _, _, rfl, ?_, ⟨_, rfl⟩, hW, hsame.mono (by decide) (by decide)⟩
          · show sT p e below T37 (mkF m 46 #[rv u0, .val (.long q1), sn, iv 31, iv j1, iv i1.toInt32] [(.int j1)]) _
            exact own_retI X37 hx Bd.returns (hb hby own_d16_46) hr
          · show Q16a Z u0 q1 sa ks vs S lc ja jc kj kl v0 v1 v2 v3 mm h0 n0 _ T37.heap _
            rw [e37]
            exact ⟨j1, rfl, lo1, hi1, Or.inr ⟨i1, im1, iv1, own_lcmp hq1⟩, N37, rfl⟩
        · refine own_on (B := T37.setTop (mkF m 15 #[rv u0, .val (.long q1), sn, iv 31, iv ((j1 + (1 : Int32)) &&& (31 : Int32)), iv i1.toInt32] [])) (fun tz kz => ?_) ?_
          · show sT p e below T37 (mkF m 41 #[rv u0, .val (.long q1), sn, iv 31, iv j1, iv i1.toInt32] [(.int (lcmpW ([v0, v1, v2, v3].getD i1 0).toInt64 q1))]) tz
            refine XS.ifYes X37.here hx rfl (pc0 := 41) (pc' := 47) rfl (hb hby own_d16_41) rfl ((if0 _ _).trans (feq hq1).2) (by decide) (by decide) ?_
            show sT p e below T37 (mkF m 47 #[rv u0, .val (.long q1), sn, iv 31, iv j1, iv i1.toInt32] []) tz
            refine XS.iload X37.here hx rfl (hb hby own_d16_47) rfl ?_
            show sT p e below T37 (mkF m 49 #[rv u0, .val (.long q1), sn, iv 31, iv j1, iv i1.toInt32] [(.int j1)]) tz
            refine XS.iconst X37.here hx rfl (hb hby own_d16_49) ?_
            show sT p e below T37 (mkF m 50 #[rv u0, .val (.long q1), sn, iv 31, iv j1, iv i1.toInt32] [(.int 1), (.int j1)]) tz
            refine XS.iadd X37.here hx rfl (hb hby own_d16_50) rfl ?_
            show sT p e below T37 (mkF m 51 #[rv u0, .val (.long q1), sn, iv 31, iv j1, iv i1.toInt32] [(.int (j1 + (1 : Int32)))]) tz
            refine XS.iloadN X37.here hx rfl (hb hby own_d16_51) rfl ?_
            show sT p e below T37 (mkF m 52 #[rv u0, .val (.long q1), sn, iv 31, iv j1, iv i1.toInt32] [(.int 31), (.int (j1 + (1 : Int32)))]) tz
            refine XS.iand X37.here hx rfl (hb hby own_d16_52) rfl ?_
            show sT p e below T37 (mkF m 53 #[rv u0, .val (.long q1), sn, iv 31, iv j1, iv i1.toInt32] [(.int ((j1 + (1 : Int32)) &&& (31 : Int32)))]) tz
            refine XS.istore X37.here hx rfl (hb hby own_d16_53) rfl (l' := #[rv u0, .val (.long q1), sn, iv 31, iv ((j1 + (1 : Int32)) &&& (31 : Int32)), iv i1.toInt32]) rfl ?_
            show sT p e below T37 (mkF m 55 #[rv u0, .val (.long q1), sn, iv 31, iv ((j1 + (1 : Int32)) &&& (31 : Int32)), iv i1.toInt32] []) tz
            refine XS.goto X37.here hx rfl (pc0 := 55) (pc' := 15) rfl (hb hby own_d16_55) (by decide) (by decide) ?_
            exact kz
          generalize hv_j2 : ((j1 + (1 : Int32)) &&& (31 : Int32)) = j2
          obtain ⟨lo2, hi2, e2_⟩ := own_step lo1 hi1 hv_j2
          refine own_on (B := T37.setTop (mkF m 16 #[rv u0, .val (.long q1), sn, iv 31, iv j2, iv i1.toInt32] [(.ref u0)])) (fun tz kz => ?_) ?_
          · show sT p e below T37 (mkF m 15 #[rv u0, .val (.long q1), sn, iv 31, iv j2, iv i1.toInt32] []) tz
            refine XS.aloadN X37.here hx rfl (hb hby own_d16_15) rfl rfl ?_
            exact kz
          obtain ⟨T38, X38, e38, st38⟩ := getF X37 hx hZ hown (host := "") (Or.inl (own_w hw 50 rfl)) Via.refl e37 Fsl (g := (mkF m 16 #[rv u0, .val (.long q1), sn, iv 31, iv j2, iv i1.toInt32] [(.ref u0)])) rfl rfl (hb hby own_d16_16)
          refine own_on (B := T38.setTop (mkF m 19 #[rv u0, .val (.long q1), sn, iv 31, iv j2, iv i1.toInt32] [(.ref sa)])) (fun tz kz => st38 _ kz) ?_
          refine own_on (B := T38.setTop (mkF m 21 #[rv u0, .val (.long q1), sn, iv 31, iv j2, iv i1.toInt32] [(.int j2), (.ref sa)])) (fun tz kz => ?_) ?_
          · show sT p e below T38 (mkF m 19 #[rv u0, .val (.long q1), sn, iv 31, iv j2, iv i1.toInt32] [(.ref sa)]) tz
            refine XS.iload X38.here hx rfl (hb hby own_d16_19) rfl ?_
            exact kz
          rcases hT.2 _ (own_lt32 lo2 hi2) with hA | ⟨i2, im2, iv2, is2⟩
          · obtain ⟨cl39, Ar39, q39, S39, M39, H39, G39⟩ := id Vs
            have hin40 : ¬ (j2 < 0 ∨ cl39.slots.size ≤ (j2).toNatClampNeg) := inb_of S39 ⟨lo2, hi2⟩
            have hat40 : cl39.slots[(j2).toNatClampNeg]? = some (.int (-1 : Int32)) := Has.at H39 hin40 hA
            refine own_on (B := T38.setTop (mkF m 46 #[rv u0, .val (.long q1), sn, iv 31, iv j2, iv (-1 : Int32)] [(.int j2)])) (fun tz kz => ?_) ?_
            · show sT p e below T38 (mkF m 21 #[rv u0, .val (.long q1), sn, iv 31, iv j2, iv i1.toInt32] [(.int j2), (.ref sa)]) tz
              refine X38.iaload hx (j := j2) (v := (.int (-1 : Int32))) (by rw [e38]; exact Ar39.1) (State.isArrayOf_alike hZ.alike Ar39.2.1) Ar39.2.2 hin40 hat40 (g := (mkF m 21 #[rv u0, .val (.long q1), sn, iv 31, iv j2, iv i1.toInt32] [(.int j2), (.ref sa)])) rfl rfl (hb hby own_d16_21) _ ?_
              show sT p e below T38 (mkF m 22 #[rv u0, .val (.long q1), sn, iv 31, iv j2, iv i1.toInt32] [(.int (-1 : Int32))]) tz
              refine XS.istore X38.here hx rfl (hb hby own_d16_22) rfl (l' := #[rv u0, .val (.long q1), sn, iv 31, iv j2, iv (-1 : Int32)]) rfl ?_
              show sT p e below T38 (mkF m 24 #[rv u0, .val (.long q1), sn, iv 31, iv j2, iv (-1 : Int32)] []) tz
              refine XS.iload X38.here hx rfl (hb hby own_d16_24) rfl ?_
              show sT p e below T38 (mkF m 26 #[rv u0, .val (.long q1), sn, iv 31, iv j2, iv (-1 : Int32)] [(.int (-1 : Int32))]) tz
              refine XS.iconst X38.here hx rfl (hb hby own_d16_26) ?_
              show sT p e below T38 (mkF m 27 #[rv u0, .val (.long q1), sn, iv 31, iv j2, iv (-1 : Int32)] [(.int (-1 : Int32)), (.int (-1 : Int32))]) tz
              refine XS.icmpYes X38.here hx rfl (pc0 := 27) (pc' := 44) rfl (hb hby own_d16_27) rfl (teq rfl).1 (by decide) (by decide) ?_
              show sT p e below T38 (mkF m 44 #[rv u0, .val (.long q1), sn, iv 31, iv j2, iv (-1 : Int32)] []) tz
              refine XS.iload X38.here hx rfl (hb hby own_d16_44) rfl ?_
              exact kz
            obtain ⟨fs, hr, hrun, hended, hW, hsame⟩ := X38.leave (v := some (.int j2)) (fun h => by rw [Bd.returns] at h; cases h)
            refine own_of ⟨_, _, ?_, hrun, hended, _, _, rfl, ?_, ⟨_, rfl⟩, hW, hsame.mono (by decide) (by decide)⟩
            · show sT p e below T38 (mkF m 46 #[rv u0, .val (.long q1), sn, iv 31, iv j2, iv (-1 : Int32)] [(.int j2)]) _
              exact own_retI X38 hx Bd.returns (hb hby own_d16_46) hr
            · show Q16a Z u0 q1 sa ks vs S lc ja jc kj kl v0 v1 v2 v3 mm h0 n0 _ T38.heap _
              rw [e38]
              exact ⟨j2, rfl, lo2, hi2, Or.inl hA, N37, rfl⟩
          · obtain ⟨ia2, ib2, ic2, id2, -⟩ := own_ix im2 hm
            obtain ⟨cl41, Ar41, q41, S41, M41, H41, G41⟩ := id Vs
            have hin42 : ¬ (j2 < 0 ∨ cl41.slots.size ≤ (j2).toNatClampNeg) := inb_of S41 ⟨lo2, hi2⟩
            have hat42 : cl41.slots[(j2).toNatClampNeg]? = some (.int i2.toInt32) := Has.at H41 hin42 iv2
            refine own_on (B := T38.setTop (mkF m 31 #[rv u0, .val (.long q1), sn, iv 31, iv j2, iv i2.toInt32] [(.ref u0)])) (fun tz kz => ?_) ?_
            · show sT p e below T38 (mkF m 21 #[rv u0, .val (.long q1), sn, iv 31, iv j2, iv i1.toInt32] [(.int j2), (.ref sa)]) tz
              refine X38.iaload hx (j := j2) (v := (.int i2.toInt32)) (by rw [e38]; exact Ar41.1) (State.isArrayOf_alike hZ.alike Ar41.2.1) Ar41.2.2 hin42 hat42 (g := (mkF m 21 #[rv u0, .val (.long q1), sn, iv 31, iv j2, iv i1.toInt32] [(.int j2), (.ref sa)])) rfl rfl (hb hby own_d16_21) _ ?_
              show sT p e below T38 (mkF m 22 #[rv u0, .val (.long q1), sn, iv 31, iv j2, iv i1.toInt32] [(.int i2.toInt32)]) tz
              refine XS.istore X38.here hx rfl (hb hby own_d16_22) rfl (l' := #[rv u0, .val (.long q1), sn, iv 31, iv j2, iv i2.toInt32]) rfl ?_
              show sT p e below T38 (mkF m 24 #[rv u0, .val (.long q1), sn, iv 31, iv j2, iv i2.toInt32] []) tz
              refine XS.iload X38.here hx rfl (hb hby own_d16_24) rfl ?_
              show sT p e below T38 (mkF m 26 #[rv u0, .val (.long q1), sn, iv 31, iv j2, iv i2.toInt32] [(.int i2.toInt32)]) tz
              refine XS.iconst X38.here hx rfl (hb hby own_d16_26) ?_
              show sT p e below T38 (mkF m 27 #[rv u0, .val (.long q1), sn, iv 31, iv j2, iv i2.toInt32] [(.int (-1 : Int32)), (.int i2.toInt32)]) tz
              refine XS.icmpNo X38.here hx rfl (hb hby own_d16_27) rfl (feq id2).1 ?_
              show sT p e below T38 (mkF m 30 #[rv u0, .val (.long q1), sn, iv 31, iv j2, iv i2.toInt32] []) tz
              refine XS.aloadN X38.here hx rfl (hb hby own_d16_30) rfl rfl ?_
              exact kz
            obtain ⟨T43, X43, e43, st43⟩ := getF X38 hx hZ hown (host := "") (Or.inl (own_w hw 27 rfl)) Via.refl e38 Fk (g := (mkF m 31 #[rv u0, .val (.long q1), sn, iv 31, iv j2, iv i2.toInt32] [(.ref u0)])) rfl rfl (hb hby own_d16_31)
            refine own_on (B := T43.setTop (mkF m 34 #[rv u0, .val (.long q1), sn, iv 31, iv j2, iv i2.toInt32] [(.ref lc)])) (fun tz kz => st43 _ kz) ?_
            refine own_on (B := T43.setTop (mkF m 36 #[rv u0, .val (.long q1), sn, iv 31, iv j2, iv i2.toInt32] [(.int i2.toInt32), (.ref lc)])) (fun tz kz => ?_) ?_
            · show sT p e below T43 (mkF m 34 #[rv u0, .val (.long q1), sn, iv 31, iv j2, iv i2.toInt32] [(.ref lc)]) tz
              refine XS.iload X43.here hx rfl (hb hby own_d16_34) rfl ?_
              exact kz
            obtain ⟨cq44, kq44, q44a, q44b, q44c⟩ := isOf hZ e43 El
            obtain ⟨_, _, ⟨T44, L44, k44, n44⟩, -, X44, ⟨Lc44, hQ44, l44, y44, z44⟩, st44⟩ := X43.virtualBack hx (y := (⟨"com/example/vows_to_moves/vowstomoves/model/LongColumn", "get", "(I)J"⟩ : MethodName)) (z := (⟨"com/example/vows_to_moves/vowstomoves/model/LongColumn", "get", "(I)J"⟩ : MethodName)) hown (mvT hZ (own_w hw 136 rfl)) (mvT hZ (own_w hw 137 rfl)) (notFace_of_selects (args := #[]) (mvT hZ (own_w hw 139 rfl))) (mvT hZ (own_w hw 139 rfl)) (mvT hZ (own_w hw 138 rfl)) (by decide) (backOf (W := 0) (rm22 l Z a0 hw [] lc i2.toInt32 ja jc kj kl [(.long v0.toInt64), (.long v1.toInt64), (.long v2.toInt64), (.long v3.toInt64)] ([v0, v1, v2, v3].getD i2 0).toInt64 h0 n0 O0 Fc Vj Vl ia2 ib2 (own_vl ic2 (Nat.lt_of_lt_of_le im2 hm))) hZ (own_w hw 140 rfl) (own_w hw 18 rfl) (by decide) (by decide)) q44a q44c (g := (mkF m 36 #[rv u0, .val (.long q1), sn, iv 31, iv j2, iv i2.toInt32] [(.int i2.toInt32), (.ref lc)])) rfl (by rw [hml]; rfl) (Steps.refl _) (argsL := [(.int i2.toInt32)]) (rest := []) (lenOf own_pd8 rfl) rfl (by show 2 * 0 + _ ≤ _; exact Nat.le_of_eq rfl) (hb hby own_d16_36) (fun _ _ => ⟨rfl, e43, (by decide : 0 + 0 ≤ _), (by decide : 0 + 0 ≤ _)⟩)
            dsimp only [Pt.U, Pt.locs, Pt.cells, Pt.slots] at X44 l44 y44 z44 st44 hQ44
            subst l44 y44 z44
            obtain ⟨rfl, Nq44, e44⟩ := hQ44
            have N44 := Fr.app N37 Nq44
            refine own_on (B := T44.setTop (mkF m 39 #[rv u0, .val (.long q1), sn, iv 31, iv j2, iv i2.toInt32] [(.long ([v0, v1, v2, v3].getD i2 0).toInt64)])) (fun tz kz => st44.trans kz) ?_
            refine own_on (B := T44.setTop (mkF m 41 #[rv u0, .val (.long q1), sn, iv 31, iv j2, iv i2.toInt32] [(.int (lcmpW ([v0, v1, v2, v3].getD i2 0).toInt64 q1))])) (fun tz kz => ?_) ?_
            · show sT p e below T44 (mkF m 39 #[rv u0, .val (.long q1), sn, iv 31, iv j2, iv i2.toInt32] [(.long ([v0, v1, v2, v3].getD i2 0).toInt64)]) tz
              refine XS.lloadN X44.here hx rfl (hb hby own_d16_39) rfl ?_
              show sT p e below T44 (mkF m 40 #[rv u0, .val (.long q1), sn, iv 31, iv j2, iv i2.toInt32] [(.long q1), (.long ([v0, v1, v2, v3].getD i2 0).toInt64)]) tz
              refine XS.lcmp X44.here hx rfl (hb hby own_d16_40) rfl ?_
              exact kz
            by_cases hq2 : (lcmpW ([v0, v1, v2, v3].getD i2 0).toInt64 q1) = (0 : Int32)
            · refine own_on (B := T44.setTop (mkF m 46 #[rv u0, .val (.long q1), sn, iv 31, iv j2, iv i2.toInt32] [(.int j2)])) (fun tz kz => ?_) ?_
              · show sT p e below T44 (mkF m 41 #[rv u0, .val (.long q1), sn, iv 31, iv j2, iv i2.toInt32] [(.int (lcmpW ([v0, v1, v2, v3].getD i2 0).toInt64 q1))]) tz
                refine XS.ifNo X44.here hx rfl (hb hby own_d16_41) rfl ((if0 _ _).trans (teq hq2).2) ?_
                show sT p e below T44 (mkF m 44 #[rv u0, .val (.long q1), sn, iv 31, iv j2, iv i2.toInt32] []) tz
                refine XS.iload X44.here hx rfl (hb hby own_d16_44) rfl ?_
                exact kz
              obtain ⟨fs, hr, hrun, hended, hW, hsame⟩ := X44.leave (v := some (.int j2)) (fun h => by rw [Bd.returns] at h; cases h)
              refine own_of ⟨_, _, ?_, hrun, hended, _, _, rfl, ?_, ⟨_, rfl⟩, hW, hsame.mono (by decide) (by decide)⟩
              · show sT p e below T44 (mkF m 46 #[rv u0, .val (.long q1), sn, iv 31, iv j2, iv i2.toInt32] [(.int j2)]) _
                exact own_retI X44 hx Bd.returns (hb hby own_d16_46) hr
              · show Q16a Z u0 q1 sa ks vs S lc ja jc kj kl v0 v1 v2 v3 mm h0 n0 _ T44.heap _
                rw [e44]
                exact ⟨j2, rfl, lo2, hi2, Or.inr ⟨i2, im2, iv2, own_lcmp hq2⟩, N44, rfl⟩
            · refine own_on (B := T44.setTop (mkF m 15 #[rv u0, .val (.long q1), sn, iv 31, iv ((j2 + (1 : Int32)) &&& (31 : Int32)), iv i2.toInt32] [])) (fun tz kz => ?_) ?_
              · show sT p e below T44 (mkF m 41 #[rv u0, .val (.long q1), sn, iv 31, iv j2, iv i2.toInt32] [(.int (lcmpW ([v0, v1, v2, v3].getD i2 0).toInt64 q1))]) tz
                refine XS.ifYes X44.here hx rfl (pc0 := 41) (pc' := 47) rfl (hb hby own_d16_41) rfl ((if0 _ _).trans (feq hq2).2) (by decide) (by decide) ?_
                show sT p e below T44 (mkF m 47 #[rv u0, .val (.long q1), sn, iv 31, iv j2, iv i2.toInt32] []) tz
                refine XS.iload X44.here hx rfl (hb hby own_d16_47) rfl ?_
                show sT p e below T44 (mkF m 49 #[rv u0, .val (.long q1), sn, iv 31, iv j2, iv i2.toInt32] [(.int j2)]) tz
                refine XS.iconst X44.here hx rfl (hb hby own_d16_49) ?_
                show sT p e below T44 (mkF m 50 #[rv u0, .val (.long q1), sn, iv 31, iv j2, iv i2.toInt32] [(.int 1), (.int j2)]) tz
                refine XS.iadd X44.here hx rfl (hb hby own_d16_50) rfl ?_
                show sT p e below T44 (mkF m 51 #[rv u0, .val (.long q1), sn, iv 31, iv j2, iv i2.toInt32] [(.int (j2 + (1 : Int32)))]) tz
                refine XS.iloadN X44.here hx rfl (hb hby own_d16_51) rfl ?_
                show sT p e below T44 (mkF m 52 #[rv u0, .val (.long q1), sn, iv 31, iv j2, iv i2.toInt32] [(.int 31), (.int (j2 + (1 : Int32)))]) tz
                refine XS.iand X44.here hx rfl (hb hby own_d16_52) rfl ?_
                show sT p e below T44 (mkF m 53 #[rv u0, .val (.long q1), sn, iv 31, iv j2, iv i2.toInt32] [(.int ((j2 + (1 : Int32)) &&& (31 : Int32)))]) tz
                refine XS.istore X44.here hx rfl (hb hby own_d16_53) rfl (l' := #[rv u0, .val (.long q1), sn, iv 31, iv ((j2 + (1 : Int32)) &&& (31 : Int32)), iv i2.toInt32]) rfl ?_
                show sT p e below T44 (mkF m 55 #[rv u0, .val (.long q1), sn, iv 31, iv ((j2 + (1 : Int32)) &&& (31 : Int32)), iv i2.toInt32] []) tz
                refine XS.goto X44.here hx rfl (pc0 := 55) (pc' := 15) rfl (hb hby own_d16_55) (by decide) (by decide) ?_
                exact kz
              generalize hv_j3 : ((j2 + (1 : Int32)) &&& (31 : Int32)) = j3
              obtain ⟨lo3, hi3, e3_⟩ := own_step lo2 hi2 hv_j3
              refine own_on (B := T44.setTop (mkF m 16 #[rv u0, .val (.long q1), sn, iv 31, iv j3, iv i2.toInt32] [(.ref u0)])) (fun tz kz => ?_) ?_
              · show sT p e below T44 (mkF m 15 #[rv u0, .val (.long q1), sn, iv 31, iv j3, iv i2.toInt32] []) tz
                refine XS.aloadN X44.here hx rfl (hb hby own_d16_15) rfl rfl ?_
                exact kz
              obtain ⟨T45, X45, e45, st45⟩ := getF X44 hx hZ hown (host := "") (Or.inl (own_w hw 50 rfl)) Via.refl e44 Fsl (g := (mkF m 16 #[rv u0, .val (.long q1), sn, iv 31, iv j3, iv i2.toInt32] [(.ref u0)])) rfl rfl (hb hby own_d16_16)
              refine own_on (B := T45.setTop (mkF m 19 #[rv u0, .val (.long q1), sn, iv 31, iv j3, iv i2.toInt32] [(.ref sa)])) (fun tz kz => st45 _ kz) ?_
              refine own_on (B := T45.setTop (mkF m 21 #[rv u0, .val (.long q1), sn, iv 31, iv j3, iv i2.toInt32] [(.int j3), (.ref sa)])) (fun tz kz => ?_) ?_
              · show sT p e below T45 (mkF m 19 #[rv u0, .val (.long q1), sn, iv 31, iv j3, iv i2.toInt32] [(.ref sa)]) tz
                refine XS.iload X45.here hx rfl (hb hby own_d16_19) rfl ?_
                exact kz
              rcases hT.2 _ (own_lt32 lo3 hi3) with hA | ⟨i3, im3, iv3, is3⟩
              · obtain ⟨cl46, Ar46, q46, S46, M46, H46, G46⟩ := id Vs
                have hin47 : ¬ (j3 < 0 ∨ cl46.slots.size ≤ (j3).toNatClampNeg) := inb_of S46 ⟨lo3, hi3⟩
                have hat47 : cl46.slots[(j3).toNatClampNeg]? = some (.int (-1 : Int32)) := Has.at H46 hin47 hA
                refine own_on (B := T45.setTop (mkF m 46 #[rv u0, .val (.long q1), sn, iv 31, iv j3, iv (-1 : Int32)] [(.int j3)])) (fun tz kz => ?_) ?_
                · show sT p e below T45 (mkF m 21 #[rv u0, .val (.long q1), sn, iv 31, iv j3, iv i2.toInt32] [(.int j3), (.ref sa)]) tz
                  refine X45.iaload hx (j := j3) (v := (.int (-1 : Int32))) (by rw [e45]; exact Ar46.1) (State.isArrayOf_alike hZ.alike Ar46.2.1) Ar46.2.2 hin47 hat47 (g := (mkF m 21 #[rv u0, .val (.long q1), sn, iv 31, iv j3, iv i2.toInt32] [(.int j3), (.ref sa)])) rfl rfl (hb hby own_d16_21) _ ?_
                  show sT p e below T45 (mkF m 22 #[rv u0, .val (.long q1), sn, iv 31, iv j3, iv i2.toInt32] [(.int (-1 : Int32))]) tz
                  refine XS.istore X45.here hx rfl (hb hby own_d16_22) rfl (l' := #[rv u0, .val (.long q1), sn, iv 31, iv j3, iv (-1 : Int32)]) rfl ?_
                  show sT p e below T45 (mkF m 24 #[rv u0, .val (.long q1), sn, iv 31, iv j3, iv (-1 : Int32)] []) tz
                  refine XS.iload X45.here hx rfl (hb hby own_d16_24) rfl ?_
                  show sT p e below T45 (mkF m 26 #[rv u0, .val (.long q1), sn, iv 31, iv j3, iv (-1 : Int32)] [(.int (-1 : Int32))]) tz
                  refine XS.iconst X45.here hx rfl (hb hby own_d16_26) ?_
                  show sT p e below T45 (mkF m 27 #[rv u0, .val (.long q1), sn, iv 31, iv j3, iv (-1 : Int32)] [(.int (-1 : Int32)), (.int (-1 : Int32))]) tz
                  refine XS.icmpYes X45.here hx rfl (pc0 := 27) (pc' := 44) rfl (hb hby own_d16_27) rfl (teq rfl).1 (by decide) (by decide) ?_
                  show sT p e below T45 (mkF m 44 #[rv u0, .val (.long q1), sn, iv 31, iv j3, iv (-1 : Int32)] []) tz
                  refine XS.iload X45.here hx rfl (hb hby own_d16_44) rfl ?_
                  exact kz
                obtain ⟨fs, hr, hrun, hended, hW, hsame⟩ := X45.leave (v := some (.int j3)) (fun h => by rw [Bd.returns] at h; cases h)
                refine own_of ⟨_, _, ?_, hrun, hended, _, _, rfl, ?_, ⟨_, rfl⟩, hW, hsame.mono (by decide) (by decide)⟩
                · show sT p e below T45 (mkF m 46 #[rv u0, .val (.long q1), sn, iv 31, iv j3, iv (-1 : Int32)] [(.int j3)]) _
                  exact own_retI X45 hx Bd.returns (hb hby own_d16_46) hr
                · show Q16a Z u0 q1 sa ks vs S lc ja jc kj kl v0 v1 v2 v3 mm h0 n0 _ T45.heap _
                  rw [e45]
                  exact ⟨j3, rfl, lo3, hi3, Or.inl hA, N44, rfl⟩
              · exact (own_full hS (own_lt32 lo0 hi0) e1_ e2_ e3_ is0 is1 is2 is3).elim
theorem own_i2c {i m : Nat} (hi : i < m) (hm : m ≤ 4) : (i.toInt32.toUInt32.toUInt16.toUInt32.toInt32) = i.toInt32 ∧ nar .char i.toInt32 = i.toInt32 := by
  have h : i < 4 := Nat.lt_of_lt_of_le hi hm
  match i, h with | 0, _ => decide | 1, _ => decide | 2, _ => decide | 3, _ => decide
theorem own_ef_190 (m : MethodId) (x0 : Addr) (x1 : Int64) : entryFrame m #[(.ref x0), (.long x1)] 4 = mkF m 0 #[rv x0, .val (.long x1), .second, .unset] [] := by first | (simp [entryFrame, mkF, argsToLocals, Value.category]; done) | rfl
def Q190 (Z : State) (u0 : Addr) (q1 : Int64) (ja : Addr) (kj : ClassId) (h0 : Heap) (n0 : Nat) (v : Option Value) (h : Heap) (L : List Loc) : Prop := ∃ (jc : Addr) (kl : ClassId), v = none ∧ Fr n0 L ∧ Keep h0 h [u0, ja] ∧ h0.size ≤ jc ∧ Fld Z h u0 "com/example/vows_to_moves/vowstomoves/model/LongColumn" "size" "I" (.int (1 : Int32)) ∧ Fld Z h u0 "com/example/vows_to_moves/vowstomoves/model/LongColumn" "chunks" "[[J" (.ref ja) ∧ Arv Z h ja kj (.array .long) (4 : Int32) [(.ref jc), .null, .null, .null] .null ∧ Arv Z h jc kl .long (32768 : Int32) [.long q1, .long 0, .long 0, .long 0] (.long 0)
theorem own_d19_0 : decode prog_81_method_4_code 0 = .ok (.aload_n 0, 1) := by decide +kernel
theorem own_d19_1 : decode prog_81_method_4_code 1 = .ok (.getfield 15, 3) := by decide +kernel
theorem own_d19_4 : decode prog_81_method_4_code 4 = .ok (.bipush 15, 2) := by decide +kernel
theorem own_d19_6 : decode prog_81_method_4_code 6 = .ok (.iushr, 1) := by decide +kernel
theorem own_d19_7 : decode prog_81_method_4_code 7 = .ok (.istore_n 3, 1) := by decide +kernel
theorem own_d19_8 : decode prog_81_method_4_code 8 = .ok (.iload_n 3, 1) := by decide +kernel
theorem own_d19_9 : decode prog_81_method_4_code 9 = .ok (.aload_n 0, 1) := by decide +kernel
theorem own_d19_10 : decode prog_81_method_4_code 10 = .ok (.getfield 9, 3) := by decide +kernel
theorem own_d19_13 : decode prog_81_method_4_code 13 = .ok (.arraylength, 1) := by decide +kernel
theorem own_d19_14 : decode prog_81_method_4_code 14 = .ok (.if_icmp .ne 20, 3) := by decide +kernel
theorem own_d19_34 : decode prog_81_method_4_code 34 = .ok (.aload_n 0, 1) := by decide +kernel
theorem own_d19_35 : decode prog_81_method_4_code 35 = .ok (.getfield 9, 3) := by decide +kernel
theorem own_d19_38 : decode prog_81_method_4_code 38 = .ok (.iload_n 3, 1) := by decide +kernel
theorem own_d19_39 : decode prog_81_method_4_code 39 = .ok (.aaload, 1) := by decide +kernel
theorem own_d19_40 : decode prog_81_method_4_code 40 = .ok (.ifnonnull 13, 3) := by decide +kernel
theorem own_d19_43 : decode prog_81_method_4_code 43 = .ok (.aload_n 0, 1) := by decide +kernel
theorem own_d19_44 : decode prog_81_method_4_code 44 = .ok (.getfield 9, 3) := by decide +kernel
theorem own_d19_47 : decode prog_81_method_4_code 47 = .ok (.iload_n 3, 1) := by decide +kernel
theorem own_d19_48 : decode prog_81_method_4_code 48 = .ok (.ldc 28, 2) := by decide +kernel
theorem own_d19_50 : decode prog_81_method_4_code 50 = .ok (.newarray .long, 2) := by decide +kernel
theorem own_d19_52 : decode prog_81_method_4_code 52 = .ok (.aastore, 1) := by decide +kernel
theorem own_d19_53 : decode prog_81_method_4_code 53 = .ok (.aload_n 0, 1) := by decide +kernel
theorem own_d19_54 : decode prog_81_method_4_code 54 = .ok (.getfield 9, 3) := by decide +kernel
theorem own_d19_57 : decode prog_81_method_4_code 57 = .ok (.iload_n 3, 1) := by decide +kernel
theorem own_d19_58 : decode prog_81_method_4_code 58 = .ok (.aaload, 1) := by decide +kernel
theorem own_d19_59 : decode prog_81_method_4_code 59 = .ok (.aload_n 0, 1) := by decide +kernel
theorem own_d19_60 : decode prog_81_method_4_code 60 = .ok (.getfield 15, 3) := by decide +kernel
theorem own_d19_63 : decode prog_81_method_4_code 63 = .ok (.sipush 32767, 3) := by decide +kernel
theorem own_d19_66 : decode prog_81_method_4_code 66 = .ok (.iand, 1) := by decide +kernel
theorem own_d19_67 : decode prog_81_method_4_code 67 = .ok (.lload_n 1, 1) := by decide +kernel
theorem own_d19_68 : decode prog_81_method_4_code 68 = .ok (.lastore, 1) := by decide +kernel
theorem own_d19_69 : decode prog_81_method_4_code 69 = .ok (.aload_n 0, 1) := by decide +kernel
theorem own_d19_70 : decode prog_81_method_4_code 70 = .ok (.dup, 1) := by decide +kernel
theorem own_d19_71 : decode prog_81_method_4_code 71 = .ok (.getfield 15, 3) := by decide +kernel
theorem own_d19_74 : decode prog_81_method_4_code 74 = .ok (.iconst 1, 1) := by decide +kernel
theorem own_d19_75 : decode prog_81_method_4_code 75 = .ok (.iadd, 1) := by decide +kernel
theorem own_d19_76 : decode prog_81_method_4_code 76 = .ok (.putfield 15, 3) := by decide +kernel
theorem own_d19_79 : decode prog_81_method_4_code 79 = .ok (.return_, 1) := by decide +kernel
set_option maxRecDepth 65536 in
set_option maxHeartbeats 40000000 in
theorem rm190 (l : Launch) (Z : State) (a0 : Array Value) (hw : ∀ d ∈ tables_1, d.before a0 Z = true) (ws : List Jvm.Cond) (u0 : Addr) (q1 : Int64) (ja : Addr) (kj : ClassId) (h0 : Heap) (n0 : Nat) (O0 : Old Z n0 h0) (E_u0 : Exa Z h0 u0 "com/example/vows_to_moves/vowstomoves/model/LongColumn") (g_u0 : n0 ≤ u0) (Fc : Fld Z h0 u0 "com/example/vows_to_moves/vowstomoves/model/LongColumn" "chunks" "[[J" (.ref ja)) (Fs : Fld Z h0 u0 "com/example/vows_to_moves/vowstomoves/model/LongColumn" "size" "I" (.int (0 : Int32))) (Vj : Arv Z h0 ja kj (.array .long) (4 : Int32) [.null, .null, .null, .null] .null) (Oa : OvrA Z kj .long "[J") (o1 : @LT.lt Nat _ u0 ja) :
    MetFree l (⟨"com/example/vows_to_moves/vowstomoves/model/LongColumn", "add", "(J)V"⟩ : MethodName) (head1 (Jvm.Cond.code (⟨"com/example/vows_to_moves/vowstomoves/model/LongColumn", "add", "(J)V"⟩ : MethodName) prog_81_method_4_code 4 none :: ws) ({ frames := 0, cells := 1, slots := 32768, locals := 0 } : Room)) (fun a U => a = #[(.ref u0), (.long q1)] ∧ Z.Warmed39 U.vm ∧ U.heap = h0) (fun _ _ _ _ _ => True) (fun _ U o U' => ∃ v L, o = .returned v ∧ Q190 Z u0 q1 ja kj h0 n0 v U'.heap L ∧ FrameEnd U o U' L ({ frames := 0, cells := 1, slots := 32768, locals := 0 } : Room).cells ({ frames := 0, cells := 1, slots := 32768, locals := 0 } : Room).slots) := by
  refine MetFree.of_bodySF (plainFor_of_name own_pn_com_example_vows_to_moves_vowstomoves_model_LongColumn) hisR ?_
  intro p e s m args below meth c s₁ Bd hml0 hP hK
  obtain ⟨rfl, hZ, hh⟩ := hP
  have hx := Bd.exec
  have hby := Bd.bytes
  have hml : c.maxLocals = 4 := hml0
  have hown : s.vm.findClass "com/example/vows_to_moves/vowstomoves/model/LongColumn" = some m.cls := findClass_of_methodNamed Bd.named
  have hnm := (name_of_methodNamed Bd.named Bd.method).1
  have X0 : Stand p l e ({ frames := 0, cells := 1, slots := 32768, locals := 0 } : Room) s m #[(.ref u0), (.long q1)] below meth c s₁ [] 0 0 := Stand.of_body Bd
  have e0 : s₁.heap = h0 := by rw [← hh, Bd.state]; rfl
  have N0 := Fr.nil n0
  change Go p.tables e below _ _
  refine own_on (B := s₁.setTop (mkF m 0 #[rv u0, .val (.long q1), sn, un] [])) (fun tz kz => castTop (own_ef_190 m u0 q1) kz) ?_
  have ne_u0_ja : u0 ≠ ja := Nat.ne_of_lt (show @LT.lt Nat _ u0 ja by omega)
  have g_ja : n0 ≤ ja := (show @LE.le Nat _ n0 ja by omega)
  refine own_on (B := s₁.setTop (mkF m 1 #[rv u0, .val (.long q1), sn, un] [(.ref u0)])) (fun tz kz => ?_) ?_
  · show sT p e below s₁ (mkF m 0 #[rv u0, .val (.long q1), sn, un] []) tz
    refine XS.aloadN X0.here hx rfl (hb hby own_d19_0) rfl rfl ?_
    exact kz
  obtain ⟨T21, X21, e21, st21⟩ := getF X0 hx hZ hown (host := "") (Or.inl (own_w hw 96 rfl)) Via.refl e0 Fs (g := (mkF m 1 #[rv u0, .val (.long q1), sn, un] [(.ref u0)])) rfl rfl (hb hby own_d19_1)
  refine own_on (B := T21.setTop (mkF m 4 #[rv u0, .val (.long q1), sn, un] [(.int 0)])) (fun tz kz => st21 _ kz) ?_
  refine own_on (B := T21.setTop (mkF m 10 #[rv u0, .val (.long q1), sn, iv 0] [(.ref u0), (.int 0)])) (fun tz kz => ?_) ?_
  · show sT p e below T21 (mkF m 4 #[rv u0, .val (.long q1), sn, un] [(.int 0)]) tz
    refine XS.bipush X21.here hx rfl (hb hby own_d19_4) ?_
    show sT p e below T21 (mkF m 6 #[rv u0, .val (.long q1), sn, un] [(.int 15), (.int 0)]) tz
    refine XS.iushr X21.here hx rfl (hb hby own_d19_6) rfl ?_
    show sT p e below T21 (mkF m 7 #[rv u0, .val (.long q1), sn, un] [(.int 0)]) tz
    refine XS.istoreN X21.here hx rfl (hb hby own_d19_7) rfl (l' := #[rv u0, .val (.long q1), sn, iv 0]) rfl ?_
    show sT p e below T21 (mkF m 8 #[rv u0, .val (.long q1), sn, iv 0] []) tz
    refine XS.iloadN X21.here hx rfl (hb hby own_d19_8) rfl ?_
    show sT p e below T21 (mkF m 9 #[rv u0, .val (.long q1), sn, iv 0] [(.int 0)]) tz
    refine XS.aloadN X21.here hx rfl (hb hby own_d19_9) rfl rfl ?_
    exact kz
  obtain ⟨T22, X22, e22, st22⟩ := getF X21 hx hZ hown (host := "") (Or.inl (own_w hw 25 rfl)) Via.refl e21 Fc (g := (mkF m 10 #[rv u0, .val (.long q1), sn, iv 0] [(.ref u0), (.int 0)])) rfl rfl (hb hby own_d19_10)
  refine own_on (B := T22.setTop (mkF m 13 #[rv u0, .val (.long q1), sn, iv 0] [(.ref ja), (.int 0)])) (fun tz kz => st22 _ kz) ?_
  obtain ⟨cl23, Ar23, q23, S23, M23, H23, G23⟩ := id Vj
  refine own_on (B := T22.setTop (mkF m 35 #[rv u0, .val (.long q1), sn, iv 0] [(.ref u0)])) (fun tz kz => ?_) ?_
  · show sT p e below T22 (mkF m 13 #[rv u0, .val (.long q1), sn, iv 0] [(.ref ja), (.int 0)]) tz
    refine X22.arraylength hx (by rw [e22]; exact Ar23.1) (State.isArrayOf_alike hZ.alike Ar23.2.1) (g := (mkF m 13 #[rv u0, .val (.long q1), sn, iv 0] [(.ref ja), (.int 0)])) rfl rfl (hb hby own_d19_13) _ ?_
    rw [len_of S23 M23]
    show sT p e below T22 (mkF m 14 #[rv u0, .val (.long q1), sn, iv 0] [(.int 4), (.int 0)]) tz
    refine XS.icmpYes X22.here hx rfl (pc0 := 14) (pc' := 34) rfl (hb hby own_d19_14) rfl (feq (by decide : ¬ ((0 : Int32) = (4 : Int32)))).2 (by decide) (by decide) ?_
    show sT p e below T22 (mkF m 34 #[rv u0, .val (.long q1), sn, iv 0] []) tz
    refine XS.aloadN X22.here hx rfl (hb hby own_d19_34) rfl rfl ?_
    exact kz
  obtain ⟨T24, X24, e24, st24⟩ := getF X22 hx hZ hown (host := "") (Or.inl (own_w hw 25 rfl)) Via.refl e22 Fc (g := (mkF m 35 #[rv u0, .val (.long q1), sn, iv 0] [(.ref u0)])) rfl rfl (hb hby own_d19_35)
  refine own_on (B := T24.setTop (mkF m 38 #[rv u0, .val (.long q1), sn, iv 0] [(.ref ja)])) (fun tz kz => st24 _ kz) ?_
  refine own_on (B := T24.setTop (mkF m 39 #[rv u0, .val (.long q1), sn, iv 0] [(.int 0), (.ref ja)])) (fun tz kz => ?_) ?_
  · show sT p e below T24 (mkF m 38 #[rv u0, .val (.long q1), sn, iv 0] [(.ref ja)]) tz
    refine XS.iloadN X24.here hx rfl (hb hby own_d19_38) rfl ?_
    exact kz
  obtain ⟨cl25, Ar25, q25, S25, M25, H25, G25⟩ := id Vj
  have hin26 : ¬ ((0 : Int32) < 0 ∨ cl25.slots.size ≤ ((0 : Int32)).toNatClampNeg) := inb_of S25 ⟨by decide, by decide⟩
  have hat26 : cl25.slots[((0 : Int32)).toNatClampNeg]? = some .null := Has.at H25 hin26 rfl
  refine own_on (B := T24.setTop (mkF m 44 #[rv u0, .val (.long q1), sn, iv 0] [(.ref u0)])) (fun tz kz => ?_) ?_
  · show sT p e below T24 (mkF m 39 #[rv u0, .val (.long q1), sn, iv 0] [(.int 0), (.ref ja)]) tz
    refine X24.aaload hx (j := (0 : Int32)) (v := .null) (by rw [e24]; exact Ar25.1) (State.isArrayOf_alike hZ.alike Ar25.2.1) rfl Ar25.2.2 hin26 hat26 (g := (mkF m 39 #[rv u0, .val (.long q1), sn, iv 0] [(.int 0), (.ref ja)])) rfl rfl (hb hby own_d19_39) _ ?_
    show sT p e below T24 (mkF m 40 #[rv u0, .val (.long q1), sn, iv 0] [.null]) tz
    refine XS.ifnonnullNo X24.here hx rfl (hb hby own_d19_40) rfl ?_
    show sT p e below T24 (mkF m 43 #[rv u0, .val (.long q1), sn, iv 0] []) tz
    refine XS.aloadN X24.here hx rfl (hb hby own_d19_43) rfl rfl ?_
    exact kz
  obtain ⟨T27, X27, e27, st27⟩ := getF X24 hx hZ hown (host := "") (Or.inl (own_w hw 25 rfl)) Via.refl e24 Fc (g := (mkF m 44 #[rv u0, .val (.long q1), sn, iv 0] [(.ref u0)])) rfl rfl (hb hby own_d19_44)
  refine own_on (B := T27.setTop (mkF m 47 #[rv u0, .val (.long q1), sn, iv 0] [(.ref ja)])) (fun tz kz => st27 _ kz) ?_
  refine own_on (B := T27.setTop (mkF m 50 #[rv u0, .val (.long q1), sn, iv 0] [(.int 32768), (.int 0), (.ref ja)])) (fun tz kz => ?_) ?_
  · show sT p e below T27 (mkF m 47 #[rv u0, .val (.long q1), sn, iv 0] [(.ref ja)]) tz
    refine XS.iloadN X27.here hx rfl (hb hby own_d19_47) rfl ?_
    show sT p e below T27 (mkF m 48 #[rv u0, .val (.long q1), sn, iv 0] [(.int 0), (.ref ja)]) tz
    refine X27.ldcInt hx hown (mvT hZ (own_w hw 122 rfl)) (g := (mkF m 48 #[rv u0, .val (.long q1), sn, iv 0] [(.int 0), (.ref ja)])) rfl (hb hby own_d19_48) _ ?_
    exact kz
  obtain ⟨T28, h28, k28, X28, e28, E28, A28, Ex28, st28⟩ := newPE X27 hx hZ (own_w hw 123 rfl) e27 (g := (mkF m 50 #[rv u0, .val (.long q1), sn, iv 0] [(.int 32768), (.int 0), (.ref ja)])) rfl (hb hby own_d19_50) rfl (by decide) (cap := 32768) (by decide) (by decide) (by decide) (by decide) (ad := "[J") (by decide)
  obtain ⟨b28, g28⟩ : ∃ z, z = h0.size := ⟨_, rfl⟩
  rw [← g28] at A28 st28
  rw [← g28] at Ex28
  have ne_u0_b28 : u0 ≠ b28 := Nat.ne_of_lt (Nat.lt_of_lt_of_le (E_u0).lt (Nat.le_of_eq g28.symm))
  have lne_u0_b28 : @LT.lt Nat _ u0 b28 := Nat.lt_of_lt_of_le (E_u0).lt (Nat.le_of_eq g28.symm)
  have ne_ja_b28 : ja ≠ b28 := Nat.ne_of_lt (Nat.lt_of_lt_of_le (Vj).lt (Nat.le_of_eq g28.symm))
  have lne_ja_b28 : @LT.lt Nat _ ja b28 := Nat.lt_of_lt_of_le (Vj).lt (Nat.le_of_eq g28.symm)
  have g_b28 : n0 ≤ b28 := Nat.le_trans (own_old O0) (Nat.le_of_eq g28.symm)
  have sz_b28 : h0.size ≤ b28 := Nat.le_trans (Keep.refl h0 [u0, ja]).1 (Nat.le_of_eq g28.symm)
  have O29 := O0.ext E28
  have K29 : Keep h0 h28 [u0, ja] := (Keep.refl h0 [u0, ja]).ext E28
  have V28 : Arv Z h28 b28 k28 .long (32768 : Int32) [] (.long (0 : Int64)) := Arv.new A28 (by decide)
  refine own_on (B := T28.setTop (mkF m 52 #[rv u0, .val (.long q1), sn, iv 0] [(.ref b28), (.int 0), (.ref ja)])) (fun tz kz => st28 _ kz) ?_
  have Vp : Arv Z h28 b28 k28 .long (32768 : Int32) [.long 0, .long 0, .long 0, .long 0] (.long 0) := Arv.pad V28 (pad_rep [] (.long 0) 4)
  have f_30 := (Vj.ext E28)
  obtain ⟨cl31, Ar31, q31, S31, M31, H31, G31⟩ := id f_30
  have hin32 : ¬ ((0 : Int32) < 0 ∨ cl31.slots.size ≤ ((0 : Int32)).toNatClampNeg) := inb_of S31 ⟨by decide, by decide⟩
  obtain ⟨T32, h32, X32, e32, W32, st32⟩ := stR X28 hx hZ e28 Ar31 (j := (0 : Int32)) (v := (.ref b28)) hin32 rfl (Sto.ofVA Ar31 q31 Oa (Ins.self Ex28)) (g := (mkF m 52 #[rv u0, .val (.long q1), sn, iv 0] [(.ref b28), (.int 0), (.ref ja)])) rfl rfl (hb hby own_d19_52)
  have V32 : Arv Z h32 ja kj (.array .long) (4 : Int32) [(.ref b28), .null, .null, .null] .null := Arv.set Ar31 q31 S31 M31 H31 G31 rfl W32 0 rfl (Nat.le_of_ble_eq_true rfl)
  have N32 := Fr.snoc X32 N0 g_ja
  have O33 := O29.wr W32 g_ja
  have K33 : Keep h0 h32 [u0, ja] := K29.wr W32 (Or.inl (List.mem_of_getElem? (i := 1) rfl))
  refine own_on (B := T32.setTop (mkF m 53 #[rv u0, .val (.long q1), sn, iv 0] [])) (fun tz kz => st32 _ kz) ?_
  refine own_on (B := T32.setTop (mkF m 54 #[rv u0, .val (.long q1), sn, iv 0] [(.ref u0)])) (fun tz kz => ?_) ?_
  · show sT p e below T32 (mkF m 53 #[rv u0, .val (.long q1), sn, iv 0] []) tz
    refine XS.aloadN X32.here hx rfl (hb hby own_d19_53) rfl rfl ?_
    exact kz
  have f_34 := ((Fc.ext E28).other W32 (Or.inl ne_u0_ja))
  obtain ⟨T35, X35, e35, st35⟩ := getF X32 hx hZ hown (host := "") (Or.inl (own_w hw 25 rfl)) Via.refl e32 f_34 (g := (mkF m 54 #[rv u0, .val (.long q1), sn, iv 0] [(.ref u0)])) rfl rfl (hb hby own_d19_54)
  refine own_on (B := T35.setTop (mkF m 57 #[rv u0, .val (.long q1), sn, iv 0] [(.ref ja)])) (fun tz kz => st35 _ kz) ?_
  refine own_on (B := T35.setTop (mkF m 58 #[rv u0, .val (.long q1), sn, iv 0] [(.int 0), (.ref ja)])) (fun tz kz => ?_) ?_
  · show sT p e below T35 (mkF m 57 #[rv u0, .val (.long q1), sn, iv 0] [(.ref ja)]) tz
    refine XS.iloadN X35.here hx rfl (hb hby own_d19_57) rfl ?_
    exact kz
  obtain ⟨cl36, Ar36, q36, S36, M36, H36, G36⟩ := id V32
  have hin37 : ¬ ((0 : Int32) < 0 ∨ cl36.slots.size ≤ ((0 : Int32)).toNatClampNeg) := inb_of S36 ⟨by decide, by decide⟩
  have hat37 : cl36.slots[((0 : Int32)).toNatClampNeg]? = some (.ref b28) := Has.at H36 hin37 rfl
  refine own_on (B := T35.setTop (mkF m 60 #[rv u0, .val (.long q1), sn, iv 0] [(.ref u0), (.ref b28)])) (fun tz kz => ?_) ?_
  · show sT p e below T35 (mkF m 58 #[rv u0, .val (.long q1), sn, iv 0] [(.int 0), (.ref ja)]) tz
    refine X35.aaload hx (j := (0 : Int32)) (v := (.ref b28)) (by rw [e35]; exact Ar36.1) (State.isArrayOf_alike hZ.alike Ar36.2.1) rfl Ar36.2.2 hin37 hat37 (g := (mkF m 58 #[rv u0, .val (.long q1), sn, iv 0] [(.int 0), (.ref ja)])) rfl rfl (hb hby own_d19_58) _ ?_
    show sT p e below T35 (mkF m 59 #[rv u0, .val (.long q1), sn, iv 0] [(.ref b28)]) tz
    refine XS.aloadN X35.here hx rfl (hb hby own_d19_59) rfl rfl ?_
    exact kz
  have f_38 := ((Fs.ext E28).other W32 (Or.inl ne_u0_ja))
  obtain ⟨T39, X39, e39, st39⟩ := getF X35 hx hZ hown (host := "") (Or.inl (own_w hw 96 rfl)) Via.refl e35 f_38 (g := (mkF m 60 #[rv u0, .val (.long q1), sn, iv 0] [(.ref u0), (.ref b28)])) rfl rfl (hb hby own_d19_60)
  refine own_on (B := T39.setTop (mkF m 63 #[rv u0, .val (.long q1), sn, iv 0] [(.int 0), (.ref b28)])) (fun tz kz => st39 _ kz) ?_
  refine own_on (B := T39.setTop (mkF m 68 #[rv u0, .val (.long q1), sn, iv 0] [(.long q1), (.int 0), (.ref b28)])) (fun tz kz => ?_) ?_
  · show sT p e below T39 (mkF m 63 #[rv u0, .val (.long q1), sn, iv 0] [(.int 0), (.ref b28)]) tz
    refine XS.sipush X39.here hx rfl (hb hby own_d19_63) ?_
    show sT p e below T39 (mkF m 66 #[rv u0, .val (.long q1), sn, iv 0] [(.int 32767), (.int 0), (.ref b28)]) tz
    refine XS.iand X39.here hx rfl (hb hby own_d19_66) rfl ?_
    show sT p e below T39 (mkF m 67 #[rv u0, .val (.long q1), sn, iv 0] [(.int 0), (.ref b28)]) tz
    refine XS.lloadN X39.here hx rfl (hb hby own_d19_67) rfl ?_
    exact kz
  have f_40 := (Vp.other W32 (Ne.symm ne_ja_b28))
  obtain ⟨cl41, Ar41, q41, S41, M41, H41, G41⟩ := id f_40
  have hin42 : ¬ ((0 : Int32) < 0 ∨ cl41.slots.size ≤ ((0 : Int32)).toNatClampNeg) := inb_of S41 ⟨by decide, by decide⟩
  obtain ⟨T42, h42, X42, e42, W42, st42⟩ := stJ X39 hx hZ e39 Ar41 (j := (0 : Int32)) hin42 (g := (mkF m 68 #[rv u0, .val (.long q1), sn, iv 0] [(.long q1), (.int 0), (.ref b28)])) rfl rfl (hb hby own_d19_68)
  have V42 : Arv Z h42 b28 k28 .long (32768 : Int32) [(.long q1), (.long 0), (.long 0), (.long 0)] (.long 0) := Arv.set Ar41 q41 S41 M41 H41 G41 rfl W42 0 rfl (Nat.le_of_ble_eq_true rfl)
  have N42 := Fr.snoc X42 N32 g_b28
  have O43 := O33.wr W42 g_b28
  have K43 : Keep h0 h42 [u0, ja] := K33.wr W42 (Or.inr sz_b28)
  refine own_on (B := T42.setTop (mkF m 69 #[rv u0, .val (.long q1), sn, iv 0] [])) (fun tz kz => st42 _ kz) ?_
  refine own_on (B := T42.setTop (mkF m 71 #[rv u0, .val (.long q1), sn, iv 0] [(.ref u0), (.ref u0)])) (fun tz kz => ?_) ?_
  · show sT p e below T42 (mkF m 69 #[rv u0, .val (.long q1), sn, iv 0] []) tz
    refine XS.aloadN X42.here hx rfl (hb hby own_d19_69) rfl rfl ?_
    show sT p e below T42 (mkF m 70 #[rv u0, .val (.long q1), sn, iv 0] [(.ref u0)]) tz
    refine XS.dup X42.here hx rfl (hb hby own_d19_70) rfl rfl ?_
    exact kz
  have f_44 := (f_38.other W42 (Or.inl ne_u0_b28))
  obtain ⟨T45, X45, e45, st45⟩ := getF X42 hx hZ hown (host := "") (Or.inl (own_w hw 96 rfl)) Via.refl e42 f_44 (g := (mkF m 71 #[rv u0, .val (.long q1), sn, iv 0] [(.ref u0), (.ref u0)])) rfl rfl (hb hby own_d19_71)
  refine own_on (B := T45.setTop (mkF m 74 #[rv u0, .val (.long q1), sn, iv 0] [(.int 0), (.ref u0)])) (fun tz kz => st45 _ kz) ?_
  refine own_on (B := T45.setTop (mkF m 76 #[rv u0, .val (.long q1), sn, iv 0] [(.int 1), (.ref u0)])) (fun tz kz => ?_) ?_
  · show sT p e below T45 (mkF m 74 #[rv u0, .val (.long q1), sn, iv 0] [(.int 0), (.ref u0)]) tz
    refine XS.iconst X45.here hx rfl (hb hby own_d19_74) ?_
    show sT p e below T45 (mkF m 75 #[rv u0, .val (.long q1), sn, iv 0] [(.int 1), (.int 0), (.ref u0)]) tz
    refine XS.iadd X45.here hx rfl (hb hby own_d19_75) rfl ?_
    exact kz
  have f_46 := (((E_u0.ext E28).wr W32).wr W42)
  obtain ⟨T47, h47, X47, e47, W47, st47⟩ := putF X45 hx hZ hown (host := "") (Or.inl (own_w hw 96 rfl)) Via.refl e45 f_44 f_46 (Or.inl (own_w hw 97 rfl)) (own_w hw 17 rfl) (ty := .int) (by decide) rfl rfl (g := (mkF m 76 #[rv u0, .val (.long q1), sn, iv 0] [(.int 1), (.ref u0)])) rfl rfl (hb hby own_d19_76)
  have Fw47 := f_44.same W47
  have N47 := Fr.snoc X47 N42 g_u0
  have O48 := O43.wr W47 g_u0
  have K48 : Keep h0 h47 [u0, ja] := K43.wr W47 (Or.inl (List.mem_of_getElem? (i := 0) rfl))
  refine own_on (B := T47.setTop (mkF m 79 #[rv u0, .val (.long q1), sn, iv 0] [])) (fun tz kz => st47 _ kz) ?_
  have f_49 := ((f_34.other W42 (Or.inl ne_u0_b28)).other W47 (Or.inr (slot_ne (Or.inl (own_w hw 26 rfl)) (Or.inl (own_w hw 97 rfl)) (by decide) (t := (.array (.array .long))) (t' := .int) (by decide) (by decide))))
  have f_50 := ((V32.other W42 ne_ja_b28).other W47 (Ne.symm ne_u0_ja))
  have f_51 := (V42.other W47 (Ne.symm ne_u0_b28))
  obtain ⟨fs, hr, hrun, hended, hW, hsame⟩ := X47.leave (v := none) (fun _ => rfl)
  refine own_of ⟨_, _, ?_, hrun, hended, _, _, rfl, ?_, ⟨_, rfl⟩, hW, hsame.mono (by decide) (by decide)⟩
  · show sT p e below T47 (mkF m 79 #[rv u0, .val (.long q1), sn, iv 0] []) _
    exact X47.returnOut hx Bd.returns (hb hby own_d19_79) hr
  · show Q190 Z u0 q1 ja kj h0 n0 _ T47.heap _
    rw [e47]
    exact ⟨b28, k28, rfl, N47, K48, sz_b28, Fw47, f_49, f_50, f_51⟩
theorem own_ef_191 (m : MethodId) (x0 : Addr) (x1 : Int64) : entryFrame m #[(.ref x0), (.long x1)] 4 = mkF m 0 #[rv x0, .val (.long x1), .second, .unset] [] := by first | (simp [entryFrame, mkF, argsToLocals, Value.category]; done) | rfl
def Q191 (Z : State) (u0 : Addr) (q1 : Int64) (ja : Addr) (jc : Addr) (kj : ClassId) (kl : ClassId) (w0 : Int64) (w1 : Int64) (w2 : Int64) (w3 : Int64) (h0 : Heap) (n0 : Nat) (v : Option Value) (h : Heap) (L : List Loc) : Prop := v = none ∧ Fr n0 L ∧ Keep h0 h [u0, jc] ∧ Fld Z h u0 "com/example/vows_to_moves/vowstomoves/model/LongColumn" "size" "I" (.int (2 : Int32)) ∧ Fld Z h u0 "com/example/vows_to_moves/vowstomoves/model/LongColumn" "chunks" "[[J" (.ref ja) ∧ Arv Z h jc kl .long (32768 : Int32) [(.long w0), (.long q1), (.long w2), (.long w3)] (.long 0)
set_option maxRecDepth 65536 in
set_option maxHeartbeats 40000000 in
theorem rm191 (l : Launch) (Z : State) (a0 : Array Value) (hw : ∀ d ∈ tables_1, d.before a0 Z = true) (ws : List Jvm.Cond) (u0 : Addr) (q1 : Int64) (ja : Addr) (jc : Addr) (kj : ClassId) (kl : ClassId) (w0 : Int64) (w1 : Int64) (w2 : Int64) (w3 : Int64) (h0 : Heap) (n0 : Nat) (O0 : Old Z n0 h0) (E_u0 : Exa Z h0 u0 "com/example/vows_to_moves/vowstomoves/model/LongColumn") (g_u0 : n0 ≤ u0) (Fc : Fld Z h0 u0 "com/example/vows_to_moves/vowstomoves/model/LongColumn" "chunks" "[[J" (.ref ja)) (Fs : Fld Z h0 u0 "com/example/vows_to_moves/vowstomoves/model/LongColumn" "size" "I" (.int (1 : Int32))) (Vj : Arv Z h0 ja kj (.array .long) (4 : Int32) [(.ref jc), .null, .null, .null] .null) (Vl : Arv Z h0 jc kl .long (32768 : Int32) [(.long w0), (.long w1), (.long w2), (.long w3)] (.long 0)) (o1 : @LT.lt Nat _ u0 ja ∧ @LT.lt Nat _ ja jc) :
    MetFree l (⟨"com/example/vows_to_moves/vowstomoves/model/LongColumn", "add", "(J)V"⟩ : MethodName) (head1 (Jvm.Cond.code (⟨"com/example/vows_to_moves/vowstomoves/model/LongColumn", "add", "(J)V"⟩ : MethodName) prog_81_method_4_code 4 none :: ws) ({ frames := 0, cells := 0, slots := 0, locals := 0 } : Room)) (fun a U => a = #[(.ref u0), (.long q1)] ∧ Z.Warmed39 U.vm ∧ U.heap = h0) (fun _ _ _ _ _ => True) (fun _ U o U' => ∃ v L, o = .returned v ∧ Q191 Z u0 q1 ja jc kj kl w0 w1 w2 w3 h0 n0 v U'.heap L ∧ FrameEnd U o U' L ({ frames := 0, cells := 0, slots := 0, locals := 0 } : Room).cells ({ frames := 0, cells := 0, slots := 0, locals := 0 } : Room).slots) := by
  refine MetFree.of_bodySF (plainFor_of_name own_pn_com_example_vows_to_moves_vowstomoves_model_LongColumn) hisR ?_
  intro p e s m args below meth c s₁ Bd hml0 hP hK
  obtain ⟨rfl, hZ, hh⟩ := hP
  have hx := Bd.exec
  have hby := Bd.bytes
  have hml : c.maxLocals = 4 := hml0
  have hown : s.vm.findClass "com/example/vows_to_moves/vowstomoves/model/LongColumn" = some m.cls := findClass_of_methodNamed Bd.named
  have hnm := (name_of_methodNamed Bd.named Bd.method).1
  have X0 : Stand p l e ({ frames := 0, cells := 0, slots := 0, locals := 0 } : Room) s m #[(.ref u0), (.long q1)] below meth c s₁ [] 0 0 := Stand.of_body Bd
  have e0 : s₁.heap = h0 := by rw [← hh, Bd.state]; rfl
  have N0 := Fr.nil n0
  change Go p.tables e below _ _
  refine own_on (B := s₁.setTop (mkF m 0 #[rv u0, .val (.long q1), sn, un] [])) (fun tz kz => castTop (own_ef_191 m u0 q1) kz) ?_
  have ne_u0_ja : u0 ≠ ja := Nat.ne_of_lt (show @LT.lt Nat _ u0 ja by omega)
  have ne_u0_jc : u0 ≠ jc := Nat.ne_of_lt (show @LT.lt Nat _ u0 jc by omega)
  have ne_ja_jc : ja ≠ jc := Nat.ne_of_lt (show @LT.lt Nat _ ja jc by omega)
  have g_ja : n0 ≤ ja := (show @LE.le Nat _ n0 ja by omega)
  have g_jc : n0 ≤ jc := (show @LE.le Nat _ n0 jc by omega)
  refine own_on (B := s₁.setTop (mkF m 1 #[rv u0, .val (.long q1), sn, un] [(.ref u0)])) (fun tz kz => ?_) ?_
  · show sT p e below s₁ (mkF m 0 #[rv u0, .val (.long q1), sn, un] []) tz
    refine XS.aloadN X0.here hx rfl (hb hby own_d19_0) rfl rfl ?_
    exact kz
  obtain ⟨T21, X21, e21, st21⟩ := getF X0 hx hZ hown (host := "") (Or.inl (own_w hw 96 rfl)) Via.refl e0 Fs (g := (mkF m 1 #[rv u0, .val (.long q1), sn, un] [(.ref u0)])) rfl rfl (hb hby own_d19_1)
  refine own_on (B := T21.setTop (mkF m 4 #[rv u0, .val (.long q1), sn, un] [(.int 1)])) (fun tz kz => st21 _ kz) ?_
  refine own_on (B := T21.setTop (mkF m 10 #[rv u0, .val (.long q1), sn, iv 0] [(.ref u0), (.int 0)])) (fun tz kz => ?_) ?_
  · show sT p e below T21 (mkF m 4 #[rv u0, .val (.long q1), sn, un] [(.int 1)]) tz
    refine XS.bipush X21.here hx rfl (hb hby own_d19_4) ?_
    show sT p e below T21 (mkF m 6 #[rv u0, .val (.long q1), sn, un] [(.int 15), (.int 1)]) tz
    refine XS.iushr X21.here hx rfl (hb hby own_d19_6) rfl ?_
    show sT p e below T21 (mkF m 7 #[rv u0, .val (.long q1), sn, un] [(.int 0)]) tz
    refine XS.istoreN X21.here hx rfl (hb hby own_d19_7) rfl (l' := #[rv u0, .val (.long q1), sn, iv 0]) rfl ?_
    show sT p e below T21 (mkF m 8 #[rv u0, .val (.long q1), sn, iv 0] []) tz
    refine XS.iloadN X21.here hx rfl (hb hby own_d19_8) rfl ?_
    show sT p e below T21 (mkF m 9 #[rv u0, .val (.long q1), sn, iv 0] [(.int 0)]) tz
    refine XS.aloadN X21.here hx rfl (hb hby own_d19_9) rfl rfl ?_
    exact kz
  obtain ⟨T22, X22, e22, st22⟩ := getF X21 hx hZ hown (host := "") (Or.inl (own_w hw 25 rfl)) Via.refl e21 Fc (g := (mkF m 10 #[rv u0, .val (.long q1), sn, iv 0] [(.ref u0), (.int 0)])) rfl rfl (hb hby own_d19_10)
  refine own_on (B := T22.setTop (mkF m 13 #[rv u0, .val (.long q1), sn, iv 0] [(.ref ja), (.int 0)])) (fun tz kz => st22 _ kz) ?_
  obtain ⟨cl23, Ar23, q23, S23, M23, H23, G23⟩ := id Vj
  refine own_on (B := T22.setTop (mkF m 35 #[rv u0, .val (.long q1), sn, iv 0] [(.ref u0)])) (fun tz kz => ?_) ?_
  · show sT p e below T22 (mkF m 13 #[rv u0, .val (.long q1), sn, iv 0] [(.ref ja), (.int 0)]) tz
    refine X22.arraylength hx (by rw [e22]; exact Ar23.1) (State.isArrayOf_alike hZ.alike Ar23.2.1) (g := (mkF m 13 #[rv u0, .val (.long q1), sn, iv 0] [(.ref ja), (.int 0)])) rfl rfl (hb hby own_d19_13) _ ?_
    rw [len_of S23 M23]
    show sT p e below T22 (mkF m 14 #[rv u0, .val (.long q1), sn, iv 0] [(.int 4), (.int 0)]) tz
    refine XS.icmpYes X22.here hx rfl (pc0 := 14) (pc' := 34) rfl (hb hby own_d19_14) rfl (feq (by decide : ¬ ((0 : Int32) = (4 : Int32)))).2 (by decide) (by decide) ?_
    show sT p e below T22 (mkF m 34 #[rv u0, .val (.long q1), sn, iv 0] []) tz
    refine XS.aloadN X22.here hx rfl (hb hby own_d19_34) rfl rfl ?_
    exact kz
  obtain ⟨T24, X24, e24, st24⟩ := getF X22 hx hZ hown (host := "") (Or.inl (own_w hw 25 rfl)) Via.refl e22 Fc (g := (mkF m 35 #[rv u0, .val (.long q1), sn, iv 0] [(.ref u0)])) rfl rfl (hb hby own_d19_35)
  refine own_on (B := T24.setTop (mkF m 38 #[rv u0, .val (.long q1), sn, iv 0] [(.ref ja)])) (fun tz kz => st24 _ kz) ?_
  refine own_on (B := T24.setTop (mkF m 39 #[rv u0, .val (.long q1), sn, iv 0] [(.int 0), (.ref ja)])) (fun tz kz => ?_) ?_
  · show sT p e below T24 (mkF m 38 #[rv u0, .val (.long q1), sn, iv 0] [(.ref ja)]) tz
    refine XS.iloadN X24.here hx rfl (hb hby own_d19_38) rfl ?_
    exact kz
  obtain ⟨cl25, Ar25, q25, S25, M25, H25, G25⟩ := id Vj
  have hin26 : ¬ ((0 : Int32) < 0 ∨ cl25.slots.size ≤ ((0 : Int32)).toNatClampNeg) := inb_of S25 ⟨by decide, by decide⟩
  have hat26 : cl25.slots[((0 : Int32)).toNatClampNeg]? = some (.ref jc) := Has.at H25 hin26 rfl
  refine own_on (B := T24.setTop (mkF m 54 #[rv u0, .val (.long q1), sn, iv 0] [(.ref u0)])) (fun tz kz => ?_) ?_
  · show sT p e below T24 (mkF m 39 #[rv u0, .val (.long q1), sn, iv 0] [(.int 0), (.ref ja)]) tz
    refine X24.aaload hx (j := (0 : Int32)) (v := (.ref jc)) (by rw [e24]; exact Ar25.1) (State.isArrayOf_alike hZ.alike Ar25.2.1) rfl Ar25.2.2 hin26 hat26 (g := (mkF m 39 #[rv u0, .val (.long q1), sn, iv 0] [(.int 0), (.ref ja)])) rfl rfl (hb hby own_d19_39) _ ?_
    show sT p e below T24 (mkF m 40 #[rv u0, .val (.long q1), sn, iv 0] [(.ref jc)]) tz
    refine XS.ifnonnullYes X24.here hx rfl (pc0 := 40) (pc' := 53) rfl (hb hby own_d19_40) rfl (by decide) (by decide) ?_
    show sT p e below T24 (mkF m 53 #[rv u0, .val (.long q1), sn, iv 0] []) tz
    refine XS.aloadN X24.here hx rfl (hb hby own_d19_53) rfl rfl ?_
    exact kz
  obtain ⟨T27, X27, e27, st27⟩ := getF X24 hx hZ hown (host := "") (Or.inl (own_w hw 25 rfl)) Via.refl e24 Fc (g := (mkF m 54 #[rv u0, .val (.long q1), sn, iv 0] [(.ref u0)])) rfl rfl (hb hby own_d19_54)
  refine own_on (B := T27.setTop (mkF m 57 #[rv u0, .val (.long q1), sn, iv 0] [(.ref ja)])) (fun tz kz => st27 _ kz) ?_
  refine own_on (B := T27.setTop (mkF m 58 #[rv u0, .val (.long q1), sn, iv 0] [(.int 0), (.ref ja)])) (fun tz kz => ?_) ?_
  · show sT p e below T27 (mkF m 57 #[rv u0, .val (.long q1), sn, iv 0] [(.ref ja)]) tz
    refine XS.iloadN X27.here hx rfl (hb hby own_d19_57) rfl ?_
    exact kz
  obtain ⟨cl28, Ar28, q28, S28, M28, H28, G28⟩ := id Vj
  have hin29 : ¬ ((0 : Int32) < 0 ∨ cl28.slots.size ≤ ((0 : Int32)).toNatClampNeg) := inb_of S28 ⟨by decide, by decide⟩
  have hat29 : cl28.slots[((0 : Int32)).toNatClampNeg]? = some (.ref jc) := Has.at H28 hin29 rfl
  refine own_on (B := T27.setTop (mkF m 60 #[rv u0, .val (.long q1), sn, iv 0] [(.ref u0), (.ref jc)])) (fun tz kz => ?_) ?_
  · show sT p e below T27 (mkF m 58 #[rv u0, .val (.long q1), sn, iv 0] [(.int 0), (.ref ja)]) tz
    refine X27.aaload hx (j := (0 : Int32)) (v := (.ref jc)) (by rw [e27]; exact Ar28.1) (State.isArrayOf_alike hZ.alike Ar28.2.1) rfl Ar28.2.2 hin29 hat29 (g := (mkF m 58 #[rv u0, .val (.long q1), sn, iv 0] [(.int 0), (.ref ja)])) rfl rfl (hb hby own_d19_58) _ ?_
    show sT p e below T27 (mkF m 59 #[rv u0, .val (.long q1), sn, iv 0] [(.ref jc)]) tz
    refine XS.aloadN X27.here hx rfl (hb hby own_d19_59) rfl rfl ?_
    exact kz
  obtain ⟨T30, X30, e30, st30⟩ := getF X27 hx hZ hown (host := "") (Or.inl (own_w hw 96 rfl)) Via.refl e27 Fs (g := (mkF m 60 #[rv u0, .val (.long q1), sn, iv 0] [(.ref u0), (.ref jc)])) rfl rfl (hb hby own_d19_60)
  refine own_on (B := T30.setTop (mkF m 63 #[rv u0, .val (.long q1), sn, iv 0] [(.int 1), (.ref jc)])) (fun tz kz => st30 _ kz) ?_
  refine own_on (B := T30.setTop (mkF m 68 #[rv u0, .val (.long q1), sn, iv 0] [(.long q1), (.int 1), (.ref jc)])) (fun tz kz => ?_) ?_
  · show sT p e below T30 (mkF m 63 #[rv u0, .val (.long q1), sn, iv 0] [(.int 1), (.ref jc)]) tz
    refine XS.sipush X30.here hx rfl (hb hby own_d19_63) ?_
    show sT p e below T30 (mkF m 66 #[rv u0, .val (.long q1), sn, iv 0] [(.int 32767), (.int 1), (.ref jc)]) tz
    refine XS.iand X30.here hx rfl (hb hby own_d19_66) rfl ?_
    show sT p e below T30 (mkF m 67 #[rv u0, .val (.long q1), sn, iv 0] [(.int 1), (.ref jc)]) tz
    refine XS.lloadN X30.here hx rfl (hb hby own_d19_67) rfl ?_
    exact kz
  obtain ⟨cl31, Ar31, q31, S31, M31, H31, G31⟩ := id Vl
  have hin32 : ¬ ((1 : Int32) < 0 ∨ cl31.slots.size ≤ ((1 : Int32)).toNatClampNeg) := inb_of S31 ⟨by decide, by decide⟩
  obtain ⟨T32, h32, X32, e32, W32, st32⟩ := stJ X30 hx hZ e30 Ar31 (j := (1 : Int32)) hin32 (g := (mkF m 68 #[rv u0, .val (.long q1), sn, iv 0] [(.long q1), (.int 1), (.ref jc)])) rfl rfl (hb hby own_d19_68)
  have V32 : Arv Z h32 jc kl .long (32768 : Int32) [(.long w0), (.long q1), (.long w2), (.long w3)] (.long 0) := Arv.set Ar31 q31 S31 M31 H31 G31 rfl W32 1 rfl (Nat.le_of_ble_eq_true rfl)
  have N32 := Fr.snoc X32 N0 g_jc
  have O33 := O0.wr W32 g_jc
  have K33 : Keep h0 h32 [u0, jc] := (Keep.refl h0 [u0, jc]).wr W32 (Or.inl (List.mem_of_getElem? (i := 1) rfl))
  refine own_on (B := T32.setTop (mkF m 69 #[rv u0, .val (.long q1), sn, iv 0] [])) (fun tz kz => st32 _ kz) ?_
  refine own_on (B := T32.setTop (mkF m 71 #[rv u0, .val (.long q1), sn, iv 0] [(.ref u0), (.ref u0)])) (fun tz kz => ?_) ?_
  · show sT p e below T32 (mkF m 69 #[rv u0, .val (.long q1), sn, iv 0] []) tz
    refine XS.aloadN X32.here hx rfl (hb hby own_d19_69) rfl rfl ?_
    show sT p e below T32 (mkF m 70 #[rv u0, .val (.long q1), sn, iv 0] [(.ref u0)]) tz
    refine XS.dup X32.here hx rfl (hb hby own_d19_70) rfl rfl ?_
    exact kz
  have f_34 := (Fs.other W32 (Or.inl ne_u0_jc))
  obtain ⟨T35, X35, e35, st35⟩ := getF X32 hx hZ hown (host := "") (Or.inl (own_w hw 96 rfl)) Via.refl e32 f_34 (g := (mkF m 71 #[rv u0, .val (.long q1), sn, iv 0] [(.ref u0), (.ref u0)])) rfl rfl (hb hby own_d19_71)
  refine own_on (B := T35.setTop (mkF m 74 #[rv u0, .val (.long q1), sn, iv 0] [(.int 1), (.ref u0)])) (fun tz kz => st35 _ kz) ?_
  refine own_on (B := T35.setTop (mkF m 76 #[rv u0, .val (.long q1), sn, iv 0] [(.int 2), (.ref u0)])) (fun tz kz => ?_) ?_
  · show sT p e below T35 (mkF m 74 #[rv u0, .val (.long q1), sn, iv 0] [(.int 1), (.ref u0)]) tz
    refine XS.iconst X35.here hx rfl (hb hby own_d19_74) ?_
    show sT p e below T35 (mkF m 75 #[rv u0, .val (.long q1), sn, iv 0] [(.int 1), (.int 1), (.ref u0)]) tz
    refine XS.iadd X35.here hx rfl (hb hby own_d19_75) rfl ?_
    exact kz
  have f_36 := (E_u0.wr W32)
  obtain ⟨T37, h37, X37, e37, W37, st37⟩ := putF X35 hx hZ hown (host := "") (Or.inl (own_w hw 96 rfl)) Via.refl e35 f_34 f_36 (Or.inl (own_w hw 97 rfl)) (own_w hw 17 rfl) (ty := .int) (by decide) rfl rfl (g := (mkF m 76 #[rv u0, .val (.long q1), sn, iv 0] [(.int 2), (.ref u0)])) rfl rfl (hb hby own_d19_76)
  have Fw37 := f_34.same W37
  have N37 := Fr.snoc X37 N32 g_u0
  have O38 := O33.wr W37 g_u0
  have K38 : Keep h0 h37 [u0, jc] := K33.wr W37 (Or.inl (List.mem_of_getElem? (i := 0) rfl))
  refine own_on (B := T37.setTop (mkF m 79 #[rv u0, .val (.long q1), sn, iv 0] [])) (fun tz kz => st37 _ kz) ?_
  have f_39 := ((Fc.other W32 (Or.inl ne_u0_jc)).other W37 (Or.inr (slot_ne (Or.inl (own_w hw 26 rfl)) (Or.inl (own_w hw 97 rfl)) (by decide) (t := (.array (.array .long))) (t' := .int) (by decide) (by decide))))
  have f_40 := (V32.other W37 (Ne.symm ne_u0_jc))
  obtain ⟨fs, hr, hrun, hended, hW, hsame⟩ := X37.leave (v := none) (fun _ => rfl)
  refine own_of ⟨_, _, ?_, hrun, hended, _, _, rfl, ?_, ⟨_, rfl⟩, hW, hsame.mono (by decide) (by decide)⟩
  · show sT p e below T37 (mkF m 79 #[rv u0, .val (.long q1), sn, iv 0] []) _
    exact X37.returnOut hx Bd.returns (hb hby own_d19_79) hr
  · show Q191 Z u0 q1 ja jc kj kl w0 w1 w2 w3 h0 n0 _ T37.heap _
    rw [e37]
    exact ⟨rfl, N37, K38, Fw37, f_39, f_40⟩
theorem own_ef_192 (m : MethodId) (x0 : Addr) (x1 : Int64) : entryFrame m #[(.ref x0), (.long x1)] 4 = mkF m 0 #[rv x0, .val (.long x1), .second, .unset] [] := by first | (simp [entryFrame, mkF, argsToLocals, Value.category]; done) | rfl
def Q192 (Z : State) (u0 : Addr) (q1 : Int64) (ja : Addr) (jc : Addr) (kj : ClassId) (kl : ClassId) (w0 : Int64) (w1 : Int64) (w2 : Int64) (w3 : Int64) (h0 : Heap) (n0 : Nat) (v : Option Value) (h : Heap) (L : List Loc) : Prop := v = none ∧ Fr n0 L ∧ Keep h0 h [u0, jc] ∧ Fld Z h u0 "com/example/vows_to_moves/vowstomoves/model/LongColumn" "size" "I" (.int (3 : Int32)) ∧ Fld Z h u0 "com/example/vows_to_moves/vowstomoves/model/LongColumn" "chunks" "[[J" (.ref ja) ∧ Arv Z h jc kl .long (32768 : Int32) [(.long w0), (.long w1), (.long q1), (.long w3)] (.long 0)
set_option maxRecDepth 65536 in
set_option maxHeartbeats 40000000 in
theorem rm192 (l : Launch) (Z : State) (a0 : Array Value) (hw : ∀ d ∈ tables_1, d.before a0 Z = true) (ws : List Jvm.Cond) (u0 : Addr) (q1 : Int64) (ja : Addr) (jc : Addr) (kj : ClassId) (kl : ClassId) (w0 : Int64) (w1 : Int64) (w2 : Int64) (w3 : Int64) (h0 : Heap) (n0 : Nat) (O0 : Old Z n0 h0) (E_u0 : Exa Z h0 u0 "com/example/vows_to_moves/vowstomoves/model/LongColumn") (g_u0 : n0 ≤ u0) (Fc : Fld Z h0 u0 "com/example/vows_to_moves/vowstomoves/model/LongColumn" "chunks" "[[J" (.ref ja)) (Fs : Fld Z h0 u0 "com/example/vows_to_moves/vowstomoves/model/LongColumn" "size" "I" (.int (2 : Int32))) (Vj : Arv Z h0 ja kj (.array .long) (4 : Int32) [(.ref jc), .null, .null, .null] .null) (Vl : Arv Z h0 jc kl .long (32768 : Int32) [(.long w0), (.long w1), (.long w2), (.long w3)] (.long 0)) (o1 : @LT.lt Nat _ u0 ja ∧ @LT.lt Nat _ ja jc) :
    MetFree l (⟨"com/example/vows_to_moves/vowstomoves/model/LongColumn", "add", "(J)V"⟩ : MethodName) (head1 (Jvm.Cond.code (⟨"com/example/vows_to_moves/vowstomoves/model/LongColumn", "add", "(J)V"⟩ : MethodName) prog_81_method_4_code 4 none :: ws) ({ frames := 0, cells := 0, slots := 0, locals := 0 } : Room)) (fun a U => a = #[(.ref u0), (.long q1)] ∧ Z.Warmed39 U.vm ∧ U.heap = h0) (fun _ _ _ _ _ => True) (fun _ U o U' => ∃ v L, o = .returned v ∧ Q192 Z u0 q1 ja jc kj kl w0 w1 w2 w3 h0 n0 v U'.heap L ∧ FrameEnd U o U' L ({ frames := 0, cells := 0, slots := 0, locals := 0 } : Room).cells ({ frames := 0, cells := 0, slots := 0, locals := 0 } : Room).slots) := by
  refine MetFree.of_bodySF (plainFor_of_name own_pn_com_example_vows_to_moves_vowstomoves_model_LongColumn) hisR ?_
  intro p e s m args below meth c s₁ Bd hml0 hP hK
  obtain ⟨rfl, hZ, hh⟩ := hP
  have hx := Bd.exec
  have hby := Bd.bytes
  have hml : c.maxLocals = 4 := hml0
  have hown : s.vm.findClass "com/example/vows_to_moves/vowstomoves/model/LongColumn" = some m.cls := findClass_of_methodNamed Bd.named
  have hnm := (name_of_methodNamed Bd.named Bd.method).1
  have X0 : Stand p l e ({ frames := 0, cells := 0, slots := 0, locals := 0 } : Room) s m #[(.ref u0), (.long q1)] below meth c s₁ [] 0 0 := Stand.of_body Bd
  have e0 : s₁.heap = h0 := by rw [← hh, Bd.state]; rfl
  have N0 := Fr.nil n0
  change Go p.tables e below _ _
  refine own_on (B := s₁.setTop (mkF m 0 #[rv u0, .val (.long q1), sn, un] [])) (fun tz kz => castTop (own_ef_192 m u0 q1) kz) ?_
  have ne_u0_ja : u0 ≠ ja := Nat.ne_of_lt (show @LT.lt Nat _ u0 ja by omega)
  have ne_u0_jc : u0 ≠ jc := Nat.ne_of_lt (show @LT.lt Nat _ u0 jc by omega)
  have ne_ja_jc : ja ≠ jc := Nat.ne_of_lt (show @LT.lt Nat _ ja jc by omega)
  have g_ja : n0 ≤ ja := (show @LE.le Nat _ n0 ja by omega)
  have g_jc : n0 ≤ jc := (show @LE.le Nat _ n0 jc by omega)
  refine own_on (B := s₁.setTop (mkF m 1 #[rv u0, .val (.long q1), sn, un] [(.ref u0)])) (fun tz kz => ?_) ?_
  · show sT p e below s₁ (mkF m 0 #[rv u0, .val (.long q1), sn, un] []) tz
    refine XS.aloadN X0.here hx rfl (hb hby own_d19_0) rfl rfl ?_
    exact kz
  obtain ⟨T21, X21, e21, st21⟩ := getF X0 hx hZ hown (host := "") (Or.inl (own_w hw 96 rfl)) Via.refl e0 Fs (g := (mkF m 1 #[rv u0, .val (.long q1), sn, un] [(.ref u0)])) rfl rfl (hb hby own_d19_1)
  refine own_on (B := T21.setTop (mkF m 4 #[rv u0, .val (.long q1), sn, un] [(.int 2)])) (fun tz kz => st21 _ kz) ?_
  refine own_on (B := T21.setTop (mkF m 10 #[rv u0, .val (.long q1), sn, iv 0] [(.ref u0), (.int 0)])) (fun tz kz => ?_) ?_
  · show sT p e below T21 (mkF m 4 #[rv u0, .val (.long q1), sn, un] [(.int 2)]) tz
    refine XS.bipush X21.here hx rfl (hb hby own_d19_4) ?_
    show sT p e below T21 (mkF m 6 #[rv u0, .val (.long q1), sn, un] [(.int 15), (.int 2)]) tz
    refine XS.iushr X21.here hx rfl (hb hby own_d19_6) rfl ?_
    show sT p e below T21 (mkF m 7 #[rv u0, .val (.long q1), sn, un] [(.int 0)]) tz
    refine XS.istoreN X21.here hx rfl (hb hby own_d19_7) rfl (l' := #[rv u0, .val (.long q1), sn, iv 0]) rfl ?_
    show sT p e below T21 (mkF m 8 #[rv u0, .val (.long q1), sn, iv 0] []) tz
    refine XS.iloadN X21.here hx rfl (hb hby own_d19_8) rfl ?_
    show sT p e below T21 (mkF m 9 #[rv u0, .val (.long q1), sn, iv 0] [(.int 0)]) tz
    refine XS.aloadN X21.here hx rfl (hb hby own_d19_9) rfl rfl ?_
    exact kz
  obtain ⟨T22, X22, e22, st22⟩ := getF X21 hx hZ hown (host := "") (Or.inl (own_w hw 25 rfl)) Via.refl e21 Fc (g := (mkF m 10 #[rv u0, .val (.long q1), sn, iv 0] [(.ref u0), (.int 0)])) rfl rfl (hb hby own_d19_10)
  refine own_on (B := T22.setTop (mkF m 13 #[rv u0, .val (.long q1), sn, iv 0] [(.ref ja), (.int 0)])) (fun tz kz => st22 _ kz) ?_
  obtain ⟨cl23, Ar23, q23, S23, M23, H23, G23⟩ := id Vj
  refine own_on (B := T22.setTop (mkF m 35 #[rv u0, .val (.long q1), sn, iv 0] [(.ref u0)])) (fun tz kz => ?_) ?_
  · show sT p e below T22 (mkF m 13 #[rv u0, .val (.long q1), sn, iv 0] [(.ref ja), (.int 0)]) tz
    refine X22.arraylength hx (by rw [e22]; exact Ar23.1) (State.isArrayOf_alike hZ.alike Ar23.2.1) (g := (mkF m 13 #[rv u0, .val (.long q1), sn, iv 0] [(.ref ja), (.int 0)])) rfl rfl (hb hby own_d19_13) _ ?_
    rw [len_of S23 M23]
    show sT p e below T22 (mkF m 14 #[rv u0, .val (.long q1), sn, iv 0] [(.int 4), (.int 0)]) tz
    refine XS.icmpYes X22.here hx rfl (pc0 := 14) (pc' := 34) rfl (hb hby own_d19_14) rfl (feq (by decide : ¬ ((0 : Int32) = (4 : Int32)))).2 (by decide) (by decide) ?_
    show sT p e below T22 (mkF m 34 #[rv u0, .val (.long q1), sn, iv 0] []) tz
    refine XS.aloadN X22.here hx rfl (hb hby own_d19_34) rfl rfl ?_
    exact kz
  obtain ⟨T24, X24, e24, st24⟩ := getF X22 hx hZ hown (host := "") (Or.inl (own_w hw 25 rfl)) Via.refl e22 Fc (g := (mkF m 35 #[rv u0, .val (.long q1), sn, iv 0] [(.ref u0)])) rfl rfl (hb hby own_d19_35)
  refine own_on (B := T24.setTop (mkF m 38 #[rv u0, .val (.long q1), sn, iv 0] [(.ref ja)])) (fun tz kz => st24 _ kz) ?_
  refine own_on (B := T24.setTop (mkF m 39 #[rv u0, .val (.long q1), sn, iv 0] [(.int 0), (.ref ja)])) (fun tz kz => ?_) ?_
  · show sT p e below T24 (mkF m 38 #[rv u0, .val (.long q1), sn, iv 0] [(.ref ja)]) tz
    refine XS.iloadN X24.here hx rfl (hb hby own_d19_38) rfl ?_
    exact kz
  obtain ⟨cl25, Ar25, q25, S25, M25, H25, G25⟩ := id Vj
  have hin26 : ¬ ((0 : Int32) < 0 ∨ cl25.slots.size ≤ ((0 : Int32)).toNatClampNeg) := inb_of S25 ⟨by decide, by decide⟩
  have hat26 : cl25.slots[((0 : Int32)).toNatClampNeg]? = some (.ref jc) := Has.at H25 hin26 rfl
  refine own_on (B := T24.setTop (mkF m 54 #[rv u0, .val (.long q1), sn, iv 0] [(.ref u0)])) (fun tz kz => ?_) ?_
  · show sT p e below T24 (mkF m 39 #[rv u0, .val (.long q1), sn, iv 0] [(.int 0), (.ref ja)]) tz
    refine X24.aaload hx (j := (0 : Int32)) (v := (.ref jc)) (by rw [e24]; exact Ar25.1) (State.isArrayOf_alike hZ.alike Ar25.2.1) rfl Ar25.2.2 hin26 hat26 (g := (mkF m 39 #[rv u0, .val (.long q1), sn, iv 0] [(.int 0), (.ref ja)])) rfl rfl (hb hby own_d19_39) _ ?_
    show sT p e below T24 (mkF m 40 #[rv u0, .val (.long q1), sn, iv 0] [(.ref jc)]) tz
    refine XS.ifnonnullYes X24.here hx rfl (pc0 := 40) (pc' := 53) rfl (hb hby own_d19_40) rfl (by decide) (by decide) ?_
    show sT p e below T24 (mkF m 53 #[rv u0, .val (.long q1), sn, iv 0] []) tz
    refine XS.aloadN X24.here hx rfl (hb hby own_d19_53) rfl rfl ?_
    exact kz
  obtain ⟨T27, X27, e27, st27⟩ := getF X24 hx hZ hown (host := "") (Or.inl (own_w hw 25 rfl)) Via.refl e24 Fc (g := (mkF m 54 #[rv u0, .val (.long q1), sn, iv 0] [(.ref u0)])) rfl rfl (hb hby own_d19_54)
  refine own_on (B := T27.setTop (mkF m 57 #[rv u0, .val (.long q1), sn, iv 0] [(.ref ja)])) (fun tz kz => st27 _ kz) ?_
  refine own_on (B := T27.setTop (mkF m 58 #[rv u0, .val (.long q1), sn, iv 0] [(.int 0), (.ref ja)])) (fun tz kz => ?_) ?_
  · show sT p e below T27 (mkF m 57 #[rv u0, .val (.long q1), sn, iv 0] [(.ref ja)]) tz
    refine XS.iloadN X27.here hx rfl (hb hby own_d19_57) rfl ?_
    exact kz
  obtain ⟨cl28, Ar28, q28, S28, M28, H28, G28⟩ := id Vj
  have hin29 : ¬ ((0 : Int32) < 0 ∨ cl28.slots.size ≤ ((0 : Int32)).toNatClampNeg) := inb_of S28 ⟨by decide, by decide⟩
  have hat29 : cl28.slots[((0 : Int32)).toNatClampNeg]? = some (.ref jc) := Has.at H28 hin29 rfl
  refine own_on (B := T27.setTop (mkF m 60 #[rv u0, .val (.long q1), sn, iv 0] [(.ref u0), (.ref jc)])) (fun tz kz => ?_) ?_
  · show sT p e below T27 (mkF m 58 #[rv u0, .val (.long q1), sn, iv 0] [(.int 0), (.ref ja)]) tz
    refine X27.aaload hx (j := (0 : Int32)) (v := (.ref jc)) (by rw [e27]; exact Ar28.1) (State.isArrayOf_alike hZ.alike Ar28.2.1) rfl Ar28.2.2 hin29 hat29 (g := (mkF m 58 #[rv u0, .val (.long q1), sn, iv 0] [(.int 0), (.ref ja)])) rfl rfl (hb hby own_d19_58) _ ?_
    show sT p e below T27 (mkF m 59 #[rv u0, .val (.long q1), sn, iv 0] [(.ref jc)]) tz
    refine XS.aloadN X27.here hx rfl (hb hby own_d19_59) rfl rfl ?_
    exact kz
  obtain ⟨T30, X30, e30, st30⟩ := getF X27 hx hZ hown (host := "") (Or.inl (own_w hw 96 rfl)) Via.refl e27 Fs (g := (mkF m 60 #[rv u0, .val (.long q1), sn, iv 0] [(.ref u0), (.ref jc)])) rfl rfl (hb hby own_d19_60)
  refine own_on (B := T30.setTop (mkF m 63 #[rv u0, .val (.long q1), sn, iv 0] [(.int 2), (.ref jc)])) (fun tz kz => st30 _ kz) ?_
  refine own_on (B := T30.setTop (mkF m 68 #[rv u0, .val (.long q1), sn, iv 0] [(.long q1), (.int 2), (.ref jc)])) (fun tz kz => ?_) ?_
  · show sT p e below T30 (mkF m 63 #[rv u0, .val (.long q1), sn, iv 0] [(.int 2), (.ref jc)]) tz
    refine XS.sipush X30.here hx rfl (hb hby own_d19_63) ?_
    show sT p e below T30 (mkF m 66 #[rv u0, .val (.long q1), sn, iv 0] [(.int 32767), (.int 2), (.ref jc)]) tz
    refine XS.iand X30.here hx rfl (hb hby own_d19_66) rfl ?_
    show sT p e below T30 (mkF m 67 #[rv u0, .val (.long q1), sn, iv 0] [(.int 2), (.ref jc)]) tz
    refine XS.lloadN X30.here hx rfl (hb hby own_d19_67) rfl ?_
    exact kz
  obtain ⟨cl31, Ar31, q31, S31, M31, H31, G31⟩ := id Vl
  have hin32 : ¬ ((2 : Int32) < 0 ∨ cl31.slots.size ≤ ((2 : Int32)).toNatClampNeg) := inb_of S31 ⟨by decide, by decide⟩
  obtain ⟨T32, h32, X32, e32, W32, st32⟩ := stJ X30 hx hZ e30 Ar31 (j := (2 : Int32)) hin32 (g := (mkF m 68 #[rv u0, .val (.long q1), sn, iv 0] [(.long q1), (.int 2), (.ref jc)])) rfl rfl (hb hby own_d19_68)
  have V32 : Arv Z h32 jc kl .long (32768 : Int32) [(.long w0), (.long w1), (.long q1), (.long w3)] (.long 0) := Arv.set Ar31 q31 S31 M31 H31 G31 rfl W32 2 rfl (Nat.le_of_ble_eq_true rfl)
  have N32 := Fr.snoc X32 N0 g_jc
  have O33 := O0.wr W32 g_jc
  have K33 : Keep h0 h32 [u0, jc] := (Keep.refl h0 [u0, jc]).wr W32 (Or.inl (List.mem_of_getElem? (i := 1) rfl))
  refine own_on (B := T32.setTop (mkF m 69 #[rv u0, .val (.long q1), sn, iv 0] [])) (fun tz kz => st32 _ kz) ?_
  refine own_on (B := T32.setTop (mkF m 71 #[rv u0, .val (.long q1), sn, iv 0] [(.ref u0), (.ref u0)])) (fun tz kz => ?_) ?_
  · show sT p e below T32 (mkF m 69 #[rv u0, .val (.long q1), sn, iv 0] []) tz
    refine XS.aloadN X32.here hx rfl (hb hby own_d19_69) rfl rfl ?_
    show sT p e below T32 (mkF m 70 #[rv u0, .val (.long q1), sn, iv 0] [(.ref u0)]) tz
    refine XS.dup X32.here hx rfl (hb hby own_d19_70) rfl rfl ?_
    exact kz
  have f_34 := (Fs.other W32 (Or.inl ne_u0_jc))
  obtain ⟨T35, X35, e35, st35⟩ := getF X32 hx hZ hown (host := "") (Or.inl (own_w hw 96 rfl)) Via.refl e32 f_34 (g := (mkF m 71 #[rv u0, .val (.long q1), sn, iv 0] [(.ref u0), (.ref u0)])) rfl rfl (hb hby own_d19_71)
  refine own_on (B := T35.setTop (mkF m 74 #[rv u0, .val (.long q1), sn, iv 0] [(.int 2), (.ref u0)])) (fun tz kz => st35 _ kz) ?_
  refine own_on (B := T35.setTop (mkF m 76 #[rv u0, .val (.long q1), sn, iv 0] [(.int 3), (.ref u0)])) (fun tz kz => ?_) ?_
  · show sT p e below T35 (mkF m 74 #[rv u0, .val (.long q1), sn, iv 0] [(.int 2), (.ref u0)]) tz
    refine XS.iconst X35.here hx rfl (hb hby own_d19_74) ?_
    show sT p e below T35 (mkF m 75 #[rv u0, .val (.long q1), sn, iv 0] [(.int 1), (.int 2), (.ref u0)]) tz
    refine XS.iadd X35.here hx rfl (hb hby own_d19_75) rfl ?_
    exact kz
  have f_36 := (E_u0.wr W32)
  obtain ⟨T37, h37, X37, e37, W37, st37⟩ := putF X35 hx hZ hown (host := "") (Or.inl (own_w hw 96 rfl)) Via.refl e35 f_34 f_36 (Or.inl (own_w hw 97 rfl)) (own_w hw 17 rfl) (ty := .int) (by decide) rfl rfl (g := (mkF m 76 #[rv u0, .val (.long q1), sn, iv 0] [(.int 3), (.ref u0)])) rfl rfl (hb hby own_d19_76)
  have Fw37 := f_34.same W37
  have N37 := Fr.snoc X37 N32 g_u0
  have O38 := O33.wr W37 g_u0
  have K38 : Keep h0 h37 [u0, jc] := K33.wr W37 (Or.inl (List.mem_of_getElem? (i := 0) rfl))
  refine own_on (B := T37.setTop (mkF m 79 #[rv u0, .val (.long q1), sn, iv 0] [])) (fun tz kz => st37 _ kz) ?_
  have f_39 := ((Fc.other W32 (Or.inl ne_u0_jc)).other W37 (Or.inr (slot_ne (Or.inl (own_w hw 26 rfl)) (Or.inl (own_w hw 97 rfl)) (by decide) (t := (.array (.array .long))) (t' := .int) (by decide) (by decide))))
  have f_40 := (V32.other W37 (Ne.symm ne_u0_jc))
  obtain ⟨fs, hr, hrun, hended, hW, hsame⟩ := X37.leave (v := none) (fun _ => rfl)
  refine own_of ⟨_, _, ?_, hrun, hended, _, _, rfl, ?_, ⟨_, rfl⟩, hW, hsame.mono (by decide) (by decide)⟩
  · show sT p e below T37 (mkF m 79 #[rv u0, .val (.long q1), sn, iv 0] []) _
    exact X37.returnOut hx Bd.returns (hb hby own_d19_79) hr
  · show Q192 Z u0 q1 ja jc kj kl w0 w1 w2 w3 h0 n0 _ T37.heap _
    rw [e37]
    exact ⟨rfl, N37, K38, Fw37, f_39, f_40⟩
theorem own_ef_193 (m : MethodId) (x0 : Addr) (x1 : Int64) : entryFrame m #[(.ref x0), (.long x1)] 4 = mkF m 0 #[rv x0, .val (.long x1), .second, .unset] [] := by first | (simp [entryFrame, mkF, argsToLocals, Value.category]; done) | rfl
def Q193 (Z : State) (u0 : Addr) (q1 : Int64) (ja : Addr) (jc : Addr) (kj : ClassId) (kl : ClassId) (w0 : Int64) (w1 : Int64) (w2 : Int64) (w3 : Int64) (h0 : Heap) (n0 : Nat) (v : Option Value) (h : Heap) (L : List Loc) : Prop := v = none ∧ Fr n0 L ∧ Keep h0 h [u0, jc] ∧ Fld Z h u0 "com/example/vows_to_moves/vowstomoves/model/LongColumn" "size" "I" (.int (4 : Int32)) ∧ Fld Z h u0 "com/example/vows_to_moves/vowstomoves/model/LongColumn" "chunks" "[[J" (.ref ja) ∧ Arv Z h jc kl .long (32768 : Int32) [(.long w0), (.long w1), (.long w2), (.long q1)] (.long 0)
set_option maxRecDepth 65536 in
set_option maxHeartbeats 40000000 in
theorem rm193 (l : Launch) (Z : State) (a0 : Array Value) (hw : ∀ d ∈ tables_1, d.before a0 Z = true) (ws : List Jvm.Cond) (u0 : Addr) (q1 : Int64) (ja : Addr) (jc : Addr) (kj : ClassId) (kl : ClassId) (w0 : Int64) (w1 : Int64) (w2 : Int64) (w3 : Int64) (h0 : Heap) (n0 : Nat) (O0 : Old Z n0 h0) (E_u0 : Exa Z h0 u0 "com/example/vows_to_moves/vowstomoves/model/LongColumn") (g_u0 : n0 ≤ u0) (Fc : Fld Z h0 u0 "com/example/vows_to_moves/vowstomoves/model/LongColumn" "chunks" "[[J" (.ref ja)) (Fs : Fld Z h0 u0 "com/example/vows_to_moves/vowstomoves/model/LongColumn" "size" "I" (.int (3 : Int32))) (Vj : Arv Z h0 ja kj (.array .long) (4 : Int32) [(.ref jc), .null, .null, .null] .null) (Vl : Arv Z h0 jc kl .long (32768 : Int32) [(.long w0), (.long w1), (.long w2), (.long w3)] (.long 0)) (o1 : @LT.lt Nat _ u0 ja ∧ @LT.lt Nat _ ja jc) :
    MetFree l (⟨"com/example/vows_to_moves/vowstomoves/model/LongColumn", "add", "(J)V"⟩ : MethodName) (head1 (Jvm.Cond.code (⟨"com/example/vows_to_moves/vowstomoves/model/LongColumn", "add", "(J)V"⟩ : MethodName) prog_81_method_4_code 4 none :: ws) ({ frames := 0, cells := 0, slots := 0, locals := 0 } : Room)) (fun a U => a = #[(.ref u0), (.long q1)] ∧ Z.Warmed39 U.vm ∧ U.heap = h0) (fun _ _ _ _ _ => True) (fun _ U o U' => ∃ v L, o = .returned v ∧ Q193 Z u0 q1 ja jc kj kl w0 w1 w2 w3 h0 n0 v U'.heap L ∧ FrameEnd U o U' L ({ frames := 0, cells := 0, slots := 0, locals := 0 } : Room).cells ({ frames := 0, cells := 0, slots := 0, locals := 0 } : Room).slots) := by
  refine MetFree.of_bodySF (plainFor_of_name own_pn_com_example_vows_to_moves_vowstomoves_model_LongColumn) hisR ?_
  intro p e s m args below meth c s₁ Bd hml0 hP hK
  obtain ⟨rfl, hZ, hh⟩ := hP
  have hx := Bd.exec
  have hby := Bd.bytes
  have hml : c.maxLocals = 4 := hml0
  have hown : s.vm.findClass "com/example/vows_to_moves/vowstomoves/model/LongColumn" = some m.cls := findClass_of_methodNamed Bd.named
  have hnm := (name_of_methodNamed Bd.named Bd.method).1
  have X0 : Stand p l e ({ frames := 0, cells := 0, slots := 0, locals := 0 } : Room) s m #[(.ref u0), (.long q1)] below meth c s₁ [] 0 0 := Stand.of_body Bd
  have e0 : s₁.heap = h0 := by rw [← hh, Bd.state]; rfl
  have N0 := Fr.nil n0
  change Go p.tables e below _ _
  refine own_on (B := s₁.setTop (mkF m 0 #[rv u0, .val (.long q1), sn, un] [])) (fun tz kz => castTop (own_ef_193 m u0 q1) kz) ?_
  have ne_u0_ja : u0 ≠ ja := Nat.ne_of_lt (show @LT.lt Nat _ u0 ja by omega)
  have ne_u0_jc : u0 ≠ jc := Nat.ne_of_lt (show @LT.lt Nat _ u0 jc by omega)
  have ne_ja_jc : ja ≠ jc := Nat.ne_of_lt (show @LT.lt Nat _ ja jc by omega)
  have g_ja : n0 ≤ ja := (show @LE.le Nat _ n0 ja by omega)
  have g_jc : n0 ≤ jc := (show @LE.le Nat _ n0 jc by omega)
  refine own_on (B := s₁.setTop (mkF m 1 #[rv u0, .val (.long q1), sn, un] [(.ref u0)])) (fun tz kz => ?_) ?_
  · show sT p e below s₁ (mkF m 0 #[rv u0, .val (.long q1), sn, un] []) tz
    refine XS.aloadN X0.here hx rfl (hb hby own_d19_0) rfl rfl ?_
    exact kz
  obtain ⟨T21, X21, e21, st21⟩ := getF X0 hx hZ hown (host := "") (Or.inl (own_w hw 96 rfl)) Via.refl e0 Fs (g := (mkF m 1 #[rv u0, .val (.long q1), sn, un] [(.ref u0)])) rfl rfl (hb hby own_d19_1)
  refine own_on (B := T21.setTop (mkF m 4 #[rv u0, .val (.long q1), sn, un] [(.int 3)])) (fun tz kz => st21 _ kz) ?_
  refine own_on (B := T21.setTop (mkF m 10 #[rv u0, .val (.long q1), sn, iv 0] [(.ref u0), (.int 0)])) (fun tz kz => ?_) ?_
  · show sT p e below T21 (mkF m 4 #[rv u0, .val (.long q1), sn, un] [(.int 3)]) tz
    refine XS.bipush X21.here hx rfl (hb hby own_d19_4) ?_
    show sT p e below T21 (mkF m 6 #[rv u0, .val (.long q1), sn, un] [(.int 15), (.int 3)]) tz
    refine XS.iushr X21.here hx rfl (hb hby own_d19_6) rfl ?_
    show sT p e below T21 (mkF m 7 #[rv u0, .val (.long q1), sn, un] [(.int 0)]) tz
    refine XS.istoreN X21.here hx rfl (hb hby own_d19_7) rfl (l' := #[rv u0, .val (.long q1), sn, iv 0]) rfl ?_
    show sT p e below T21 (mkF m 8 #[rv u0, .val (.long q1), sn, iv 0] []) tz
    refine XS.iloadN X21.here hx rfl (hb hby own_d19_8) rfl ?_
    show sT p e below T21 (mkF m 9 #[rv u0, .val (.long q1), sn, iv 0] [(.int 0)]) tz
    refine XS.aloadN X21.here hx rfl (hb hby own_d19_9) rfl rfl ?_
    exact kz
  obtain ⟨T22, X22, e22, st22⟩ := getF X21 hx hZ hown (host := "") (Or.inl (own_w hw 25 rfl)) Via.refl e21 Fc (g := (mkF m 10 #[rv u0, .val (.long q1), sn, iv 0] [(.ref u0), (.int 0)])) rfl rfl (hb hby own_d19_10)
  refine own_on (B := T22.setTop (mkF m 13 #[rv u0, .val (.long q1), sn, iv 0] [(.ref ja), (.int 0)])) (fun tz kz => st22 _ kz) ?_
  obtain ⟨cl23, Ar23, q23, S23, M23, H23, G23⟩ := id Vj
  refine own_on (B := T22.setTop (mkF m 35 #[rv u0, .val (.long q1), sn, iv 0] [(.ref u0)])) (fun tz kz => ?_) ?_
  · show sT p e below T22 (mkF m 13 #[rv u0, .val (.long q1), sn, iv 0] [(.ref ja), (.int 0)]) tz
    refine X22.arraylength hx (by rw [e22]; exact Ar23.1) (State.isArrayOf_alike hZ.alike Ar23.2.1) (g := (mkF m 13 #[rv u0, .val (.long q1), sn, iv 0] [(.ref ja), (.int 0)])) rfl rfl (hb hby own_d19_13) _ ?_
    rw [len_of S23 M23]
    show sT p e below T22 (mkF m 14 #[rv u0, .val (.long q1), sn, iv 0] [(.int 4), (.int 0)]) tz
    refine XS.icmpYes X22.here hx rfl (pc0 := 14) (pc' := 34) rfl (hb hby own_d19_14) rfl (feq (by decide : ¬ ((0 : Int32) = (4 : Int32)))).2 (by decide) (by decide) ?_
    show sT p e below T22 (mkF m 34 #[rv u0, .val (.long q1), sn, iv 0] []) tz
    refine XS.aloadN X22.here hx rfl (hb hby own_d19_34) rfl rfl ?_
    exact kz
  obtain ⟨T24, X24, e24, st24⟩ := getF X22 hx hZ hown (host := "") (Or.inl (own_w hw 25 rfl)) Via.refl e22 Fc (g := (mkF m 35 #[rv u0, .val (.long q1), sn, iv 0] [(.ref u0)])) rfl rfl (hb hby own_d19_35)
  refine own_on (B := T24.setTop (mkF m 38 #[rv u0, .val (.long q1), sn, iv 0] [(.ref ja)])) (fun tz kz => st24 _ kz) ?_
  refine own_on (B := T24.setTop (mkF m 39 #[rv u0, .val (.long q1), sn, iv 0] [(.int 0), (.ref ja)])) (fun tz kz => ?_) ?_
  · show sT p e below T24 (mkF m 38 #[rv u0, .val (.long q1), sn, iv 0] [(.ref ja)]) tz
    refine XS.iloadN X24.here hx rfl (hb hby own_d19_38) rfl ?_
    exact kz
  obtain ⟨cl25, Ar25, q25, S25, M25, H25, G25⟩ := id Vj
  have hin26 : ¬ ((0 : Int32) < 0 ∨ cl25.slots.size ≤ ((0 : Int32)).toNatClampNeg) := inb_of S25 ⟨by decide, by decide⟩
  have hat26 : cl25.slots[((0 : Int32)).toNatClampNeg]? = some (.ref jc) := Has.at H25 hin26 rfl
  refine own_on (B := T24.setTop (mkF m 54 #[rv u0, .val (.long q1), sn, iv 0] [(.ref u0)])) (fun tz kz => ?_) ?_
  · show sT p e below T24 (mkF m 39 #[rv u0, .val (.long q1), sn, iv 0] [(.int 0), (.ref ja)]) tz
    refine X24.aaload hx (j := (0 : Int32)) (v := (.ref jc)) (by rw [e24]; exact Ar25.1) (State.isArrayOf_alike hZ.alike Ar25.2.1) rfl Ar25.2.2 hin26 hat26 (g := (mkF m 39 #[rv u0, .val (.long q1), sn, iv 0] [(.int 0), (.ref ja)])) rfl rfl (hb hby own_d19_39) _ ?_
    show sT p e below T24 (mkF m 40 #[rv u0, .val (.long q1), sn, iv 0] [(.ref jc)]) tz
    refine XS.ifnonnullYes X24.here hx rfl (pc0 := 40) (pc' := 53) rfl (hb hby own_d19_40) rfl (by decide) (by decide) ?_
    show sT p e below T24 (mkF m 53 #[rv u0, .val (.long q1), sn, iv 0] []) tz
    refine XS.aloadN X24.here hx rfl (hb hby own_d19_53) rfl rfl ?_
    exact kz
  obtain ⟨T27, X27, e27, st27⟩ := getF X24 hx hZ hown (host := "") (Or.inl (own_w hw 25 rfl)) Via.refl e24 Fc (g := (mkF m 54 #[rv u0, .val (.long q1), sn, iv 0] [(.ref u0)])) rfl rfl (hb hby own_d19_54)
  refine own_on (B := T27.setTop (mkF m 57 #[rv u0, .val (.long q1), sn, iv 0] [(.ref ja)])) (fun tz kz => st27 _ kz) ?_
  refine own_on (B := T27.setTop (mkF m 58 #[rv u0, .val (.long q1), sn, iv 0] [(.int 0), (.ref ja)])) (fun tz kz => ?_) ?_
  · show sT p e below T27 (mkF m 57 #[rv u0, .val (.long q1), sn, iv 0] [(.ref ja)]) tz
    refine XS.iloadN X27.here hx rfl (hb hby own_d19_57) rfl ?_
    exact kz
  obtain ⟨cl28, Ar28, q28, S28, M28, H28, G28⟩ := id Vj
  have hin29 : ¬ ((0 : Int32) < 0 ∨ cl28.slots.size ≤ ((0 : Int32)).toNatClampNeg) := inb_of S28 ⟨by decide, by decide⟩
  have hat29 : cl28.slots[((0 : Int32)).toNatClampNeg]? = some (.ref jc) := Has.at H28 hin29 rfl
  refine own_on (B := T27.setTop (mkF m 60 #[rv u0, .val (.long q1), sn, iv 0] [(.ref u0), (.ref jc)])) (fun tz kz => ?_) ?_
  · show sT p e below T27 (mkF m 58 #[rv u0, .val (.long q1), sn, iv 0] [(.int 0), (.ref ja)]) tz
    refine X27.aaload hx (j := (0 : Int32)) (v := (.ref jc)) (by rw [e27]; exact Ar28.1) (State.isArrayOf_alike hZ.alike Ar28.2.1) rfl Ar28.2.2 hin29 hat29 (g := (mkF m 58 #[rv u0, .val (.long q1), sn, iv 0] [(.int 0), (.ref ja)])) rfl rfl (hb hby own_d19_58) _ ?_
    show sT p e below T27 (mkF m 59 #[rv u0, .val (.long q1), sn, iv 0] [(.ref jc)]) tz
    refine XS.aloadN X27.here hx rfl (hb hby own_d19_59) rfl rfl ?_
    exact kz
  obtain ⟨T30, X30, e30, st30⟩ := getF X27 hx hZ hown (host := "") (Or.inl (own_w hw 96 rfl)) Via.refl e27 Fs (g := (mkF m 60 #[rv u0, .val (.long q1), sn, iv 0] [(.ref u0), (.ref jc)])) rfl rfl (hb hby own_d19_60)
  refine own_on (B := T30.setTop (mkF m 63 #[rv u0, .val (.long q1), sn, iv 0] [(.int 3), (.ref jc)])) (fun tz kz => st30 _ kz) ?_
  refine own_on (B := T30.setTop (mkF m 68 #[rv u0, .val (.long q1), sn, iv 0] [(.long q1), (.int 3), (.ref jc)])) (fun tz kz => ?_) ?_
  · show sT p e below T30 (mkF m 63 #[rv u0, .val (.long q1), sn, iv 0] [(.int 3), (.ref jc)]) tz
    refine XS.sipush X30.here hx rfl (hb hby own_d19_63) ?_
    show sT p e below T30 (mkF m 66 #[rv u0, .val (.long q1), sn, iv 0] [(.int 32767), (.int 3), (.ref jc)]) tz
    refine XS.iand X30.here hx rfl (hb hby own_d19_66) rfl ?_
    show sT p e below T30 (mkF m 67 #[rv u0, .val (.long q1), sn, iv 0] [(.int 3), (.ref jc)]) tz
    refine XS.lloadN X30.here hx rfl (hb hby own_d19_67) rfl ?_
    exact kz
  obtain ⟨cl31, Ar31, q31, S31, M31, H31, G31⟩ := id Vl
  have hin32 : ¬ ((3 : Int32) < 0 ∨ cl31.slots.size ≤ ((3 : Int32)).toNatClampNeg) := inb_of S31 ⟨by decide, by decide⟩
  obtain ⟨T32, h32, X32, e32, W32, st32⟩ := stJ X30 hx hZ e30 Ar31 (j := (3 : Int32)) hin32 (g := (mkF m 68 #[rv u0, .val (.long q1), sn, iv 0] [(.long q1), (.int 3), (.ref jc)])) rfl rfl (hb hby own_d19_68)
  have V32 : Arv Z h32 jc kl .long (32768 : Int32) [(.long w0), (.long w1), (.long w2), (.long q1)] (.long 0) := Arv.set Ar31 q31 S31 M31 H31 G31 rfl W32 3 rfl (Nat.le_of_ble_eq_true rfl)
  have N32 := Fr.snoc X32 N0 g_jc
  have O33 := O0.wr W32 g_jc
  have K33 : Keep h0 h32 [u0, jc] := (Keep.refl h0 [u0, jc]).wr W32 (Or.inl (List.mem_of_getElem? (i := 1) rfl))
  refine own_on (B := T32.setTop (mkF m 69 #[rv u0, .val (.long q1), sn, iv 0] [])) (fun tz kz => st32 _ kz) ?_
  refine own_on (B := T32.setTop (mkF m 71 #[rv u0, .val (.long q1), sn, iv 0] [(.ref u0), (.ref u0)])) (fun tz kz => ?_) ?_
  · show sT p e below T32 (mkF m 69 #[rv u0, .val (.long q1), sn, iv 0] []) tz
    refine XS.aloadN X32.here hx rfl (hb hby own_d19_69) rfl rfl ?_
    show sT p e below T32 (mkF m 70 #[rv u0, .val (.long q1), sn, iv 0] [(.ref u0)]) tz
    refine XS.dup X32.here hx rfl (hb hby own_d19_70) rfl rfl ?_
    exact kz
  have f_34 := (Fs.other W32 (Or.inl ne_u0_jc))
  obtain ⟨T35, X35, e35, st35⟩ := getF X32 hx hZ hown (host := "") (Or.inl (own_w hw 96 rfl)) Via.refl e32 f_34 (g := (mkF m 71 #[rv u0, .val (.long q1), sn, iv 0] [(.ref u0), (.ref u0)])) rfl rfl (hb hby own_d19_71)
  refine own_on (B := T35.setTop (mkF m 74 #[rv u0, .val (.long q1), sn, iv 0] [(.int 3), (.ref u0)])) (fun tz kz => st35 _ kz) ?_
  refine own_on (B := T35.setTop (mkF m 76 #[rv u0, .val (.long q1), sn, iv 0] [(.int 4), (.ref u0)])) (fun tz kz => ?_) ?_
  · show sT p e below T35 (mkF m 74 #[rv u0, .val (.long q1), sn, iv 0] [(.int 3), (.ref u0)]) tz
    refine XS.iconst X35.here hx rfl (hb hby own_d19_74) ?_
    show sT p e below T35 (mkF m 75 #[rv u0, .val (.long q1), sn, iv 0] [(.int 1), (.int 3), (.ref u0)]) tz
    refine XS.iadd X35.here hx rfl (hb hby own_d19_75) rfl ?_
    exact kz
  have f_36 := (E_u0.wr W32)
  obtain ⟨T37, h37, X37, e37, W37, st37⟩ := putF X35 hx hZ hown (host := "") (Or.inl (own_w hw 96 rfl)) Via.refl e35 f_34 f_36 (Or.inl (own_w hw 97 rfl)) (own_w hw 17 rfl) (ty := .int) (by decide) rfl rfl (g := (mkF m 76 #[rv u0, .val (.long q1), sn, iv 0] [(.int 4), (.ref u0)])) rfl rfl (hb hby own_d19_76)
  have Fw37 := f_34.same W37
  have N37 := Fr.snoc X37 N32 g_u0
  have O38 := O33.wr W37 g_u0
  have K38 : Keep h0 h37 [u0, jc] := K33.wr W37 (Or.inl (List.mem_of_getElem? (i := 0) rfl))
  refine own_on (B := T37.setTop (mkF m 79 #[rv u0, .val (.long q1), sn, iv 0] [])) (fun tz kz => st37 _ kz) ?_
  have f_39 := ((Fc.other W32 (Or.inl ne_u0_jc)).other W37 (Or.inr (slot_ne (Or.inl (own_w hw 26 rfl)) (Or.inl (own_w hw 97 rfl)) (by decide) (t := (.array (.array .long))) (t' := .int) (by decide) (by decide))))
  have f_40 := (V32.other W37 (Ne.symm ne_u0_jc))
  obtain ⟨fs, hr, hrun, hended, hW, hsame⟩ := X37.leave (v := none) (fun _ => rfl)
  refine own_of ⟨_, _, ?_, hrun, hended, _, _, rfl, ?_, ⟨_, rfl⟩, hW, hsame.mono (by decide) (by decide)⟩
  · show sT p e below T37 (mkF m 79 #[rv u0, .val (.long q1), sn, iv 0] []) _
    exact X37.returnOut hx Bd.returns (hb hby own_d19_79) hr
  · show Q193 Z u0 q1 ja jc kj kl w0 w1 w2 w3 h0 n0 _ T37.heap _
    rw [e37]
    exact ⟨rfl, N37, K38, Fw37, f_39, f_40⟩
theorem own_ef_180 (m : MethodId) (x0 : Addr) (x1 : Int64) : entryFrame m #[(.ref x0), (.long x1)] 3 = mkF m 0 #[rv x0, .val (.long x1), .second] [] := by first | (simp [entryFrame, mkF, argsToLocals, Value.category]; done) | rfl
def Q180 (Z : State) (u0 : Addr) (q1 : Int64) (lc : Addr) (ja : Addr) (sa : Addr) (kj : ClassId) (h0 : Heap) (n0 : Nat) (v : Option Value) (h : Heap) (L : List Loc) : Prop := ∃ (jc : Addr) (kl : ClassId), v = none ∧ Fr n0 L ∧ Keep h0 h [lc, ja] ∧ h0.size ≤ jc ∧ Fld Z h lc "com/example/vows_to_moves/vowstomoves/model/LongColumn" "size" "I" (.int (1 : Int32)) ∧ Fld Z h lc "com/example/vows_to_moves/vowstomoves/model/LongColumn" "chunks" "[[J" (.ref ja) ∧ Arv Z h ja kj (.array .long) (4 : Int32) [(.ref jc), .null, .null, .null] .null ∧ Arv Z h jc kl .long (32768 : Int32) [.long q1, .long 0, .long 0, .long 0] (.long 0)
theorem own_d18_0 : decode prog_82_method_7_code 0 = .ok (.aload_n 0, 1) := by decide +kernel
theorem own_d18_1 : decode prog_82_method_7_code 1 = .ok (.getfield 12, 3) := by decide +kernel
theorem own_d18_4 : decode prog_82_method_7_code 4 = .ok (.invokevirtual 40, 3) := by decide +kernel
theorem own_d18_7 : decode prog_82_method_7_code 7 = .ok (.ldc 52, 2) := by decide +kernel
theorem own_d18_9 : decode prog_82_method_7_code 9 = .ok (.if_icmp .ne 13, 3) := by decide +kernel
theorem own_d18_22 : decode prog_82_method_7_code 22 = .ok (.aload_n 0, 1) := by decide +kernel
theorem own_d18_23 : decode prog_82_method_7_code 23 = .ok (.getfield 12, 3) := by decide +kernel
theorem own_d18_26 : decode prog_82_method_7_code 26 = .ok (.lload_n 1, 1) := by decide +kernel
theorem own_pd9 : parseMethodDescriptor "(J)V" = some ⟨[.long], none⟩ := by decide +kernel
theorem own_d18_27 : decode prog_82_method_7_code 27 = .ok (.invokevirtual 58, 3) := by decide +kernel
theorem own_d18_30 : decode prog_82_method_7_code 30 = .ok (.iconst 2, 1) := by decide +kernel
theorem own_d18_31 : decode prog_82_method_7_code 31 = .ok (.aload_n 0, 1) := by decide +kernel
theorem own_d18_32 : decode prog_82_method_7_code 32 = .ok (.getfield 12, 3) := by decide +kernel
theorem own_d18_35 : decode prog_82_method_7_code 35 = .ok (.invokevirtual 40, 3) := by decide +kernel
theorem own_d18_38 : decode prog_82_method_7_code 38 = .ok (.imul, 1) := by decide +kernel
theorem own_d18_39 : decode prog_82_method_7_code 39 = .ok (.aload_n 0, 1) := by decide +kernel
theorem own_d18_40 : decode prog_82_method_7_code 40 = .ok (.getfield 32, 3) := by decide +kernel
theorem own_d18_43 : decode prog_82_method_7_code 43 = .ok (.arraylength, 1) := by decide +kernel
theorem own_d18_44 : decode prog_82_method_7_code 44 = .ok (.if_icmp .le 17, 3) := by decide +kernel
theorem own_d18_61 : decode prog_82_method_7_code 61 = .ok (.return_, 1) := by decide +kernel
set_option maxRecDepth 65536 in
set_option maxHeartbeats 40000000 in
theorem rm180 (l : Launch) (Z : State) (a0 : Array Value) (hw : ∀ d ∈ tables_1, d.before a0 Z = true) (ws : List Jvm.Cond) (u0 : Addr) (q1 : Int64) (lc : Addr) (ja : Addr) (sa : Addr) (kj : ClassId) (h0 : Heap) (n0 : Nat) (O0 : Old Z n0 h0) (E_u0 : Exa Z h0 u0 "com/example/vows_to_moves/vowstomoves/model/LongNumbering") (g_u0 : n0 ≤ u0) (Fk : Fld Z h0 u0 "com/example/vows_to_moves/vowstomoves/model/LongNumbering" "keys" "Lcom/example/vows_to_moves/vowstomoves/model/LongColumn;" (.ref lc)) (Fsl : Fld Z h0 u0 "com/example/vows_to_moves/vowstomoves/model/LongNumbering" "slots" "[I" (.ref sa)) (El : Exa Z h0 lc "com/example/vows_to_moves/vowstomoves/model/LongColumn") (Fc : Fld Z h0 lc "com/example/vows_to_moves/vowstomoves/model/LongColumn" "chunks" "[[J" (.ref ja)) (Fs : Fld Z h0 lc "com/example/vows_to_moves/vowstomoves/model/LongColumn" "size" "I" (.int (0 : Int32))) (Vj : Arv Z h0 ja kj (.array .long) (4 : Int32) [.null, .null, .null, .null] .null) (Vs : OwnArz Z h0 sa .int 32) (Oa : OvrA Z kj .long "[J") (o1 : @LT.lt Nat _ u0 lc ∧ @LT.lt Nat _ lc ja ∧ @LT.lt Nat _ ja sa) :
    MetFree l (⟨"com/example/vows_to_moves/vowstomoves/model/LongNumbering", "add", "(J)V"⟩ : MethodName) (head1 (Jvm.Cond.code (⟨"com/example/vows_to_moves/vowstomoves/model/LongNumbering", "add", "(J)V"⟩ : MethodName) prog_82_method_7_code 3 none :: ws) ({ frames := 1, cells := 1, slots := 32768, locals := 16 } : Room)) (fun a U => a = #[(.ref u0), (.long q1)] ∧ Z.Warmed39 U.vm ∧ U.heap = h0) (fun _ _ _ _ _ => True) (fun _ U o U' => ∃ v L, o = .returned v ∧ Q180 Z u0 q1 lc ja sa kj h0 n0 v U'.heap L ∧ FrameEnd U o U' L ({ frames := 1, cells := 1, slots := 32768, locals := 16 } : Room).cells ({ frames := 1, cells := 1, slots := 32768, locals := 16 } : Room).slots) := by
  refine MetFree.of_bodySF (plainFor_of_name own_pn_com_example_vows_to_moves_vowstomoves_model_LongNumbering) hisR ?_
  intro p e s m args below meth c s₁ Bd hml0 hP hK
  obtain ⟨rfl, hZ, hh⟩ := hP
  have hx := Bd.exec
  have hby := Bd.bytes
  have hml : c.maxLocals = 3 := hml0
  have hown : s.vm.findClass "com/example/vows_to_moves/vowstomoves/model/LongNumbering" = some m.cls := findClass_of_methodNamed Bd.named
  have hnm := (name_of_methodNamed Bd.named Bd.method).1
  have X0 : Stand p l e ({ frames := 1, cells := 1, slots := 32768, locals := 16 } : Room) s m #[(.ref u0), (.long q1)] below meth c s₁ [] 0 0 := Stand.of_body Bd
  have e0 : s₁.heap = h0 := by rw [← hh, Bd.state]; rfl
  have N0 := Fr.nil n0
  change Go p.tables e below _ _
  refine own_on (B := s₁.setTop (mkF m 0 #[rv u0, .val (.long q1), sn] [])) (fun tz kz => castTop (own_ef_180 m u0 q1) kz) ?_
  have ne_u0_lc : u0 ≠ lc := Nat.ne_of_lt (show @LT.lt Nat _ u0 lc by omega)
  have ne_u0_ja : u0 ≠ ja := Nat.ne_of_lt (show @LT.lt Nat _ u0 ja by omega)
  have ne_u0_sa : u0 ≠ sa := Nat.ne_of_lt (show @LT.lt Nat _ u0 sa by omega)
  have ne_lc_ja : lc ≠ ja := Nat.ne_of_lt (show @LT.lt Nat _ lc ja by omega)
  have ne_lc_sa : lc ≠ sa := Nat.ne_of_lt (show @LT.lt Nat _ lc sa by omega)
  have ne_ja_sa : ja ≠ sa := Nat.ne_of_lt (show @LT.lt Nat _ ja sa by omega)
  have g_lc : n0 ≤ lc := (show @LE.le Nat _ n0 lc by omega)
  have g_ja : n0 ≤ ja := (show @LE.le Nat _ n0 ja by omega)
  have g_sa : n0 ≤ sa := (show @LE.le Nat _ n0 sa by omega)
  refine own_on (B := s₁.setTop (mkF m 1 #[rv u0, .val (.long q1), sn] [(.ref u0)])) (fun tz kz => ?_) ?_
  · show sT p e below s₁ (mkF m 0 #[rv u0, .val (.long q1), sn] []) tz
    refine XS.aloadN X0.here hx rfl (hb hby own_d18_0) rfl rfl ?_
    exact kz
  obtain ⟨T21, X21, e21, st21⟩ := getF X0 hx hZ hown (host := "") (Or.inl (own_w hw 27 rfl)) Via.refl e0 Fk (g := (mkF m 1 #[rv u0, .val (.long q1), sn] [(.ref u0)])) rfl rfl (hb hby own_d18_1)
  refine own_on (B := T21.setTop (mkF m 4 #[rv u0, .val (.long q1), sn] [(.ref lc)])) (fun tz kz => st21 _ kz) ?_
  obtain ⟨cq22, kq22, q22a, q22b, q22c⟩ := isOf hZ e21 El
  obtain ⟨_, _, ⟨T22, L22, k22, n22⟩, -, X22, ⟨Lc22, hQ22, l22, y22, z22⟩, st22⟩ := X21.virtualBack hx (y := (⟨"com/example/vows_to_moves/vowstomoves/model/LongColumn", "size", "()I"⟩ : MethodName)) (z := (⟨"com/example/vows_to_moves/vowstomoves/model/LongColumn", "size", "()I"⟩ : MethodName)) hown (mvT hZ (own_w hw 91 rfl)) (mvT hZ (own_w hw 92 rfl)) (notFace_of_selects (args := #[]) (mvT hZ (own_w hw 94 rfl))) (mvT hZ (own_w hw 94 rfl)) (mvT hZ (own_w hw 93 rfl)) (by decide) (backOf (W := 0) (rm14 l Z a0 hw [] lc (0 : Int32) h0 n0 O0 Fs) hZ (own_w hw 95 rfl) (own_w hw 18 rfl) (by decide) (by decide)) q22a q22c (g := (mkF m 4 #[rv u0, .val (.long q1), sn] [(.ref lc)])) rfl (by rw [hml]; rfl) (Steps.refl _) (argsL := []) (rest := []) (lenOf own_pd6 rfl) rfl (by show 2 * 0 + _ ≤ _; exact Nat.le_of_eq rfl) (hb hby own_d18_4) (fun _ _ => ⟨rfl, e21, (by decide : 0 + 0 ≤ _), (by decide : 0 + 0 ≤ _)⟩)
  dsimp only [Pt.U, Pt.locs, Pt.cells, Pt.slots] at X22 l22 y22 z22 st22 hQ22
  subst l22 y22 z22
  obtain ⟨rfl, Nq22, e22⟩ := hQ22
  have N22 := Fr.app N0 Nq22
  refine own_on (B := T22.setTop (mkF m 7 #[rv u0, .val (.long q1), sn] [(.int 0)])) (fun tz kz => st22.trans kz) ?_
  refine own_on (B := T22.setTop (mkF m 23 #[rv u0, .val (.long q1), sn] [(.ref u0)])) (fun tz kz => ?_) ?_
  · show sT p e below T22 (mkF m 7 #[rv u0, .val (.long q1), sn] [(.int 0)]) tz
    refine X22.ldcInt hx hown (mvT hZ (own_w hw 116 rfl)) (g := (mkF m 7 #[rv u0, .val (.long q1), sn] [(.int 0)])) rfl (hb hby own_d18_7) _ ?_
    show sT p e below T22 (mkF m 9 #[rv u0, .val (.long q1), sn] [(.int 939524096), (.int 0)]) tz
    refine XS.icmpYes X22.here hx rfl (pc0 := 9) (pc' := 22) rfl (hb hby own_d18_9) rfl (feq (by decide : ¬ ((0 : Int32) = (939524096 : Int32)))).2 (by decide) (by decide) ?_
    show sT p e below T22 (mkF m 22 #[rv u0, .val (.long q1), sn] []) tz
    refine XS.aloadN X22.here hx rfl (hb hby own_d18_22) rfl rfl ?_
    exact kz
  obtain ⟨T23, X23, e23, st23⟩ := getF X22 hx hZ hown (host := "") (Or.inl (own_w hw 27 rfl)) Via.refl e22 Fk (g := (mkF m 23 #[rv u0, .val (.long q1), sn] [(.ref u0)])) rfl rfl (hb hby own_d18_23)
  refine own_on (B := T23.setTop (mkF m 26 #[rv u0, .val (.long q1), sn] [(.ref lc)])) (fun tz kz => st23 _ kz) ?_
  refine own_on (B := T23.setTop (mkF m 27 #[rv u0, .val (.long q1), sn] [(.long q1), (.ref lc)])) (fun tz kz => ?_) ?_
  · show sT p e below T23 (mkF m 26 #[rv u0, .val (.long q1), sn] [(.ref lc)]) tz
    refine XS.lloadN X23.here hx rfl (hb hby own_d18_26) rfl ?_
    exact kz
  obtain ⟨cq24, kq24, q24a, q24b, q24c⟩ := isOf hZ e23 El
  obtain ⟨_, _, ⟨T24, L24, k24, n24⟩, -, X24, ⟨Lc24, hQ24, l24, y24, z24⟩, st24⟩ := X23.virtualBack hx (y := (⟨"com/example/vows_to_moves/vowstomoves/model/LongColumn", "add", "(J)V"⟩ : MethodName)) (z := (⟨"com/example/vows_to_moves/vowstomoves/model/LongColumn", "add", "(J)V"⟩ : MethodName)) hown (mvT hZ (own_w hw 117 rfl)) (mvT hZ (own_w hw 118 rfl)) (notFace_of_selects (args := #[]) (mvT hZ (own_w hw 120 rfl))) (mvT hZ (own_w hw 120 rfl)) (mvT hZ (own_w hw 119 rfl)) (by decide) (backOf (W := 0) (rm190 l Z a0 hw [] lc q1 ja kj h0 n0 O0 El g_lc Fc Fs Vj Oa (by omega)) hZ (own_w hw 121 rfl) (own_w hw 18 rfl) (by decide) (by decide)) q24a q24c (g := (mkF m 27 #[rv u0, .val (.long q1), sn] [(.long q1), (.ref lc)])) rfl (by rw [hml]; rfl) (Steps.refl _) (argsL := [(.long q1)]) (rest := []) (lenOf own_pd9 rfl) rfl (by show 2 * 0 + _ ≤ _; exact Nat.le_of_eq rfl) (hb hby own_d18_27) (fun _ _ => ⟨rfl, e23, (by decide : 0 + 1 ≤ _), (by decide : 0 + 32768 ≤ _)⟩)
  dsimp only [Pt.U, Pt.locs, Pt.cells, Pt.slots] at X24 l24 y24 z24 st24 hQ24
  subst l24 y24 z24
  obtain ⟨jc24, kl24, rfl, Nq24, Kq24, zq24, Fs24, Fc24, Vj24, Vl24⟩ := hQ24
  have N24 := Fr.app N22 Nq24
  have ne_u0_jc24 : u0 ≠ jc24 := Nat.ne_of_lt (Nat.lt_of_lt_of_le (E_u0).lt zq24)
  have lne_u0_jc24 : @LT.lt Nat _ u0 jc24 := Nat.lt_of_lt_of_le (E_u0).lt zq24
  have ne_lc_jc24 : lc ≠ jc24 := Nat.ne_of_lt (Nat.lt_of_lt_of_le (El).lt zq24)
  have lne_lc_jc24 : @LT.lt Nat _ lc jc24 := Nat.lt_of_lt_of_le (El).lt zq24
  have ne_ja_jc24 : ja ≠ jc24 := Nat.ne_of_lt (Nat.lt_of_lt_of_le (Vj).lt zq24)
  have lne_ja_jc24 : @LT.lt Nat _ ja jc24 := Nat.lt_of_lt_of_le (Vj).lt zq24
  have ne_sa_jc24 : sa ≠ jc24 := Nat.ne_of_lt (Nat.lt_of_lt_of_le (Vs).lt zq24)
  have lne_sa_jc24 : @LT.lt Nat _ sa jc24 := Nat.lt_of_lt_of_le (Vs).lt zq24
  have g_jc24 : n0 ≤ jc24 := Nat.le_trans (own_old O0) zq24
  have sz_jc24 : h0.size ≤ jc24 := Nat.le_trans (Keep.refl h0 [lc, ja]).1 zq24
  have O25 := O0.keep Kq24 (allS g_lc (allS g_ja all0))
  have K25 : Keep h0 T24.heap [lc, ja] := (Keep.refl h0 [lc, ja]).trans Kq24 (allS (Or.inl (List.mem_of_getElem? (i := 0) rfl)) (allS (Or.inl (List.mem_of_getElem? (i := 1) rfl)) all0))
  refine own_on (B := T24.setTop (mkF m 30 #[rv u0, .val (.long q1), sn] [])) (fun tz kz => st24.trans kz) ?_
  refine own_on (B := T24.setTop (mkF m 32 #[rv u0, .val (.long q1), sn] [(.ref u0), (.int 2)])) (fun tz kz => ?_) ?_
  · show sT p e below T24 (mkF m 30 #[rv u0, .val (.long q1), sn] []) tz
    refine XS.iconst X24.here hx rfl (hb hby own_d18_30) ?_
    show sT p e below T24 (mkF m 31 #[rv u0, .val (.long q1), sn] [(.int 2)]) tz
    refine XS.aloadN X24.here hx rfl (hb hby own_d18_31) rfl rfl ?_
    exact kz
  have f_26 := (Fk.keep Kq24 (ninS ne_u0_lc (ninS ne_u0_ja nin0)))
  obtain ⟨T27, X27, e27, st27⟩ := getF X24 hx hZ hown (host := "") (Or.inl (own_w hw 27 rfl)) Via.refl rfl f_26 (g := (mkF m 32 #[rv u0, .val (.long q1), sn] [(.ref u0), (.int 2)])) rfl rfl (hb hby own_d18_32)
  refine own_on (B := T27.setTop (mkF m 35 #[rv u0, .val (.long q1), sn] [(.ref lc), (.int 2)])) (fun tz kz => st27 _ kz) ?_
  have f_29 := (El.keep Kq24)
  obtain ⟨cq28, kq28, q28a, q28b, q28c⟩ := isOf hZ e27 f_29
  obtain ⟨_, _, ⟨T28, L28, k28, n28⟩, -, X28, ⟨Lc28, hQ28, l28, y28, z28⟩, st28⟩ := X27.virtualBack hx (y := (⟨"com/example/vows_to_moves/vowstomoves/model/LongColumn", "size", "()I"⟩ : MethodName)) (z := (⟨"com/example/vows_to_moves/vowstomoves/model/LongColumn", "size", "()I"⟩ : MethodName)) hown (mvT hZ (own_w hw 91 rfl)) (mvT hZ (own_w hw 92 rfl)) (notFace_of_selects (args := #[]) (mvT hZ (own_w hw 94 rfl))) (mvT hZ (own_w hw 94 rfl)) (mvT hZ (own_w hw 93 rfl)) (by decide) (backOf (W := 1) (rm14 l Z a0 hw [] lc (1 : Int32) T24.heap n0 O25 Fs24) hZ (own_w hw 95 rfl) (own_w hw 18 rfl) (by decide) (by decide)) q28a q28c (g := (mkF m 35 #[rv u0, .val (.long q1), sn] [(.ref lc), (.int 2)])) rfl (by rw [hml]; rfl) (Steps.refl _) (argsL := []) (rest := [(.int (2 : Int32))]) (lenOf own_pd6 rfl) rfl (by show 2 * 0 + _ ≤ _; exact Nat.le_of_eq rfl) (hb hby own_d18_35) (fun _ _ => ⟨rfl, e27, (by decide : 1 + 0 ≤ _), (by decide : 32768 + 0 ≤ _)⟩)
  dsimp only [Pt.U, Pt.locs, Pt.cells, Pt.slots] at X28 l28 y28 z28 st28 hQ28
  subst l28 y28 z28
  obtain ⟨rfl, Nq28, e28⟩ := hQ28
  have N28 := Fr.app N24 Nq28
  refine own_on (B := T28.setTop (mkF m 38 #[rv u0, .val (.long q1), sn] [(.int 1), (.int 2)])) (fun tz kz => st28.trans kz) ?_
  refine own_on (B := T28.setTop (mkF m 40 #[rv u0, .val (.long q1), sn] [(.ref u0), (.int 2)])) (fun tz kz => ?_) ?_
  · show sT p e below T28 (mkF m 38 #[rv u0, .val (.long q1), sn] [(.int 1), (.int 2)]) tz
    refine XS.imul X28.here hx rfl (hb hby own_d18_38) rfl ?_
    show sT p e below T28 (mkF m 39 #[rv u0, .val (.long q1), sn] [(.int 2)]) tz
    refine XS.aloadN X28.here hx rfl (hb hby own_d18_39) rfl rfl ?_
    exact kz
  have f_30 := (Fsl.keep Kq24 (ninS ne_u0_lc (ninS ne_u0_ja nin0)))
  obtain ⟨T31, X31, e31, st31⟩ := getF X28 hx hZ hown (host := "") (Or.inl (own_w hw 50 rfl)) Via.refl e28 f_30 (g := (mkF m 40 #[rv u0, .val (.long q1), sn] [(.ref u0), (.int 2)])) rfl rfl (hb hby own_d18_40)
  refine own_on (B := T31.setTop (mkF m 43 #[rv u0, .val (.long q1), sn] [(.ref sa), (.int 2)])) (fun tz kz => st31 _ kz) ?_
  have f_32 := (Vs.keep Kq24 (ninS (Ne.symm ne_lc_sa) (ninS (Ne.symm ne_ja_sa) nin0)))
  obtain ⟨cl33, Ar33, S33, M33⟩ := id f_32
  refine own_on (B := T31.setTop (mkF m 61 #[rv u0, .val (.long q1), sn] [])) (fun tz kz => ?_) ?_
  · show sT p e below T31 (mkF m 43 #[rv u0, .val (.long q1), sn] [(.ref sa), (.int 2)]) tz
    refine X31.arraylength hx (by rw [e31]; exact Ar33.1) (State.isArrayOf_alike hZ.alike Ar33.2.1) (g := (mkF m 43 #[rv u0, .val (.long q1), sn] [(.ref sa), (.int 2)])) rfl rfl (hb hby own_d18_43) _ ?_
    rw [len_of S33 M33]
    show sT p e below T31 (mkF m 44 #[rv u0, .val (.long q1), sn] [(.int 32), (.int 2)]) tz
    refine XS.icmpYes X31.here hx rfl (pc0 := 44) (pc' := 61) rfl (hb hby own_d18_44) rfl (flt (by decide : ¬ ((32 : Int32) < (2 : Int32)))).2.2.2 (by decide) (by decide) ?_
    exact kz
  obtain ⟨fs, hr, hrun, hended, hW, hsame⟩ := X31.leave (v := none) (fun _ => rfl)
  refine own_of ⟨_, _, ?_, hrun, hended, _, _, rfl, ?_, ⟨_, rfl⟩, hW, hsame.mono (by decide) (by decide)⟩
  · show sT p e below T31 (mkF m 61 #[rv u0, .val (.long q1), sn] []) _
    exact X31.returnOut hx Bd.returns (hb hby own_d18_61) hr
  · show Q180 Z u0 q1 lc ja sa kj h0 n0 _ T31.heap _
    rw [e31]
    exact ⟨jc24, kl24, rfl, N28, K25, sz_jc24, Fs24, Fc24, Vj24, Vl24⟩
theorem own_ef_181 (m : MethodId) (x0 : Addr) (x1 : Int64) : entryFrame m #[(.ref x0), (.long x1)] 3 = mkF m 0 #[rv x0, .val (.long x1), .second] [] := by first | (simp [entryFrame, mkF, argsToLocals, Value.category]; done) | rfl
def Q181 (Z : State) (u0 : Addr) (q1 : Int64) (lc : Addr) (ja : Addr) (sa : Addr) (kj : ClassId) (jc : Addr) (kl : ClassId) (w0 : Int64) (w1 : Int64) (w2 : Int64) (w3 : Int64) (h0 : Heap) (n0 : Nat) (v : Option Value) (h : Heap) (L : List Loc) : Prop := v = none ∧ Fr n0 L ∧ Keep h0 h [lc, jc] ∧ Fld Z h lc "com/example/vows_to_moves/vowstomoves/model/LongColumn" "size" "I" (.int (2 : Int32)) ∧ Fld Z h lc "com/example/vows_to_moves/vowstomoves/model/LongColumn" "chunks" "[[J" (.ref ja) ∧ Arv Z h jc kl .long (32768 : Int32) [(.long w0), (.long q1), (.long w2), (.long w3)] (.long 0)
set_option maxRecDepth 65536 in
set_option maxHeartbeats 40000000 in
theorem rm181 (l : Launch) (Z : State) (a0 : Array Value) (hw : ∀ d ∈ tables_1, d.before a0 Z = true) (ws : List Jvm.Cond) (u0 : Addr) (q1 : Int64) (lc : Addr) (ja : Addr) (sa : Addr) (kj : ClassId) (jc : Addr) (kl : ClassId) (w0 : Int64) (w1 : Int64) (w2 : Int64) (w3 : Int64) (h0 : Heap) (n0 : Nat) (O0 : Old Z n0 h0) (E_u0 : Exa Z h0 u0 "com/example/vows_to_moves/vowstomoves/model/LongNumbering") (g_u0 : n0 ≤ u0) (Fk : Fld Z h0 u0 "com/example/vows_to_moves/vowstomoves/model/LongNumbering" "keys" "Lcom/example/vows_to_moves/vowstomoves/model/LongColumn;" (.ref lc)) (Fsl : Fld Z h0 u0 "com/example/vows_to_moves/vowstomoves/model/LongNumbering" "slots" "[I" (.ref sa)) (El : Exa Z h0 lc "com/example/vows_to_moves/vowstomoves/model/LongColumn") (Fc : Fld Z h0 lc "com/example/vows_to_moves/vowstomoves/model/LongColumn" "chunks" "[[J" (.ref ja)) (Fs : Fld Z h0 lc "com/example/vows_to_moves/vowstomoves/model/LongColumn" "size" "I" (.int (1 : Int32))) (Vj : Arv Z h0 ja kj (.array .long) (4 : Int32) [(.ref jc), .null, .null, .null] .null) (Vs : OwnArz Z h0 sa .int 32) (Vl : Arv Z h0 jc kl .long (32768 : Int32) [(.long w0), (.long w1), (.long w2), (.long w3)] (.long 0)) (o1 : @LT.lt Nat _ u0 lc ∧ @LT.lt Nat _ lc ja ∧ @LT.lt Nat _ ja sa ∧ @LT.lt Nat _ sa jc) :
    MetFree l (⟨"com/example/vows_to_moves/vowstomoves/model/LongNumbering", "add", "(J)V"⟩ : MethodName) (head1 (Jvm.Cond.code (⟨"com/example/vows_to_moves/vowstomoves/model/LongNumbering", "add", "(J)V"⟩ : MethodName) prog_82_method_7_code 3 none :: ws) ({ frames := 1, cells := 0, slots := 0, locals := 16 } : Room)) (fun a U => a = #[(.ref u0), (.long q1)] ∧ Z.Warmed39 U.vm ∧ U.heap = h0) (fun _ _ _ _ _ => True) (fun _ U o U' => ∃ v L, o = .returned v ∧ Q181 Z u0 q1 lc ja sa kj jc kl w0 w1 w2 w3 h0 n0 v U'.heap L ∧ FrameEnd U o U' L ({ frames := 1, cells := 0, slots := 0, locals := 16 } : Room).cells ({ frames := 1, cells := 0, slots := 0, locals := 16 } : Room).slots) := by
  refine MetFree.of_bodySF (plainFor_of_name own_pn_com_example_vows_to_moves_vowstomoves_model_LongNumbering) hisR ?_
  intro p e s m args below meth c s₁ Bd hml0 hP hK
  obtain ⟨rfl, hZ, hh⟩ := hP
  have hx := Bd.exec
  have hby := Bd.bytes
  have hml : c.maxLocals = 3 := hml0
  have hown : s.vm.findClass "com/example/vows_to_moves/vowstomoves/model/LongNumbering" = some m.cls := findClass_of_methodNamed Bd.named
  have hnm := (name_of_methodNamed Bd.named Bd.method).1
  have X0 : Stand p l e ({ frames := 1, cells := 0, slots := 0, locals := 16 } : Room) s m #[(.ref u0), (.long q1)] below meth c s₁ [] 0 0 := Stand.of_body Bd
  have e0 : s₁.heap = h0 := by rw [← hh, Bd.state]; rfl
  have N0 := Fr.nil n0
  change Go p.tables e below _ _
  refine own_on (B := s₁.setTop (mkF m 0 #[rv u0, .val (.long q1), sn] [])) (fun tz kz => castTop (own_ef_181 m u0 q1) kz) ?_
  have ne_u0_lc : u0 ≠ lc := Nat.ne_of_lt (show @LT.lt Nat _ u0 lc by omega)
  have ne_u0_ja : u0 ≠ ja := Nat.ne_of_lt (show @LT.lt Nat _ u0 ja by omega)
  have ne_u0_sa : u0 ≠ sa := Nat.ne_of_lt (show @LT.lt Nat _ u0 sa by omega)
  have ne_u0_jc : u0 ≠ jc := Nat.ne_of_lt (show @LT.lt Nat _ u0 jc by omega)
  have ne_lc_ja : lc ≠ ja := Nat.ne_of_lt (show @LT.lt Nat _ lc ja by omega)
  have ne_lc_sa : lc ≠ sa := Nat.ne_of_lt (show @LT.lt Nat _ lc sa by omega)
  have ne_lc_jc : lc ≠ jc := Nat.ne_of_lt (show @LT.lt Nat _ lc jc by omega)
  have ne_ja_sa : ja ≠ sa := Nat.ne_of_lt (show @LT.lt Nat _ ja sa by omega)
  have ne_ja_jc : ja ≠ jc := Nat.ne_of_lt (show @LT.lt Nat _ ja jc by omega)
  have ne_sa_jc : sa ≠ jc := Nat.ne_of_lt (show @LT.lt Nat _ sa jc by omega)
  have g_lc : n0 ≤ lc := (show @LE.le Nat _ n0 lc by omega)
  have g_ja : n0 ≤ ja := (show @LE.le Nat _ n0 ja by omega)
  have g_sa : n0 ≤ sa := (show @LE.le Nat _ n0 sa by omega)
  have g_jc : n0 ≤ jc := (show @LE.le Nat _ n0 jc by omega)
  refine own_on (B := s₁.setTop (mkF m 1 #[rv u0, .val (.long q1), sn] [(.ref u0)])) (fun tz kz => ?_) ?_
  · show sT p e below s₁ (mkF m 0 #[rv u0, .val (.long q1), sn] []) tz
    refine XS.aloadN X0.here hx rfl (hb hby own_d18_0) rfl rfl ?_
    exact kz
  obtain ⟨T21, X21, e21, st21⟩ := getF X0 hx hZ hown (host := "") (Or.inl (own_w hw 27 rfl)) Via.refl e0 Fk (g := (mkF m 1 #[rv u0, .val (.long q1), sn] [(.ref u0)])) rfl rfl (hb hby own_d18_1)
  refine own_on (B := T21.setTop (mkF m 4 #[rv u0, .val (.long q1), sn] [(.ref lc)])) (fun tz kz => st21 _ kz) ?_
  obtain ⟨cq22, kq22, q22a, q22b, q22c⟩ := isOf hZ e21 El
  obtain ⟨_, _, ⟨T22, L22, k22, n22⟩, -, X22, ⟨Lc22, hQ22, l22, y22, z22⟩, st22⟩ := X21.virtualBack hx (y := (⟨"com/example/vows_to_moves/vowstomoves/model/LongColumn", "size", "()I"⟩ : MethodName)) (z := (⟨"com/example/vows_to_moves/vowstomoves/model/LongColumn", "size", "()I"⟩ : MethodName)) hown (mvT hZ (own_w hw 91 rfl)) (mvT hZ (own_w hw 92 rfl)) (notFace_of_selects (args := #[]) (mvT hZ (own_w hw 94 rfl))) (mvT hZ (own_w hw 94 rfl)) (mvT hZ (own_w hw 93 rfl)) (by decide) (backOf (W := 0) (rm14 l Z a0 hw [] lc (1 : Int32) h0 n0 O0 Fs) hZ (own_w hw 95 rfl) (own_w hw 18 rfl) (by decide) (by decide)) q22a q22c (g := (mkF m 4 #[rv u0, .val (.long q1), sn] [(.ref lc)])) rfl (by rw [hml]; rfl) (Steps.refl _) (argsL := []) (rest := []) (lenOf own_pd6 rfl) rfl (by show 2 * 0 + _ ≤ _; exact Nat.le_of_eq rfl) (hb hby own_d18_4) (fun _ _ => ⟨rfl, e21, (by decide : 0 + 0 ≤ _), (by decide : 0 + 0 ≤ _)⟩)
  dsimp only [Pt.U, Pt.locs, Pt.cells, Pt.slots] at X22 l22 y22 z22 st22 hQ22
  subst l22 y22 z22
  obtain ⟨rfl, Nq22, e22⟩ := hQ22
  have N22 := Fr.app N0 Nq22
  refine own_on (B := T22.setTop (mkF m 7 #[rv u0, .val (.long q1), sn] [(.int 1)])) (fun tz kz => st22.trans kz) ?_
  refine own_on (B := T22.setTop (mkF m 23 #[rv u0, .val (.long q1), sn] [(.ref u0)])) (fun tz kz => ?_) ?_
  · show sT p e below T22 (mkF m 7 #[rv u0, .val (.long q1), sn] [(.int 1)]) tz
    refine X22.ldcInt hx hown (mvT hZ (own_w hw 116 rfl)) (g := (mkF m 7 #[rv u0, .val (.long q1), sn] [(.int 1)])) rfl (hb hby own_d18_7) _ ?_
    show sT p e below T22 (mkF m 9 #[rv u0, .val (.long q1), sn] [(.int 939524096), (.int 1)]) tz
    refine XS.icmpYes X22.here hx rfl (pc0 := 9) (pc' := 22) rfl (hb hby own_d18_9) rfl (feq (by decide : ¬ ((1 : Int32) = (939524096 : Int32)))).2 (by decide) (by decide) ?_
    show sT p e below T22 (mkF m 22 #[rv u0, .val (.long q1), sn] []) tz
    refine XS.aloadN X22.here hx rfl (hb hby own_d18_22) rfl rfl ?_
    exact kz
  obtain ⟨T23, X23, e23, st23⟩ := getF X22 hx hZ hown (host := "") (Or.inl (own_w hw 27 rfl)) Via.refl e22 Fk (g := (mkF m 23 #[rv u0, .val (.long q1), sn] [(.ref u0)])) rfl rfl (hb hby own_d18_23)
  refine own_on (B := T23.setTop (mkF m 26 #[rv u0, .val (.long q1), sn] [(.ref lc)])) (fun tz kz => st23 _ kz) ?_
  refine own_on (B := T23.setTop (mkF m 27 #[rv u0, .val (.long q1), sn] [(.long q1), (.ref lc)])) (fun tz kz => ?_) ?_
  · show sT p e below T23 (mkF m 26 #[rv u0, .val (.long q1), sn] [(.ref lc)]) tz
    refine XS.lloadN X23.here hx rfl (hb hby own_d18_26) rfl ?_
    exact kz
  obtain ⟨cq24, kq24, q24a, q24b, q24c⟩ := isOf hZ e23 El
  obtain ⟨_, _, ⟨T24, L24, k24, n24⟩, -, X24, ⟨Lc24, hQ24, l24, y24, z24⟩, st24⟩ := X23.virtualBack hx (y := (⟨"com/example/vows_to_moves/vowstomoves/model/LongColumn", "add", "(J)V"⟩ : MethodName)) (z := (⟨"com/example/vows_to_moves/vowstomoves/model/LongColumn", "add", "(J)V"⟩ : MethodName)) hown (mvT hZ (own_w hw 117 rfl)) (mvT hZ (own_w hw 118 rfl)) (notFace_of_selects (args := #[]) (mvT hZ (own_w hw 120 rfl))) (mvT hZ (own_w hw 120 rfl)) (mvT hZ (own_w hw 119 rfl)) (by decide) (backOf (W := 0) (rm191 l Z a0 hw [] lc q1 ja jc kj kl w0 w1 w2 w3 h0 n0 O0 El g_lc Fc Fs Vj Vl (by omega)) hZ (own_w hw 121 rfl) (own_w hw 18 rfl) (by decide) (by decide)) q24a q24c (g := (mkF m 27 #[rv u0, .val (.long q1), sn] [(.long q1), (.ref lc)])) rfl (by rw [hml]; rfl) (Steps.refl _) (argsL := [(.long q1)]) (rest := []) (lenOf own_pd9 rfl) rfl (by show 2 * 0 + _ ≤ _; exact Nat.le_of_eq rfl) (hb hby own_d18_27) (fun _ _ => ⟨rfl, e23, (by decide : 0 + 0 ≤ _), (by decide : 0 + 0 ≤ _)⟩)
  dsimp only [Pt.U, Pt.locs, Pt.cells, Pt.slots] at X24 l24 y24 z24 st24 hQ24
  subst l24 y24 z24
  obtain ⟨rfl, Nq24, Kq24, Fs24, Fc24, Vl24⟩ := hQ24
  have N24 := Fr.app N22 Nq24
  have O25 := O0.keep Kq24 (allS g_lc (allS g_jc all0))
  have K25 : Keep h0 T24.heap [lc, jc] := (Keep.refl h0 [lc, jc]).trans Kq24 (allS (Or.inl (List.mem_of_getElem? (i := 0) rfl)) (allS (Or.inl (List.mem_of_getElem? (i := 1) rfl)) all0))
  refine own_on (B := T24.setTop (mkF m 30 #[rv u0, .val (.long q1), sn] [])) (fun tz kz => st24.trans kz) ?_
  refine own_on (B := T24.setTop (mkF m 32 #[rv u0, .val (.long q1), sn] [(.ref u0), (.int 2)])) (fun tz kz => ?_) ?_
  · show sT p e below T24 (mkF m 30 #[rv u0, .val (.long q1), sn] []) tz
    refine XS.iconst X24.here hx rfl (hb hby own_d18_30) ?_
    show sT p e below T24 (mkF m 31 #[rv u0, .val (.long q1), sn] [(.int 2)]) tz
    refine XS.aloadN X24.here hx rfl (hb hby own_d18_31) rfl rfl ?_
    exact kz
  have f_26 := (Fk.keep Kq24 (ninS ne_u0_lc (ninS ne_u0_jc nin0)))
  obtain ⟨T27, X27, e27, st27⟩ := getF X24 hx hZ hown (host := "") (Or.inl (own_w hw 27 rfl)) Via.refl rfl f_26 (g := (mkF m 32 #[rv u0, .val (.long q1), sn] [(.ref u0), (.int 2)])) rfl rfl (hb hby own_d18_32)
  refine own_on (B := T27.setTop (mkF m 35 #[rv u0, .val (.long q1), sn] [(.ref lc), (.int 2)])) (fun tz kz => st27 _ kz) ?_
  have f_29 := (El.keep Kq24)
  obtain ⟨cq28, kq28, q28a, q28b, q28c⟩ := isOf hZ e27 f_29
  obtain ⟨_, _, ⟨T28, L28, k28, n28⟩, -, X28, ⟨Lc28, hQ28, l28, y28, z28⟩, st28⟩ := X27.virtualBack hx (y := (⟨"com/example/vows_to_moves/vowstomoves/model/LongColumn", "size", "()I"⟩ : MethodName)) (z := (⟨"com/example/vows_to_moves/vowstomoves/model/LongColumn", "size", "()I"⟩ : MethodName)) hown (mvT hZ (own_w hw 91 rfl)) (mvT hZ (own_w hw 92 rfl)) (notFace_of_selects (args := #[]) (mvT hZ (own_w hw 94 rfl))) (mvT hZ (own_w hw 94 rfl)) (mvT hZ (own_w hw 93 rfl)) (by decide) (backOf (W := 1) (rm14 l Z a0 hw [] lc (2 : Int32) T24.heap n0 O25 Fs24) hZ (own_w hw 95 rfl) (own_w hw 18 rfl) (by decide) (by decide)) q28a q28c (g := (mkF m 35 #[rv u0, .val (.long q1), sn] [(.ref lc), (.int 2)])) rfl (by rw [hml]; rfl) (Steps.refl _) (argsL := []) (rest := [(.int (2 : Int32))]) (lenOf own_pd6 rfl) rfl (by show 2 * 0 + _ ≤ _; exact Nat.le_of_eq rfl) (hb hby own_d18_35) (fun _ _ => ⟨rfl, e27, (by decide : 0 + 0 ≤ _), (by decide : 0 + 0 ≤ _)⟩)
  dsimp only [Pt.U, Pt.locs, Pt.cells, Pt.slots] at X28 l28 y28 z28 st28 hQ28
  subst l28 y28 z28
  obtain ⟨rfl, Nq28, e28⟩ := hQ28
  have N28 := Fr.app N24 Nq28
  refine own_on (B := T28.setTop (mkF m 38 #[rv u0, .val (.long q1), sn] [(.int 2), (.int 2)])) (fun tz kz => st28.trans kz) ?_
  refine own_on (B := T28.setTop (mkF m 40 #[rv u0, .val (.long q1), sn] [(.ref u0), (.int 4)])) (fun tz kz => ?_) ?_
  · show sT p e below T28 (mkF m 38 #[rv u0, .val (.long q1), sn] [(.int 2), (.int 2)]) tz
    refine XS.imul X28.here hx rfl (hb hby own_d18_38) rfl ?_
    show sT p e below T28 (mkF m 39 #[rv u0, .val (.long q1), sn] [(.int 4)]) tz
    refine XS.aloadN X28.here hx rfl (hb hby own_d18_39) rfl rfl ?_
    exact kz
  have f_30 := (Fsl.keep Kq24 (ninS ne_u0_lc (ninS ne_u0_jc nin0)))
  obtain ⟨T31, X31, e31, st31⟩ := getF X28 hx hZ hown (host := "") (Or.inl (own_w hw 50 rfl)) Via.refl e28 f_30 (g := (mkF m 40 #[rv u0, .val (.long q1), sn] [(.ref u0), (.int 4)])) rfl rfl (hb hby own_d18_40)
  refine own_on (B := T31.setTop (mkF m 43 #[rv u0, .val (.long q1), sn] [(.ref sa), (.int 4)])) (fun tz kz => st31 _ kz) ?_
  have f_32 := (Vs.keep Kq24 (ninS (Ne.symm ne_lc_sa) (ninS ne_sa_jc nin0)))
  obtain ⟨cl33, Ar33, S33, M33⟩ := id f_32
  refine own_on (B := T31.setTop (mkF m 61 #[rv u0, .val (.long q1), sn] [])) (fun tz kz => ?_) ?_
  · show sT p e below T31 (mkF m 43 #[rv u0, .val (.long q1), sn] [(.ref sa), (.int 4)]) tz
    refine X31.arraylength hx (by rw [e31]; exact Ar33.1) (State.isArrayOf_alike hZ.alike Ar33.2.1) (g := (mkF m 43 #[rv u0, .val (.long q1), sn] [(.ref sa), (.int 4)])) rfl rfl (hb hby own_d18_43) _ ?_
    rw [len_of S33 M33]
    show sT p e below T31 (mkF m 44 #[rv u0, .val (.long q1), sn] [(.int 32), (.int 4)]) tz
    refine XS.icmpYes X31.here hx rfl (pc0 := 44) (pc' := 61) rfl (hb hby own_d18_44) rfl (flt (by decide : ¬ ((32 : Int32) < (4 : Int32)))).2.2.2 (by decide) (by decide) ?_
    exact kz
  obtain ⟨fs, hr, hrun, hended, hW, hsame⟩ := X31.leave (v := none) (fun _ => rfl)
  refine own_of ⟨_, _, ?_, hrun, hended, _, _, rfl, ?_, ⟨_, rfl⟩, hW, hsame.mono (by decide) (by decide)⟩
  · show sT p e below T31 (mkF m 61 #[rv u0, .val (.long q1), sn] []) _
    exact X31.returnOut hx Bd.returns (hb hby own_d18_61) hr
  · show Q181 Z u0 q1 lc ja sa kj jc kl w0 w1 w2 w3 h0 n0 _ T31.heap _
    rw [e31]
    exact ⟨rfl, N28, K25, Fs24, Fc24, Vl24⟩
theorem own_ef_182 (m : MethodId) (x0 : Addr) (x1 : Int64) : entryFrame m #[(.ref x0), (.long x1)] 3 = mkF m 0 #[rv x0, .val (.long x1), .second] [] := by first | (simp [entryFrame, mkF, argsToLocals, Value.category]; done) | rfl
def Q182 (Z : State) (u0 : Addr) (q1 : Int64) (lc : Addr) (ja : Addr) (sa : Addr) (kj : ClassId) (jc : Addr) (kl : ClassId) (w0 : Int64) (w1 : Int64) (w2 : Int64) (w3 : Int64) (h0 : Heap) (n0 : Nat) (v : Option Value) (h : Heap) (L : List Loc) : Prop := v = none ∧ Fr n0 L ∧ Keep h0 h [lc, jc] ∧ Fld Z h lc "com/example/vows_to_moves/vowstomoves/model/LongColumn" "size" "I" (.int (3 : Int32)) ∧ Fld Z h lc "com/example/vows_to_moves/vowstomoves/model/LongColumn" "chunks" "[[J" (.ref ja) ∧ Arv Z h jc kl .long (32768 : Int32) [(.long w0), (.long w1), (.long q1), (.long w3)] (.long 0)
set_option maxRecDepth 65536 in
set_option maxHeartbeats 40000000 in
theorem rm182 (l : Launch) (Z : State) (a0 : Array Value) (hw : ∀ d ∈ tables_1, d.before a0 Z = true) (ws : List Jvm.Cond) (u0 : Addr) (q1 : Int64) (lc : Addr) (ja : Addr) (sa : Addr) (kj : ClassId) (jc : Addr) (kl : ClassId) (w0 : Int64) (w1 : Int64) (w2 : Int64) (w3 : Int64) (h0 : Heap) (n0 : Nat) (O0 : Old Z n0 h0) (E_u0 : Exa Z h0 u0 "com/example/vows_to_moves/vowstomoves/model/LongNumbering") (g_u0 : n0 ≤ u0) (Fk : Fld Z h0 u0 "com/example/vows_to_moves/vowstomoves/model/LongNumbering" "keys" "Lcom/example/vows_to_moves/vowstomoves/model/LongColumn;" (.ref lc)) (Fsl : Fld Z h0 u0 "com/example/vows_to_moves/vowstomoves/model/LongNumbering" "slots" "[I" (.ref sa)) (El : Exa Z h0 lc "com/example/vows_to_moves/vowstomoves/model/LongColumn") (Fc : Fld Z h0 lc "com/example/vows_to_moves/vowstomoves/model/LongColumn" "chunks" "[[J" (.ref ja)) (Fs : Fld Z h0 lc "com/example/vows_to_moves/vowstomoves/model/LongColumn" "size" "I" (.int (2 : Int32))) (Vj : Arv Z h0 ja kj (.array .long) (4 : Int32) [(.ref jc), .null, .null, .null] .null) (Vs : OwnArz Z h0 sa .int 32) (Vl : Arv Z h0 jc kl .long (32768 : Int32) [(.long w0), (.long w1), (.long w2), (.long w3)] (.long 0)) (o1 : @LT.lt Nat _ u0 lc ∧ @LT.lt Nat _ lc ja ∧ @LT.lt Nat _ ja sa ∧ @LT.lt Nat _ sa jc) :
    MetFree l (⟨"com/example/vows_to_moves/vowstomoves/model/LongNumbering", "add", "(J)V"⟩ : MethodName) (head1 (Jvm.Cond.code (⟨"com/example/vows_to_moves/vowstomoves/model/LongNumbering", "add", "(J)V"⟩ : MethodName) prog_82_method_7_code 3 none :: ws) ({ frames := 1, cells := 0, slots := 0, locals := 16 } : Room)) (fun a U => a = #[(.ref u0), (.long q1)] ∧ Z.Warmed39 U.vm ∧ U.heap = h0) (fun _ _ _ _ _ => True) (fun _ U o U' => ∃ v L, o = .returned v ∧ Q182 Z u0 q1 lc ja sa kj jc kl w0 w1 w2 w3 h0 n0 v U'.heap L ∧ FrameEnd U o U' L ({ frames := 1, cells := 0, slots := 0, locals := 16 } : Room).cells ({ frames := 1, cells := 0, slots := 0, locals := 16 } : Room).slots) := by
  refine MetFree.of_bodySF (plainFor_of_name own_pn_com_example_vows_to_moves_vowstomoves_model_LongNumbering) hisR ?_
  intro p e s m args below meth c s₁ Bd hml0 hP hK
  obtain ⟨rfl, hZ, hh⟩ := hP
  have hx := Bd.exec
  have hby := Bd.bytes
  have hml : c.maxLocals = 3 := hml0
  have hown : s.vm.findClass "com/example/vows_to_moves/vowstomoves/model/LongNumbering" = some m.cls := findClass_of_methodNamed Bd.named
  have hnm := (name_of_methodNamed Bd.named Bd.method).1
  have X0 : Stand p l e ({ frames := 1, cells := 0, slots := 0, locals := 16 } : Room) s m #[(.ref u0), (.long q1)] below meth c s₁ [] 0 0 := Stand.of_body Bd
  have e0 : s₁.heap = h0 := by rw [← hh, Bd.state]; rfl
  have N0 := Fr.nil n0
  change Go p.tables e below _ _
  refine own_on (B := s₁.setTop (mkF m 0 #[rv u0, .val (.long q1), sn] [])) (fun tz kz => castTop (own_ef_182 m u0 q1) kz) ?_
  have ne_u0_lc : u0 ≠ lc := Nat.ne_of_lt (show @LT.lt Nat _ u0 lc by omega)
  have ne_u0_ja : u0 ≠ ja := Nat.ne_of_lt (show @LT.lt Nat _ u0 ja by omega)
  have ne_u0_sa : u0 ≠ sa := Nat.ne_of_lt (show @LT.lt Nat _ u0 sa by omega)
  have ne_u0_jc : u0 ≠ jc := Nat.ne_of_lt (show @LT.lt Nat _ u0 jc by omega)
  have ne_lc_ja : lc ≠ ja := Nat.ne_of_lt (show @LT.lt Nat _ lc ja by omega)
  have ne_lc_sa : lc ≠ sa := Nat.ne_of_lt (show @LT.lt Nat _ lc sa by omega)
  have ne_lc_jc : lc ≠ jc := Nat.ne_of_lt (show @LT.lt Nat _ lc jc by omega)
  have ne_ja_sa : ja ≠ sa := Nat.ne_of_lt (show @LT.lt Nat _ ja sa by omega)
  have ne_ja_jc : ja ≠ jc := Nat.ne_of_lt (show @LT.lt Nat _ ja jc by omega)
  have ne_sa_jc : sa ≠ jc := Nat.ne_of_lt (show @LT.lt Nat _ sa jc by omega)
  have g_lc : n0 ≤ lc := (show @LE.le Nat _ n0 lc by omega)
  have g_ja : n0 ≤ ja := (show @LE.le Nat _ n0 ja by omega)
  have g_sa : n0 ≤ sa := (show @LE.le Nat _ n0 sa by omega)
  have g_jc : n0 ≤ jc := (show @LE.le Nat _ n0 jc by omega)
  refine own_on (B := s₁.setTop (mkF m 1 #[rv u0, .val (.long q1), sn] [(.ref u0)])) (fun tz kz => ?_) ?_
  · show sT p e below s₁ (mkF m 0 #[rv u0, .val (.long q1), sn] []) tz
    refine XS.aloadN X0.here hx rfl (hb hby own_d18_0) rfl rfl ?_
    exact kz
  obtain ⟨T21, X21, e21, st21⟩ := getF X0 hx hZ hown (host := "") (Or.inl (own_w hw 27 rfl)) Via.refl e0 Fk (g := (mkF m 1 #[rv u0, .val (.long q1), sn] [(.ref u0)])) rfl rfl (hb hby own_d18_1)
  refine own_on (B := T21.setTop (mkF m 4 #[rv u0, .val (.long q1), sn] [(.ref lc)])) (fun tz kz => st21 _ kz) ?_
  obtain ⟨cq22, kq22, q22a, q22b, q22c⟩ := isOf hZ e21 El
  obtain ⟨_, _, ⟨T22, L22, k22, n22⟩, -, X22, ⟨Lc22, hQ22, l22, y22, z22⟩, st22⟩ := X21.virtualBack hx (y := (⟨"com/example/vows_to_moves/vowstomoves/model/LongColumn", "size", "()I"⟩ : MethodName)) (z := (⟨"com/example/vows_to_moves/vowstomoves/model/LongColumn", "size", "()I"⟩ : MethodName)) hown (mvT hZ (own_w hw 91 rfl)) (mvT hZ (own_w hw 92 rfl)) (notFace_of_selects (args := #[]) (mvT hZ (own_w hw 94 rfl))) (mvT hZ (own_w hw 94 rfl)) (mvT hZ (own_w hw 93 rfl)) (by decide) (backOf (W := 0) (rm14 l Z a0 hw [] lc (2 : Int32) h0 n0 O0 Fs) hZ (own_w hw 95 rfl) (own_w hw 18 rfl) (by decide) (by decide)) q22a q22c (g := (mkF m 4 #[rv u0, .val (.long q1), sn] [(.ref lc)])) rfl (by rw [hml]; rfl) (Steps.refl _) (argsL := []) (rest := []) (lenOf own_pd6 rfl) rfl (by show 2 * 0 + _ ≤ _; exact Nat.le_of_eq rfl) (hb hby own_d18_4) (fun _ _ => ⟨rfl, e21, (by decide : 0 + 0 ≤ _), (by decide : 0 + 0 ≤ _)⟩)
  dsimp only [Pt.U, Pt.locs, Pt.cells, Pt.slots] at X22 l22 y22 z22 st22 hQ22
  subst l22 y22 z22
  obtain ⟨rfl, Nq22, e22⟩ := hQ22
  have N22 := Fr.app N0 Nq22
  refine own_on (B := T22.setTop (mkF m 7 #[rv u0, .val (.long q1), sn] [(.int 2)])) (fun tz kz => st22.trans kz) ?_
  refine own_on (B := T22.setTop (mkF m 23 #[rv u0, .val (.long q1), sn] [(.ref u0)])) (fun tz kz => ?_) ?_
  · show sT p e below T22 (mkF m 7 #[rv u0, .val (.long q1), sn] [(.int 2)]) tz
    refine X22.ldcInt hx hown (mvT hZ (own_w hw 116 rfl)) (g := (mkF m 7 #[rv u0, .val (.long q1), sn] [(.int 2)])) rfl (hb hby own_d18_7) _ ?_
    show sT p e below T22 (mkF m 9 #[rv u0, .val (.long q1), sn] [(.int 939524096), (.int 2)]) tz
    refine XS.icmpYes X22.here hx rfl (pc0 := 9) (pc' := 22) rfl (hb hby own_d18_9) rfl (feq (by decide : ¬ ((2 : Int32) = (939524096 : Int32)))).2 (by decide) (by decide) ?_
    show sT p e below T22 (mkF m 22 #[rv u0, .val (.long q1), sn] []) tz
    refine XS.aloadN X22.here hx rfl (hb hby own_d18_22) rfl rfl ?_
    exact kz
  obtain ⟨T23, X23, e23, st23⟩ := getF X22 hx hZ hown (host := "") (Or.inl (own_w hw 27 rfl)) Via.refl e22 Fk (g := (mkF m 23 #[rv u0, .val (.long q1), sn] [(.ref u0)])) rfl rfl (hb hby own_d18_23)
  refine own_on (B := T23.setTop (mkF m 26 #[rv u0, .val (.long q1), sn] [(.ref lc)])) (fun tz kz => st23 _ kz) ?_
  refine own_on (B := T23.setTop (mkF m 27 #[rv u0, .val (.long q1), sn] [(.long q1), (.ref lc)])) (fun tz kz => ?_) ?_
  · show sT p e below T23 (mkF m 26 #[rv u0, .val (.long q1), sn] [(.ref lc)]) tz
    refine XS.lloadN X23.here hx rfl (hb hby own_d18_26) rfl ?_
    exact kz
  obtain ⟨cq24, kq24, q24a, q24b, q24c⟩ := isOf hZ e23 El
  obtain ⟨_, _, ⟨T24, L24, k24, n24⟩, -, X24, ⟨Lc24, hQ24, l24, y24, z24⟩, st24⟩ := X23.virtualBack hx (y := (⟨"com/example/vows_to_moves/vowstomoves/model/LongColumn", "add", "(J)V"⟩ : MethodName)) (z := (⟨"com/example/vows_to_moves/vowstomoves/model/LongColumn", "add", "(J)V"⟩ : MethodName)) hown (mvT hZ (own_w hw 117 rfl)) (mvT hZ (own_w hw 118 rfl)) (notFace_of_selects (args := #[]) (mvT hZ (own_w hw 120 rfl))) (mvT hZ (own_w hw 120 rfl)) (mvT hZ (own_w hw 119 rfl)) (by decide) (backOf (W := 0) (rm192 l Z a0 hw [] lc q1 ja jc kj kl w0 w1 w2 w3 h0 n0 O0 El g_lc Fc Fs Vj Vl (by omega)) hZ (own_w hw 121 rfl) (own_w hw 18 rfl) (by decide) (by decide)) q24a q24c (g := (mkF m 27 #[rv u0, .val (.long q1), sn] [(.long q1), (.ref lc)])) rfl (by rw [hml]; rfl) (Steps.refl _) (argsL := [(.long q1)]) (rest := []) (lenOf own_pd9 rfl) rfl (by show 2 * 0 + _ ≤ _; exact Nat.le_of_eq rfl) (hb hby own_d18_27) (fun _ _ => ⟨rfl, e23, (by decide : 0 + 0 ≤ _), (by decide : 0 + 0 ≤ _)⟩)
  dsimp only [Pt.U, Pt.locs, Pt.cells, Pt.slots] at X24 l24 y24 z24 st24 hQ24
  subst l24 y24 z24
  obtain ⟨rfl, Nq24, Kq24, Fs24, Fc24, Vl24⟩ := hQ24
  have N24 := Fr.app N22 Nq24
  have O25 := O0.keep Kq24 (allS g_lc (allS g_jc all0))
  have K25 : Keep h0 T24.heap [lc, jc] := (Keep.refl h0 [lc, jc]).trans Kq24 (allS (Or.inl (List.mem_of_getElem? (i := 0) rfl)) (allS (Or.inl (List.mem_of_getElem? (i := 1) rfl)) all0))
  refine own_on (B := T24.setTop (mkF m 30 #[rv u0, .val (.long q1), sn] [])) (fun tz kz => st24.trans kz) ?_
  refine own_on (B := T24.setTop (mkF m 32 #[rv u0, .val (.long q1), sn] [(.ref u0), (.int 2)])) (fun tz kz => ?_) ?_
  · show sT p e below T24 (mkF m 30 #[rv u0, .val (.long q1), sn] []) tz
    refine XS.iconst X24.here hx rfl (hb hby own_d18_30) ?_
    show sT p e below T24 (mkF m 31 #[rv u0, .val (.long q1), sn] [(.int 2)]) tz
    refine XS.aloadN X24.here hx rfl (hb hby own_d18_31) rfl rfl ?_
    exact kz
  have f_26 := (Fk.keep Kq24 (ninS ne_u0_lc (ninS ne_u0_jc nin0)))
  obtain ⟨T27, X27, e27, st27⟩ := getF X24 hx hZ hown (host := "") (Or.inl (own_w hw 27 rfl)) Via.refl rfl f_26 (g := (mkF m 32 #[rv u0, .val (.long q1), sn] [(.ref u0), (.int 2)])) rfl rfl (hb hby own_d18_32)
  refine own_on (B := T27.setTop (mkF m 35 #[rv u0, .val (.long q1), sn] [(.ref lc), (.int 2)])) (fun tz kz => st27 _ kz) ?_
  have f_29 := (El.keep Kq24)
  obtain ⟨cq28, kq28, q28a, q28b, q28c⟩ := isOf hZ e27 f_29
  obtain ⟨_, _, ⟨T28, L28, k28, n28⟩, -, X28, ⟨Lc28, hQ28, l28, y28, z28⟩, st28⟩ := X27.virtualBack hx (y := (⟨"com/example/vows_to_moves/vowstomoves/model/LongColumn", "size", "()I"⟩ : MethodName)) (z := (⟨"com/example/vows_to_moves/vowstomoves/model/LongColumn", "size", "()I"⟩ : MethodName)) hown (mvT hZ (own_w hw 91 rfl)) (mvT hZ (own_w hw 92 rfl)) (notFace_of_selects (args := #[]) (mvT hZ (own_w hw 94 rfl))) (mvT hZ (own_w hw 94 rfl)) (mvT hZ (own_w hw 93 rfl)) (by decide) (backOf (W := 1) (rm14 l Z a0 hw [] lc (3 : Int32) T24.heap n0 O25 Fs24) hZ (own_w hw 95 rfl) (own_w hw 18 rfl) (by decide) (by decide)) q28a q28c (g := (mkF m 35 #[rv u0, .val (.long q1), sn] [(.ref lc), (.int 2)])) rfl (by rw [hml]; rfl) (Steps.refl _) (argsL := []) (rest := [(.int (2 : Int32))]) (lenOf own_pd6 rfl) rfl (by show 2 * 0 + _ ≤ _; exact Nat.le_of_eq rfl) (hb hby own_d18_35) (fun _ _ => ⟨rfl, e27, (by decide : 0 + 0 ≤ _), (by decide : 0 + 0 ≤ _)⟩)
  dsimp only [Pt.U, Pt.locs, Pt.cells, Pt.slots] at X28 l28 y28 z28 st28 hQ28
  subst l28 y28 z28
  obtain ⟨rfl, Nq28, e28⟩ := hQ28
  have N28 := Fr.app N24 Nq28
  refine own_on (B := T28.setTop (mkF m 38 #[rv u0, .val (.long q1), sn] [(.int 3), (.int 2)])) (fun tz kz => st28.trans kz) ?_
  refine own_on (B := T28.setTop (mkF m 40 #[rv u0, .val (.long q1), sn] [(.ref u0), (.int 6)])) (fun tz kz => ?_) ?_
  · show sT p e below T28 (mkF m 38 #[rv u0, .val (.long q1), sn] [(.int 3), (.int 2)]) tz
    refine XS.imul X28.here hx rfl (hb hby own_d18_38) rfl ?_
    show sT p e below T28 (mkF m 39 #[rv u0, .val (.long q1), sn] [(.int 6)]) tz
    refine XS.aloadN X28.here hx rfl (hb hby own_d18_39) rfl rfl ?_
    exact kz
  have f_30 := (Fsl.keep Kq24 (ninS ne_u0_lc (ninS ne_u0_jc nin0)))
  obtain ⟨T31, X31, e31, st31⟩ := getF X28 hx hZ hown (host := "") (Or.inl (own_w hw 50 rfl)) Via.refl e28 f_30 (g := (mkF m 40 #[rv u0, .val (.long q1), sn] [(.ref u0), (.int 6)])) rfl rfl (hb hby own_d18_40)
  refine own_on (B := T31.setTop (mkF m 43 #[rv u0, .val (.long q1), sn] [(.ref sa), (.int 6)])) (fun tz kz => st31 _ kz) ?_
  have f_32 := (Vs.keep Kq24 (ninS (Ne.symm ne_lc_sa) (ninS ne_sa_jc nin0)))
  obtain ⟨cl33, Ar33, S33, M33⟩ := id f_32
  refine own_on (B := T31.setTop (mkF m 61 #[rv u0, .val (.long q1), sn] [])) (fun tz kz => ?_) ?_
  · show sT p e below T31 (mkF m 43 #[rv u0, .val (.long q1), sn] [(.ref sa), (.int 6)]) tz
    refine X31.arraylength hx (by rw [e31]; exact Ar33.1) (State.isArrayOf_alike hZ.alike Ar33.2.1) (g := (mkF m 43 #[rv u0, .val (.long q1), sn] [(.ref sa), (.int 6)])) rfl rfl (hb hby own_d18_43) _ ?_
    rw [len_of S33 M33]
    show sT p e below T31 (mkF m 44 #[rv u0, .val (.long q1), sn] [(.int 32), (.int 6)]) tz
    refine XS.icmpYes X31.here hx rfl (pc0 := 44) (pc' := 61) rfl (hb hby own_d18_44) rfl (flt (by decide : ¬ ((32 : Int32) < (6 : Int32)))).2.2.2 (by decide) (by decide) ?_
    exact kz
  obtain ⟨fs, hr, hrun, hended, hW, hsame⟩ := X31.leave (v := none) (fun _ => rfl)
  refine own_of ⟨_, _, ?_, hrun, hended, _, _, rfl, ?_, ⟨_, rfl⟩, hW, hsame.mono (by decide) (by decide)⟩
  · show sT p e below T31 (mkF m 61 #[rv u0, .val (.long q1), sn] []) _
    exact X31.returnOut hx Bd.returns (hb hby own_d18_61) hr
  · show Q182 Z u0 q1 lc ja sa kj jc kl w0 w1 w2 w3 h0 n0 _ T31.heap _
    rw [e31]
    exact ⟨rfl, N28, K25, Fs24, Fc24, Vl24⟩
theorem own_ef_183 (m : MethodId) (x0 : Addr) (x1 : Int64) : entryFrame m #[(.ref x0), (.long x1)] 3 = mkF m 0 #[rv x0, .val (.long x1), .second] [] := by first | (simp [entryFrame, mkF, argsToLocals, Value.category]; done) | rfl
def Q183 (Z : State) (u0 : Addr) (q1 : Int64) (lc : Addr) (ja : Addr) (sa : Addr) (kj : ClassId) (jc : Addr) (kl : ClassId) (w0 : Int64) (w1 : Int64) (w2 : Int64) (w3 : Int64) (h0 : Heap) (n0 : Nat) (v : Option Value) (h : Heap) (L : List Loc) : Prop := v = none ∧ Fr n0 L ∧ Keep h0 h [lc, jc] ∧ Fld Z h lc "com/example/vows_to_moves/vowstomoves/model/LongColumn" "size" "I" (.int (4 : Int32)) ∧ Fld Z h lc "com/example/vows_to_moves/vowstomoves/model/LongColumn" "chunks" "[[J" (.ref ja) ∧ Arv Z h jc kl .long (32768 : Int32) [(.long w0), (.long w1), (.long w2), (.long q1)] (.long 0)
set_option maxRecDepth 65536 in
set_option maxHeartbeats 40000000 in
theorem rm183 (l : Launch) (Z : State) (a0 : Array Value) (hw : ∀ d ∈ tables_1, d.before a0 Z = true) (ws : List Jvm.Cond) (u0 : Addr) (q1 : Int64) (lc : Addr) (ja : Addr) (sa : Addr) (kj : ClassId) (jc : Addr) (kl : ClassId) (w0 : Int64) (w1 : Int64) (w2 : Int64) (w3 : Int64) (h0 : Heap) (n0 : Nat) (O0 : Old Z n0 h0) (E_u0 : Exa Z h0 u0 "com/example/vows_to_moves/vowstomoves/model/LongNumbering") (g_u0 : n0 ≤ u0) (Fk : Fld Z h0 u0 "com/example/vows_to_moves/vowstomoves/model/LongNumbering" "keys" "Lcom/example/vows_to_moves/vowstomoves/model/LongColumn;" (.ref lc)) (Fsl : Fld Z h0 u0 "com/example/vows_to_moves/vowstomoves/model/LongNumbering" "slots" "[I" (.ref sa)) (El : Exa Z h0 lc "com/example/vows_to_moves/vowstomoves/model/LongColumn") (Fc : Fld Z h0 lc "com/example/vows_to_moves/vowstomoves/model/LongColumn" "chunks" "[[J" (.ref ja)) (Fs : Fld Z h0 lc "com/example/vows_to_moves/vowstomoves/model/LongColumn" "size" "I" (.int (3 : Int32))) (Vj : Arv Z h0 ja kj (.array .long) (4 : Int32) [(.ref jc), .null, .null, .null] .null) (Vs : OwnArz Z h0 sa .int 32) (Vl : Arv Z h0 jc kl .long (32768 : Int32) [(.long w0), (.long w1), (.long w2), (.long w3)] (.long 0)) (o1 : @LT.lt Nat _ u0 lc ∧ @LT.lt Nat _ lc ja ∧ @LT.lt Nat _ ja sa ∧ @LT.lt Nat _ sa jc) :
    MetFree l (⟨"com/example/vows_to_moves/vowstomoves/model/LongNumbering", "add", "(J)V"⟩ : MethodName) (head1 (Jvm.Cond.code (⟨"com/example/vows_to_moves/vowstomoves/model/LongNumbering", "add", "(J)V"⟩ : MethodName) prog_82_method_7_code 3 none :: ws) ({ frames := 1, cells := 0, slots := 0, locals := 16 } : Room)) (fun a U => a = #[(.ref u0), (.long q1)] ∧ Z.Warmed39 U.vm ∧ U.heap = h0) (fun _ _ _ _ _ => True) (fun _ U o U' => ∃ v L, o = .returned v ∧ Q183 Z u0 q1 lc ja sa kj jc kl w0 w1 w2 w3 h0 n0 v U'.heap L ∧ FrameEnd U o U' L ({ frames := 1, cells := 0, slots := 0, locals := 16 } : Room).cells ({ frames := 1, cells := 0, slots := 0, locals := 16 } : Room).slots) := by
  refine MetFree.of_bodySF (plainFor_of_name own_pn_com_example_vows_to_moves_vowstomoves_model_LongNumbering) hisR ?_
  intro p e s m args below meth c s₁ Bd hml0 hP hK
  obtain ⟨rfl, hZ, hh⟩ := hP
  have hx := Bd.exec
  have hby := Bd.bytes
  have hml : c.maxLocals = 3 := hml0
  have hown : s.vm.findClass "com/example/vows_to_moves/vowstomoves/model/LongNumbering" = some m.cls := findClass_of_methodNamed Bd.named
  have hnm := (name_of_methodNamed Bd.named Bd.method).1
  have X0 : Stand p l e ({ frames := 1, cells := 0, slots := 0, locals := 16 } : Room) s m #[(.ref u0), (.long q1)] below meth c s₁ [] 0 0 := Stand.of_body Bd
  have e0 : s₁.heap = h0 := by rw [← hh, Bd.state]; rfl
  have N0 := Fr.nil n0
  change Go p.tables e below _ _
  refine own_on (B := s₁.setTop (mkF m 0 #[rv u0, .val (.long q1), sn] [])) (fun tz kz => castTop (own_ef_183 m u0 q1) kz) ?_
  have ne_u0_lc : u0 ≠ lc := Nat.ne_of_lt (show @LT.lt Nat _ u0 lc by omega)
  have ne_u0_ja : u0 ≠ ja := Nat.ne_of_lt (show @LT.lt Nat _ u0 ja by omega)
  have ne_u0_sa : u0 ≠ sa := Nat.ne_of_lt (show @LT.lt Nat _ u0 sa by omega)
  have ne_u0_jc : u0 ≠ jc := Nat.ne_of_lt (show @LT.lt Nat _ u0 jc by omega)
  have ne_lc_ja : lc ≠ ja := Nat.ne_of_lt (show @LT.lt Nat _ lc ja by omega)
  have ne_lc_sa : lc ≠ sa := Nat.ne_of_lt (show @LT.lt Nat _ lc sa by omega)
  have ne_lc_jc : lc ≠ jc := Nat.ne_of_lt (show @LT.lt Nat _ lc jc by omega)
  have ne_ja_sa : ja ≠ sa := Nat.ne_of_lt (show @LT.lt Nat _ ja sa by omega)
  have ne_ja_jc : ja ≠ jc := Nat.ne_of_lt (show @LT.lt Nat _ ja jc by omega)
  have ne_sa_jc : sa ≠ jc := Nat.ne_of_lt (show @LT.lt Nat _ sa jc by omega)
  have g_lc : n0 ≤ lc := (show @LE.le Nat _ n0 lc by omega)
  have g_ja : n0 ≤ ja := (show @LE.le Nat _ n0 ja by omega)
  have g_sa : n0 ≤ sa := (show @LE.le Nat _ n0 sa by omega)
  have g_jc : n0 ≤ jc := (show @LE.le Nat _ n0 jc by omega)
  refine own_on (B := s₁.setTop (mkF m 1 #[rv u0, .val (.long q1), sn] [(.ref u0)])) (fun tz kz => ?_) ?_
  · show sT p e below s₁ (mkF m 0 #[rv u0, .val (.long q1), sn] []) tz
    refine XS.aloadN X0.here hx rfl (hb hby own_d18_0) rfl rfl ?_
    exact kz
  obtain ⟨T21, X21, e21, st21⟩ := getF X0 hx hZ hown (host := "") (Or.inl (own_w hw 27 rfl)) Via.refl e0 Fk (g := (mkF m 1 #[rv u0, .val (.long q1), sn] [(.ref u0)])) rfl rfl (hb hby own_d18_1)
  refine own_on (B := T21.setTop (mkF m 4 #[rv u0, .val (.long q1), sn] [(.ref lc)])) (fun tz kz => st21 _ kz) ?_
  obtain ⟨cq22, kq22, q22a, q22b, q22c⟩ := isOf hZ e21 El
  obtain ⟨_, _, ⟨T22, L22, k22, n22⟩, -, X22, ⟨Lc22, hQ22, l22, y22, z22⟩, st22⟩ := X21.virtualBack hx (y := (⟨"com/example/vows_to_moves/vowstomoves/model/LongColumn", "size", "()I"⟩ : MethodName)) (z := (⟨"com/example/vows_to_moves/vowstomoves/model/LongColumn", "size", "()I"⟩ : MethodName)) hown (mvT hZ (own_w hw 91 rfl)) (mvT hZ (own_w hw 92 rfl)) (notFace_of_selects (args := #[]) (mvT hZ (own_w hw 94 rfl))) (mvT hZ (own_w hw 94 rfl)) (mvT hZ (own_w hw 93 rfl)) (by decide) (backOf (W := 0) (rm14 l Z a0 hw [] lc (3 : Int32) h0 n0 O0 Fs) hZ (own_w hw 95 rfl) (own_w hw 18 rfl) (by decide) (by decide)) q22a q22c (g := (mkF m 4 #[rv u0, .val (.long q1), sn] [(.ref lc)])) rfl (by rw [hml]; rfl) (Steps.refl _) (argsL := []) (rest := []) (lenOf own_pd6 rfl) rfl (by show 2 * 0 + _ ≤ _; exact Nat.le_of_eq rfl) (hb hby own_d18_4) (fun _ _ => ⟨rfl, e21, (by decide : 0 + 0 ≤ _), (by decide : 0 + 0 ≤ _)⟩)
  dsimp only [Pt.U, Pt.locs, Pt.cells, Pt.slots] at X22 l22 y22 z22 st22 hQ22
  subst l22 y22 z22
  obtain ⟨rfl, Nq22, e22⟩ := hQ22
  have N22 := Fr.app N0 Nq22
  refine own_on (B := T22.setTop (mkF m 7 #[rv u0, .val (.long q1), sn] [(.int 3)])) (fun tz kz => st22.trans kz) ?_
  refine own_on (B := T22.setTop (mkF m 23 #[rv u0, .val (.long q1), sn] [(.ref u0)])) (fun tz kz => ?_) ?_
  · show sT p e below T22 (mkF m 7 #[rv u0, .val (.long q1), sn] [(.int 3)]) tz
    refine X22.ldcInt hx hown (mvT hZ (own_w hw 116 rfl)) (g := (mkF m 7 #[rv u0, .val (.long q1), sn] [(.int 3)])) rfl (hb hby own_d18_7) _ ?_
    show sT p e below T22 (mkF m 9 #[rv u0, .val (.long q1), sn] [(.int 939524096), (.int 3)]) tz
    refine XS.icmpYes X22.here hx rfl (pc0 := 9) (pc' := 22) rfl (hb hby own_d18_9) rfl (feq (by decide : ¬ ((3 : Int32) = (939524096 : Int32)))).2 (by decide) (by decide) ?_
    show sT p e below T22 (mkF m 22 #[rv u0, .val (.long q1), sn] []) tz
    refine XS.aloadN X22.here hx rfl (hb hby own_d18_22) rfl rfl ?_
    exact kz
  obtain ⟨T23, X23, e23, st23⟩ := getF X22 hx hZ hown (host := "") (Or.inl (own_w hw 27 rfl)) Via.refl e22 Fk (g := (mkF m 23 #[rv u0, .val (.long q1), sn] [(.ref u0)])) rfl rfl (hb hby own_d18_23)
  refine own_on (B := T23.setTop (mkF m 26 #[rv u0, .val (.long q1), sn] [(.ref lc)])) (fun tz kz => st23 _ kz) ?_
  refine own_on (B := T23.setTop (mkF m 27 #[rv u0, .val (.long q1), sn] [(.long q1), (.ref lc)])) (fun tz kz => ?_) ?_
  · show sT p e below T23 (mkF m 26 #[rv u0, .val (.long q1), sn] [(.ref lc)]) tz
    refine XS.lloadN X23.here hx rfl (hb hby own_d18_26) rfl ?_
    exact kz
  obtain ⟨cq24, kq24, q24a, q24b, q24c⟩ := isOf hZ e23 El
  obtain ⟨_, _, ⟨T24, L24, k24, n24⟩, -, X24, ⟨Lc24, hQ24, l24, y24, z24⟩, st24⟩ := X23.virtualBack hx (y := (⟨"com/example/vows_to_moves/vowstomoves/model/LongColumn", "add", "(J)V"⟩ : MethodName)) (z := (⟨"com/example/vows_to_moves/vowstomoves/model/LongColumn", "add", "(J)V"⟩ : MethodName)) hown (mvT hZ (own_w hw 117 rfl)) (mvT hZ (own_w hw 118 rfl)) (notFace_of_selects (args := #[]) (mvT hZ (own_w hw 120 rfl))) (mvT hZ (own_w hw 120 rfl)) (mvT hZ (own_w hw 119 rfl)) (by decide) (backOf (W := 0) (rm193 l Z a0 hw [] lc q1 ja jc kj kl w0 w1 w2 w3 h0 n0 O0 El g_lc Fc Fs Vj Vl (by omega)) hZ (own_w hw 121 rfl) (own_w hw 18 rfl) (by decide) (by decide)) q24a q24c (g := (mkF m 27 #[rv u0, .val (.long q1), sn] [(.long q1), (.ref lc)])) rfl (by rw [hml]; rfl) (Steps.refl _) (argsL := [(.long q1)]) (rest := []) (lenOf own_pd9 rfl) rfl (by show 2 * 0 + _ ≤ _; exact Nat.le_of_eq rfl) (hb hby own_d18_27) (fun _ _ => ⟨rfl, e23, (by decide : 0 + 0 ≤ _), (by decide : 0 + 0 ≤ _)⟩)
  dsimp only [Pt.U, Pt.locs, Pt.cells, Pt.slots] at X24 l24 y24 z24 st24 hQ24
  subst l24 y24 z24
  obtain ⟨rfl, Nq24, Kq24, Fs24, Fc24, Vl24⟩ := hQ24
  have N24 := Fr.app N22 Nq24
  have O25 := O0.keep Kq24 (allS g_lc (allS g_jc all0))
  have K25 : Keep h0 T24.heap [lc, jc] := (Keep.refl h0 [lc, jc]).trans Kq24 (allS (Or.inl (List.mem_of_getElem? (i := 0) rfl)) (allS (Or.inl (List.mem_of_getElem? (i := 1) rfl)) all0))
  refine own_on (B := T24.setTop (mkF m 30 #[rv u0, .val (.long q1), sn] [])) (fun tz kz => st24.trans kz) ?_
  refine own_on (B := T24.setTop (mkF m 32 #[rv u0, .val (.long q1), sn] [(.ref u0), (.int 2)])) (fun tz kz => ?_) ?_
  · show sT p e below T24 (mkF m 30 #[rv u0, .val (.long q1), sn] []) tz
    refine XS.iconst X24.here hx rfl (hb hby own_d18_30) ?_
    show sT p e below T24 (mkF m 31 #[rv u0, .val (.long q1), sn] [(.int 2)]) tz
    refine XS.aloadN X24.here hx rfl (hb hby own_d18_31) rfl rfl ?_
    exact kz
  have f_26 := (Fk.keep Kq24 (ninS ne_u0_lc (ninS ne_u0_jc nin0)))
  obtain ⟨T27, X27, e27, st27⟩ := getF X24 hx hZ hown (host := "") (Or.inl (own_w hw 27 rfl)) Via.refl rfl f_26 (g := (mkF m 32 #[rv u0, .val (.long q1), sn] [(.ref u0), (.int 2)])) rfl rfl (hb hby own_d18_32)
  refine own_on (B := T27.setTop (mkF m 35 #[rv u0, .val (.long q1), sn] [(.ref lc), (.int 2)])) (fun tz kz => st27 _ kz) ?_
  have f_29 := (El.keep Kq24)
  obtain ⟨cq28, kq28, q28a, q28b, q28c⟩ := isOf hZ e27 f_29
  obtain ⟨_, _, ⟨T28, L28, k28, n28⟩, -, X28, ⟨Lc28, hQ28, l28, y28, z28⟩, st28⟩ := X27.virtualBack hx (y := (⟨"com/example/vows_to_moves/vowstomoves/model/LongColumn", "size", "()I"⟩ : MethodName)) (z := (⟨"com/example/vows_to_moves/vowstomoves/model/LongColumn", "size", "()I"⟩ : MethodName)) hown (mvT hZ (own_w hw 91 rfl)) (mvT hZ (own_w hw 92 rfl)) (notFace_of_selects (args := #[]) (mvT hZ (own_w hw 94 rfl))) (mvT hZ (own_w hw 94 rfl)) (mvT hZ (own_w hw 93 rfl)) (by decide) (backOf (W := 1) (rm14 l Z a0 hw [] lc (4 : Int32) T24.heap n0 O25 Fs24) hZ (own_w hw 95 rfl) (own_w hw 18 rfl) (by decide) (by decide)) q28a q28c (g := (mkF m 35 #[rv u0, .val (.long q1), sn] [(.ref lc), (.int 2)])) rfl (by rw [hml]; rfl) (Steps.refl _) (argsL := []) (rest := [(.int (2 : Int32))]) (lenOf own_pd6 rfl) rfl (by show 2 * 0 + _ ≤ _; exact Nat.le_of_eq rfl) (hb hby own_d18_35) (fun _ _ => ⟨rfl, e27, (by decide : 0 + 0 ≤ _), (by decide : 0 + 0 ≤ _)⟩)
  dsimp only [Pt.U, Pt.locs, Pt.cells, Pt.slots] at X28 l28 y28 z28 st28 hQ28
  subst l28 y28 z28
  obtain ⟨rfl, Nq28, e28⟩ := hQ28
  have N28 := Fr.app N24 Nq28
  refine own_on (B := T28.setTop (mkF m 38 #[rv u0, .val (.long q1), sn] [(.int 4), (.int 2)])) (fun tz kz => st28.trans kz) ?_
  refine own_on (B := T28.setTop (mkF m 40 #[rv u0, .val (.long q1), sn] [(.ref u0), (.int 8)])) (fun tz kz => ?_) ?_
  · show sT p e below T28 (mkF m 38 #[rv u0, .val (.long q1), sn] [(.int 4), (.int 2)]) tz
    refine XS.imul X28.here hx rfl (hb hby own_d18_38) rfl ?_
    show sT p e below T28 (mkF m 39 #[rv u0, .val (.long q1), sn] [(.int 8)]) tz
    refine XS.aloadN X28.here hx rfl (hb hby own_d18_39) rfl rfl ?_
    exact kz
  have f_30 := (Fsl.keep Kq24 (ninS ne_u0_lc (ninS ne_u0_jc nin0)))
  obtain ⟨T31, X31, e31, st31⟩ := getF X28 hx hZ hown (host := "") (Or.inl (own_w hw 50 rfl)) Via.refl e28 f_30 (g := (mkF m 40 #[rv u0, .val (.long q1), sn] [(.ref u0), (.int 8)])) rfl rfl (hb hby own_d18_40)
  refine own_on (B := T31.setTop (mkF m 43 #[rv u0, .val (.long q1), sn] [(.ref sa), (.int 8)])) (fun tz kz => st31 _ kz) ?_
  have f_32 := (Vs.keep Kq24 (ninS (Ne.symm ne_lc_sa) (ninS ne_sa_jc nin0)))
  obtain ⟨cl33, Ar33, S33, M33⟩ := id f_32
  refine own_on (B := T31.setTop (mkF m 61 #[rv u0, .val (.long q1), sn] [])) (fun tz kz => ?_) ?_
  · show sT p e below T31 (mkF m 43 #[rv u0, .val (.long q1), sn] [(.ref sa), (.int 8)]) tz
    refine X31.arraylength hx (by rw [e31]; exact Ar33.1) (State.isArrayOf_alike hZ.alike Ar33.2.1) (g := (mkF m 43 #[rv u0, .val (.long q1), sn] [(.ref sa), (.int 8)])) rfl rfl (hb hby own_d18_43) _ ?_
    rw [len_of S33 M33]
    show sT p e below T31 (mkF m 44 #[rv u0, .val (.long q1), sn] [(.int 32), (.int 8)]) tz
    refine XS.icmpYes X31.here hx rfl (pc0 := 44) (pc' := 61) rfl (hb hby own_d18_44) rfl (flt (by decide : ¬ ((32 : Int32) < (8 : Int32)))).2.2.2 (by decide) (by decide) ?_
    exact kz
  obtain ⟨fs, hr, hrun, hended, hW, hsame⟩ := X31.leave (v := none) (fun _ => rfl)
  refine own_of ⟨_, _, ?_, hrun, hended, _, _, rfl, ?_, ⟨_, rfl⟩, hW, hsame.mono (by decide) (by decide)⟩
  · show sT p e below T31 (mkF m 61 #[rv u0, .val (.long q1), sn] []) _
    exact X31.returnOut hx Bd.returns (hb hby own_d18_61) hr
  · show Q183 Z u0 q1 lc ja sa kj jc kl w0 w1 w2 w3 h0 n0 _ T31.heap _
    rw [e31]
    exact ⟨rfl, N28, K25, Fs24, Fc24, Vl24⟩
theorem own_ef_150 (m : MethodId) (x0 : Addr) (x1 : Int64) : entryFrame m #[(.ref x0), (.long x1)] 4 = mkF m 0 #[rv x0, .val (.long x1), .second, .unset] [] := by first | (simp [entryFrame, mkF, argsToLocals, Value.category]; done) | rfl
def Q150 (Z : State) (u0 : Addr) (q1 : Int64) (sa : Addr) (ks : ClassId) (vs : List Value) (S : List Nat) (lc : Addr) (ja : Addr) (kj : ClassId) (h0 : Heap) (n0 : Nat) (v : Option Value) (h : Heap) (L : List Loc) : Prop := ∃ (jc : Addr) (kl : ClassId), v = some (.int 0) ∧ Fr n0 L ∧ Keep h0 h [lc, ja, sa] ∧ h0.size ≤ jc ∧ Fld Z h lc "com/example/vows_to_moves/vowstomoves/model/LongColumn" "size" "I" (.int (1 : Int32)) ∧ Fld Z h lc "com/example/vows_to_moves/vowstomoves/model/LongColumn" "chunks" "[[J" (.ref ja) ∧ Arv Z h ja kj (.array .long) (4 : Int32) [(.ref jc), .null, .null, .null] .null ∧ Arv Z h jc kl .long (32768 : Int32) [.long q1, .long 0, .long 0, .long 0] (.long 0) ∧ ∃ (vs' : List Value) (j : Nat), OwnTab vs' 1 (j :: S) ∧ Arv Z h sa ks .int (32 : Int32) vs' (.int 0)
theorem own_d15_0 : decode prog_82_method_2_code 0 = .ok (.aload_n 0, 1) := by decide +kernel
theorem own_d15_1 : decode prog_82_method_2_code 1 = .ok (.lload_n 1, 1) := by decide +kernel
theorem own_pd10 : parseMethodDescriptor "(J)I" = some ⟨[.long], some .int⟩ := by decide +kernel
theorem own_d15_2 : decode prog_82_method_2_code 2 = .ok (.invokevirtual 36, 3) := by decide +kernel
theorem own_d15_5 : decode prog_82_method_2_code 5 = .ok (.istore_n 3, 1) := by decide +kernel
theorem own_d15_6 : decode prog_82_method_2_code 6 = .ok (.aload_n 0, 1) := by decide +kernel
theorem own_d15_7 : decode prog_82_method_2_code 7 = .ok (.getfield 32, 3) := by decide +kernel
theorem own_d15_10 : decode prog_82_method_2_code 10 = .ok (.iload_n 3, 1) := by decide +kernel
theorem own_d15_11 : decode prog_82_method_2_code 11 = .ok (.iaload, 1) := by decide +kernel
theorem own_d15_12 : decode prog_82_method_2_code 12 = .ok (.iconst (-1), 1) := by decide +kernel
theorem own_d15_13 : decode prog_82_method_2_code 13 = .ok (.if_icmp .eq 10, 3) := by decide +kernel
theorem own_d15_23 : decode prog_82_method_2_code 23 = .ok (.aload_n 0, 1) := by decide +kernel
theorem own_d15_24 : decode prog_82_method_2_code 24 = .ok (.getfield 32, 3) := by decide +kernel
theorem own_d15_27 : decode prog_82_method_2_code 27 = .ok (.iload_n 3, 1) := by decide +kernel
theorem own_d15_28 : decode prog_82_method_2_code 28 = .ok (.aload_n 0, 1) := by decide +kernel
theorem own_d15_29 : decode prog_82_method_2_code 29 = .ok (.getfield 12, 3) := by decide +kernel
theorem own_d15_32 : decode prog_82_method_2_code 32 = .ok (.invokevirtual 40, 3) := by decide +kernel
theorem own_d15_35 : decode prog_82_method_2_code 35 = .ok (.iastore, 1) := by decide +kernel
theorem own_d15_36 : decode prog_82_method_2_code 36 = .ok (.aload_n 0, 1) := by decide +kernel
theorem own_d15_37 : decode prog_82_method_2_code 37 = .ok (.lload_n 1, 1) := by decide +kernel
theorem own_d15_38 : decode prog_82_method_2_code 38 = .ok (.invokevirtual 44, 3) := by decide +kernel
theorem own_d15_41 : decode prog_82_method_2_code 41 = .ok (.aload_n 0, 1) := by decide +kernel
theorem own_d15_42 : decode prog_82_method_2_code 42 = .ok (.getfield 12, 3) := by decide +kernel
theorem own_d15_45 : decode prog_82_method_2_code 45 = .ok (.invokevirtual 40, 3) := by decide +kernel
theorem own_d15_48 : decode prog_82_method_2_code 48 = .ok (.iconst 1, 1) := by decide +kernel
theorem own_d15_49 : decode prog_82_method_2_code 49 = .ok (.isub, 1) := by decide +kernel
theorem own_d15_50 : decode prog_82_method_2_code 50 = .ok (.ireturn, 1) := by decide +kernel
set_option maxRecDepth 65536 in
set_option maxHeartbeats 40000000 in
theorem rm150 (l : Launch) (Z : State) (a0 : Array Value) (hw : ∀ d ∈ tables_1, d.before a0 Z = true) (ws : List Jvm.Cond) (u0 : Addr) (q1 : Int64) (sa : Addr) (ks : ClassId) (vs : List Value) (S : List Nat) (lc : Addr) (ja : Addr) (kj : ClassId) (h0 : Heap) (n0 : Nat) (O0 : Old Z n0 h0) (E_u0 : Exa Z h0 u0 "com/example/vows_to_moves/vowstomoves/model/LongNumbering") (g_u0 : n0 ≤ u0) (Fk : Fld Z h0 u0 "com/example/vows_to_moves/vowstomoves/model/LongNumbering" "keys" "Lcom/example/vows_to_moves/vowstomoves/model/LongColumn;" (.ref lc)) (Fsl : Fld Z h0 u0 "com/example/vows_to_moves/vowstomoves/model/LongNumbering" "slots" "[I" (.ref sa)) (El : Exa Z h0 lc "com/example/vows_to_moves/vowstomoves/model/LongColumn") (Fc : Fld Z h0 lc "com/example/vows_to_moves/vowstomoves/model/LongColumn" "chunks" "[[J" (.ref ja)) (Fs : Fld Z h0 lc "com/example/vows_to_moves/vowstomoves/model/LongColumn" "size" "I" (.int (0 : Int32))) (Vj : Arv Z h0 ja kj (.array .long) (4 : Int32) [.null, .null, .null, .null] .null) (Vs : Arv Z h0 sa ks .int (32 : Int32) vs (.int 0)) (hT : OwnTab vs 0 S) (Oa : OvrA Z kj .long "[J") (o1 : @LT.lt Nat _ u0 lc ∧ @LT.lt Nat _ lc ja ∧ @LT.lt Nat _ ja sa) :
    MetFree l (⟨"com/example/vows_to_moves/vowstomoves/model/LongNumbering", "number", "(J)I"⟩ : MethodName) (head1 (Jvm.Cond.code (⟨"com/example/vows_to_moves/vowstomoves/model/LongNumbering", "number", "(J)I"⟩ : MethodName) prog_82_method_2_code 4 (some .int) :: ws) ({ frames := 2, cells := 1, slots := 32768, locals := 40 } : Room)) (fun a U => a = #[(.ref u0), (.long q1)] ∧ Z.Warmed39 U.vm ∧ U.heap = h0) (fun _ _ _ _ _ => True) (fun _ U o U' => ∃ v L, o = .returned v ∧ Q150 Z u0 q1 sa ks vs S lc ja kj h0 n0 v U'.heap L ∧ FrameEnd U o U' L ({ frames := 2, cells := 1, slots := 32768, locals := 40 } : Room).cells ({ frames := 2, cells := 1, slots := 32768, locals := 40 } : Room).slots) := by
  refine MetFree.of_bodySF (plainFor_of_name own_pn_com_example_vows_to_moves_vowstomoves_model_LongNumbering) hisR ?_
  intro p e s m args below meth c s₁ Bd hml0 hP hK
  obtain ⟨rfl, hZ, hh⟩ := hP
  have hx := Bd.exec
  have hby := Bd.bytes
  have hml : c.maxLocals = 4 := hml0
  have hown : s.vm.findClass "com/example/vows_to_moves/vowstomoves/model/LongNumbering" = some m.cls := findClass_of_methodNamed Bd.named
  have hnm := (name_of_methodNamed Bd.named Bd.method).1
  have X0 : Stand p l e ({ frames := 2, cells := 1, slots := 32768, locals := 40 } : Room) s m #[(.ref u0), (.long q1)] below meth c s₁ [] 0 0 := Stand.of_body Bd
  have e0 : s₁.heap = h0 := by rw [← hh, Bd.state]; rfl
  have N0 := Fr.nil n0
  change Go p.tables e below _ _
  refine own_on (B := s₁.setTop (mkF m 0 #[rv u0, .val (.long q1), sn, un] [])) (fun tz kz => castTop (own_ef_150 m u0 q1) kz) ?_
  have ne_u0_lc : u0 ≠ lc := Nat.ne_of_lt (show @LT.lt Nat _ u0 lc by omega)
  have ne_u0_ja : u0 ≠ ja := Nat.ne_of_lt (show @LT.lt Nat _ u0 ja by omega)
  have ne_u0_sa : u0 ≠ sa := Nat.ne_of_lt (show @LT.lt Nat _ u0 sa by omega)
  have ne_lc_ja : lc ≠ ja := Nat.ne_of_lt (show @LT.lt Nat _ lc ja by omega)
  have ne_lc_sa : lc ≠ sa := Nat.ne_of_lt (show @LT.lt Nat _ lc sa by omega)
  have ne_ja_sa : ja ≠ sa := Nat.ne_of_lt (show @LT.lt Nat _ ja sa by omega)
  have g_lc : n0 ≤ lc := (show @LE.le Nat _ n0 lc by omega)
  have g_ja : n0 ≤ ja := (show @LE.le Nat _ n0 ja by omega)
  have g_sa : n0 ≤ sa := (show @LE.le Nat _ n0 sa by omega)
  refine own_on (B := s₁.setTop (mkF m 2 #[rv u0, .val (.long q1), sn, un] [(.long q1), (.ref u0)])) (fun tz kz => ?_) ?_
  · show sT p e below s₁ (mkF m 0 #[rv u0, .val (.long q1), sn, un] []) tz
    refine XS.aloadN X0.here hx rfl (hb hby own_d15_0) rfl rfl ?_
    show sT p e below s₁ (mkF m 1 #[rv u0, .val (.long q1), sn, un] [(.ref u0)]) tz
    refine XS.lloadN X0.here hx rfl (hb hby own_d15_1) rfl ?_
    exact kz
  obtain ⟨cq21, q21, q21'⟩ := E_u0.cell
  obtain ⟨_, _, ⟨T21, L21, k21, n21⟩, -, X21, ⟨Lc21, hQ21, l21, y21, z21⟩, st21⟩ := X0.privateBack hx (y := (⟨"com/example/vows_to_moves/vowstomoves/model/LongNumbering", "slotOf", "(J)I"⟩ : MethodName)) hown (mvT hZ (own_w hw 103 rfl)) (mvT hZ (own_w hw 104 rfl)) (mvT hZ (own_psel (y := (⟨"com/example/vows_to_moves/vowstomoves/model/LongNumbering", "slotOf", "(J)I"⟩ : MethodName)) (C := "com/example/vows_to_moves/vowstomoves/model/LongNumbering") rfl (own_w hw 10 rfl) (own_w hw 105 rfl) (own_w hw 104 rfl) (by decide))) (Cond.privateMethod_at (mvP hZ (own_w hw 105 rfl) (args := #[]))) (mvT hZ (own_w hw 106 rfl)) (by decide) (backOf (W := 0) (rm16z l Z a0 hw [] u0 q1 sa ks vs S h0 n0 O0 E_u0 Fsl Vs hT) hZ (own_w hw 106 rfl) (own_w hw 11 rfl) (by decide) (by decide)) (g := (mkF m 2 #[rv u0, .val (.long q1), sn, un] [(.long q1), (.ref u0)])) rfl (by rw [hml]; rfl) (Steps.refl _) (a := u0) (by rw [e0]; exact q21) q21' (argsL := [(.long q1)]) (rest := []) (lenOf own_pd10 rfl) rfl (by show 2 * 0 + _ ≤ _; exact Nat.le_of_eq rfl) (hb hby own_d15_2) (fun _ _ => ⟨rfl, e0, (by decide : 0 + 0 ≤ _), (by decide : 0 + 0 ≤ _)⟩)
  dsimp only [Pt.U, Pt.locs, Pt.cells, Pt.slots] at X21 l21 y21 z21 st21 hQ21
  subst l21 y21 z21
  obtain ⟨j_, rfl, lo_, hi_, hA, Nq21, eq21⟩ := hQ21
  have N21 := Fr.app N0 Nq21
  refine own_on (B := T21.setTop (mkF m 5 #[rv u0, .val (.long q1), sn, un] [(.int j_)])) (fun tz kz => st21.trans kz) ?_
  refine own_on (B := T21.setTop (mkF m 7 #[rv u0, .val (.long q1), sn, iv j_] [(.ref u0)])) (fun tz kz => ?_) ?_
  · show sT p e below T21 (mkF m 5 #[rv u0, .val (.long q1), sn, un] [(.int j_)]) tz
    refine XS.istoreN X21.here hx rfl (hb hby own_d15_5) rfl (l' := #[rv u0, .val (.long q1), sn, iv j_]) rfl ?_
    show sT p e below T21 (mkF m 6 #[rv u0, .val (.long q1), sn, iv j_] []) tz
    refine XS.aloadN X21.here hx rfl (hb hby own_d15_6) rfl rfl ?_
    exact kz
  obtain ⟨T22, X22, e22, st22⟩ := getF X21 hx hZ hown (host := "") (Or.inl (own_w hw 50 rfl)) Via.refl eq21 Fsl (g := (mkF m 7 #[rv u0, .val (.long q1), sn, iv j_] [(.ref u0)])) rfl rfl (hb hby own_d15_7)
  refine own_on (B := T22.setTop (mkF m 10 #[rv u0, .val (.long q1), sn, iv j_] [(.ref sa)])) (fun tz kz => st22 _ kz) ?_
  refine own_on (B := T22.setTop (mkF m 11 #[rv u0, .val (.long q1), sn, iv j_] [(.int j_), (.ref sa)])) (fun tz kz => ?_) ?_
  · show sT p e below T22 (mkF m 10 #[rv u0, .val (.long q1), sn, iv j_] [(.ref sa)]) tz
    refine XS.iloadN X22.here hx rfl (hb hby own_d15_10) rfl ?_
    exact kz
  obtain ⟨cl23, Ar23, q23, S23, M23, H23, G23⟩ := id Vs
  have hin24 : ¬ (j_ < 0 ∨ cl23.slots.size ≤ (j_).toNatClampNeg) := inb_of S23 ⟨lo_, hi_⟩
  have hat24 : cl23.slots[(j_).toNatClampNeg]? = some (.int (-1 : Int32)) := Has.at H23 hin24 hA
  refine own_on (B := T22.setTop (mkF m 24 #[rv u0, .val (.long q1), sn, iv j_] [(.ref u0)])) (fun tz kz => ?_) ?_
  · show sT p e below T22 (mkF m 11 #[rv u0, .val (.long q1), sn, iv j_] [(.int j_), (.ref sa)]) tz
    refine X22.iaload hx (j := j_) (v := (.int (-1 : Int32))) (by rw [e22]; exact Ar23.1) (State.isArrayOf_alike hZ.alike Ar23.2.1) Ar23.2.2 hin24 hat24 (g := (mkF m 11 #[rv u0, .val (.long q1), sn, iv j_] [(.int j_), (.ref sa)])) rfl rfl (hb hby own_d15_11) _ ?_
    show sT p e below T22 (mkF m 12 #[rv u0, .val (.long q1), sn, iv j_] [(.int (-1 : Int32))]) tz
    refine XS.iconst X22.here hx rfl (hb hby own_d15_12) ?_
    show sT p e below T22 (mkF m 13 #[rv u0, .val (.long q1), sn, iv j_] [(.int (-1 : Int32)), (.int (-1 : Int32))]) tz
    refine XS.icmpYes X22.here hx rfl (pc0 := 13) (pc' := 23) rfl (hb hby own_d15_13) rfl (teq rfl).1 (by decide) (by decide) ?_
    show sT p e below T22 (mkF m 23 #[rv u0, .val (.long q1), sn, iv j_] []) tz
    refine XS.aloadN X22.here hx rfl (hb hby own_d15_23) rfl rfl ?_
    exact kz
  obtain ⟨T25, X25, e25, st25⟩ := getF X22 hx hZ hown (host := "") (Or.inl (own_w hw 50 rfl)) Via.refl e22 Fsl (g := (mkF m 24 #[rv u0, .val (.long q1), sn, iv j_] [(.ref u0)])) rfl rfl (hb hby own_d15_24)
  refine own_on (B := T25.setTop (mkF m 27 #[rv u0, .val (.long q1), sn, iv j_] [(.ref sa)])) (fun tz kz => st25 _ kz) ?_
  refine own_on (B := T25.setTop (mkF m 29 #[rv u0, .val (.long q1), sn, iv j_] [(.ref u0), (.int j_), (.ref sa)])) (fun tz kz => ?_) ?_
  · show sT p e below T25 (mkF m 27 #[rv u0, .val (.long q1), sn, iv j_] [(.ref sa)]) tz
    refine XS.iloadN X25.here hx rfl (hb hby own_d15_27) rfl ?_
    show sT p e below T25 (mkF m 28 #[rv u0, .val (.long q1), sn, iv j_] [(.int j_), (.ref sa)]) tz
    refine XS.aloadN X25.here hx rfl (hb hby own_d15_28) rfl rfl ?_
    exact kz
  obtain ⟨T26, X26, e26, st26⟩ := getF X25 hx hZ hown (host := "") (Or.inl (own_w hw 27 rfl)) Via.refl e25 Fk (g := (mkF m 29 #[rv u0, .val (.long q1), sn, iv j_] [(.ref u0), (.int j_), (.ref sa)])) rfl rfl (hb hby own_d15_29)
  refine own_on (B := T26.setTop (mkF m 32 #[rv u0, .val (.long q1), sn, iv j_] [(.ref lc), (.int j_), (.ref sa)])) (fun tz kz => st26 _ kz) ?_
  obtain ⟨cq27, kq27, q27a, q27b, q27c⟩ := isOf hZ e26 El
  obtain ⟨_, _, ⟨T27, L27, k27, n27⟩, -, X27, ⟨Lc27, hQ27, l27, y27, z27⟩, st27⟩ := X26.virtualBack hx (y := (⟨"com/example/vows_to_moves/vowstomoves/model/LongColumn", "size", "()I"⟩ : MethodName)) (z := (⟨"com/example/vows_to_moves/vowstomoves/model/LongColumn", "size", "()I"⟩ : MethodName)) hown (mvT hZ (own_w hw 91 rfl)) (mvT hZ (own_w hw 92 rfl)) (notFace_of_selects (args := #[]) (mvT hZ (own_w hw 94 rfl))) (mvT hZ (own_w hw 94 rfl)) (mvT hZ (own_w hw 93 rfl)) (by decide) (backOf (W := 2) (rm14 l Z a0 hw [] lc (0 : Int32) h0 n0 O0 Fs) hZ (own_w hw 95 rfl) (own_w hw 18 rfl) (by decide) (by decide)) q27a q27c (g := (mkF m 32 #[rv u0, .val (.long q1), sn, iv j_] [(.ref lc), (.int j_), (.ref sa)])) rfl (by rw [hml]; rfl) (Steps.refl _) (argsL := []) (rest := [(.int j_), (.ref sa)]) (lenOf own_pd6 rfl) rfl (by show 2 * 0 + _ ≤ _; exact Nat.le_of_eq rfl) (hb hby own_d15_32) (fun _ _ => ⟨rfl, e26, (by decide : 0 + 0 ≤ _), (by decide : 0 + 0 ≤ _)⟩)
  dsimp only [Pt.U, Pt.locs, Pt.cells, Pt.slots] at X27 l27 y27 z27 st27 hQ27
  subst l27 y27 z27
  obtain ⟨rfl, Nq27, e27⟩ := hQ27
  have N27 := Fr.app N21 Nq27
  refine own_on (B := T27.setTop (mkF m 35 #[rv u0, .val (.long q1), sn, iv j_] [(.int 0), (.int j_), (.ref sa)])) (fun tz kz => st27.trans kz) ?_
  obtain ⟨cl28, Ar28, q28, S28, M28, H28, G28⟩ := id Vs
  have hin29 : ¬ (j_ < 0 ∨ cl28.slots.size ≤ (j_).toNatClampNeg) := inb_of S28 ⟨lo_, hi_⟩
  obtain ⟨T29, h29, X29, e29, W29, st29⟩ := stI X27 hx hZ e27 Ar28 (j := j_) hin29 (g := (mkF m 35 #[rv u0, .val (.long q1), sn, iv j_] [(.int 0), (.int j_), (.ref sa)])) rfl rfl (hb hby own_d15_35)
  have V29 : Arv Z h29 sa ks .int (32 : Int32) (vs.set j_.toNatClampNeg (.int (0 : Int32))) (.int 0) := Arv.set Ar28 q28 S28 M28 H28 G28 rfl W29 j_.toNatClampNeg rfl (by rw [hT.1]; exact own_lt32 lo_ hi_)
  have N29 := Fr.snoc X29 N27 g_sa
  have O30 := O0.wr W29 g_sa
  have K30 : Keep h0 h29 [lc, ja, sa] := (Keep.refl h0 [lc, ja, sa]).wr W29 (Or.inl (List.mem_of_getElem? (i := 2) rfl))
  refine own_on (B := T29.setTop (mkF m 36 #[rv u0, .val (.long q1), sn, iv j_] [])) (fun tz kz => st29 _ kz) ?_
  have f_31 := (E_u0.wr W29)
  have f_32 := (Fk.other W29 (Or.inl ne_u0_sa))
  have f_33 := (Fsl.other W29 (Or.inl ne_u0_sa))
  have f_34 := (El.wr W29)
  have f_35 := (Fc.other W29 (Or.inl ne_lc_sa))
  have f_36 := (Fs.other W29 (Or.inl ne_lc_sa))
  have f_37 := (Vj.other W29 ne_ja_sa)
  refine own_on (B := T29.setTop (mkF m 38 #[rv u0, .val (.long q1), sn, iv j_] [(.long q1), (.ref u0)])) (fun tz kz => ?_) ?_
  · show sT p e below T29 (mkF m 36 #[rv u0, .val (.long q1), sn, iv j_] []) tz
    refine XS.aloadN X29.here hx rfl (hb hby own_d15_36) rfl rfl ?_
    show sT p e below T29 (mkF m 37 #[rv u0, .val (.long q1), sn, iv j_] [(.ref u0)]) tz
    refine XS.lloadN X29.here hx rfl (hb hby own_d15_37) rfl ?_
    exact kz
  obtain ⟨cq38, q38, q38'⟩ := f_31.cell
  obtain ⟨_, _, ⟨T38, L38, k38, n38⟩, -, X38, ⟨Lc38, hQ38, l38, y38, z38⟩, st38⟩ := X29.privateBack hx (y := (⟨"com/example/vows_to_moves/vowstomoves/model/LongNumbering", "add", "(J)V"⟩ : MethodName)) hown (mvT hZ (own_w hw 112 rfl)) (mvT hZ (own_w hw 113 rfl)) (mvT hZ (own_psel (y := (⟨"com/example/vows_to_moves/vowstomoves/model/LongNumbering", "add", "(J)V"⟩ : MethodName)) (C := "com/example/vows_to_moves/vowstomoves/model/LongNumbering") rfl (own_w hw 10 rfl) (own_w hw 114 rfl) (own_w hw 113 rfl) (by decide))) (Cond.privateMethod_at (mvP hZ (own_w hw 114 rfl) (args := #[]))) (mvT hZ (own_w hw 115 rfl)) (by decide) (backOf (W := 0) (rm180 l Z a0 hw [] u0 q1 lc ja sa kj h29 n0 O30 f_31 g_u0 f_32 f_33 f_34 f_35 f_36 f_37 (OwnArz.of V29) Oa (by omega)) hZ (own_w hw 115 rfl) (own_w hw 11 rfl) (by decide) (by decide)) (g := (mkF m 38 #[rv u0, .val (.long q1), sn, iv j_] [(.long q1), (.ref u0)])) rfl (by rw [hml]; rfl) (Steps.refl _) (a := u0) (by rw [e29]; exact q38) q38' (argsL := [(.long q1)]) (rest := []) (lenOf own_pd9 rfl) rfl (by show 2 * 0 + _ ≤ _; exact Nat.le_of_eq rfl) (hb hby own_d15_38) (fun _ _ => ⟨rfl, e29, (by decide : 0 + 1 ≤ _), (by decide : 0 + 32768 ≤ _)⟩)
  dsimp only [Pt.U, Pt.locs, Pt.cells, Pt.slots] at X38 l38 y38 z38 st38 hQ38
  subst l38 y38 z38
  obtain ⟨jc38, kl38, rfl, Nq38, Kq38, zq38, Fs38, Fc38, Vj38, Vl38⟩ := hQ38
  have N38 := Fr.app N29 Nq38
  have ne_u0_jc38 : u0 ≠ jc38 := Nat.ne_of_lt (Nat.lt_of_lt_of_le (f_31).lt zq38)
  have lne_u0_jc38 : @LT.lt Nat _ u0 jc38 := Nat.lt_of_lt_of_le (f_31).lt zq38
  have ne_lc_jc38 : lc ≠ jc38 := Nat.ne_of_lt (Nat.lt_of_lt_of_le (f_34).lt zq38)
  have lne_lc_jc38 : @LT.lt Nat _ lc jc38 := Nat.lt_of_lt_of_le (f_34).lt zq38
  have ne_ja_jc38 : ja ≠ jc38 := Nat.ne_of_lt (Nat.lt_of_lt_of_le (f_37).lt zq38)
  have lne_ja_jc38 : @LT.lt Nat _ ja jc38 := Nat.lt_of_lt_of_le (f_37).lt zq38
  have ne_sa_jc38 : sa ≠ jc38 := Nat.ne_of_lt (Nat.lt_of_lt_of_le (V29).lt zq38)
  have lne_sa_jc38 : @LT.lt Nat _ sa jc38 := Nat.lt_of_lt_of_le (V29).lt zq38
  have g_jc38 : n0 ≤ jc38 := Nat.le_trans (own_old O30) zq38
  have sz_jc38 : h0.size ≤ jc38 := Nat.le_trans K30.1 zq38
  have O39 := O30.keep Kq38 (allS g_lc (allS g_ja all0))
  have K39 : Keep h0 T38.heap [lc, ja, sa] := K30.trans Kq38 (allS (Or.inl (List.mem_of_getElem? (i := 0) rfl)) (allS (Or.inl (List.mem_of_getElem? (i := 1) rfl)) all0))
  refine own_on (B := T38.setTop (mkF m 41 #[rv u0, .val (.long q1), sn, iv j_] [])) (fun tz kz => st38.trans kz) ?_
  refine own_on (B := T38.setTop (mkF m 42 #[rv u0, .val (.long q1), sn, iv j_] [(.ref u0)])) (fun tz kz => ?_) ?_
  · show sT p e below T38 (mkF m 41 #[rv u0, .val (.long q1), sn, iv j_] []) tz
    refine XS.aloadN X38.here hx rfl (hb hby own_d15_41) rfl rfl ?_
    exact kz
  have f_40 := (f_32.keep Kq38 (ninS ne_u0_lc (ninS ne_u0_ja nin0)))
  obtain ⟨T41, X41, e41, st41⟩ := getF X38 hx hZ hown (host := "") (Or.inl (own_w hw 27 rfl)) Via.refl rfl f_40 (g := (mkF m 42 #[rv u0, .val (.long q1), sn, iv j_] [(.ref u0)])) rfl rfl (hb hby own_d15_42)
  refine own_on (B := T41.setTop (mkF m 45 #[rv u0, .val (.long q1), sn, iv j_] [(.ref lc)])) (fun tz kz => st41 _ kz) ?_
  have f_43 := (f_34.keep Kq38)
  obtain ⟨cq42, kq42, q42a, q42b, q42c⟩ := isOf hZ e41 f_43
  obtain ⟨_, _, ⟨T42, L42, k42, n42⟩, -, X42, ⟨Lc42, hQ42, l42, y42, z42⟩, st42⟩ := X41.virtualBack hx (y := (⟨"com/example/vows_to_moves/vowstomoves/model/LongColumn", "size", "()I"⟩ : MethodName)) (z := (⟨"com/example/vows_to_moves/vowstomoves/model/LongColumn", "size", "()I"⟩ : MethodName)) hown (mvT hZ (own_w hw 91 rfl)) (mvT hZ (own_w hw 92 rfl)) (notFace_of_selects (args := #[]) (mvT hZ (own_w hw 94 rfl))) (mvT hZ (own_w hw 94 rfl)) (mvT hZ (own_w hw 93 rfl)) (by decide) (backOf (W := 0) (rm14 l Z a0 hw [] lc (1 : Int32) T38.heap n0 O39 Fs38) hZ (own_w hw 95 rfl) (own_w hw 18 rfl) (by decide) (by decide)) q42a q42c (g := (mkF m 45 #[rv u0, .val (.long q1), sn, iv j_] [(.ref lc)])) rfl (by rw [hml]; rfl) (Steps.refl _) (argsL := []) (rest := []) (lenOf own_pd6 rfl) rfl (by show 2 * 0 + _ ≤ _; exact Nat.le_of_eq rfl) (hb hby own_d15_45) (fun _ _ => ⟨rfl, e41, (by decide : 1 + 0 ≤ _), (by decide : 32768 + 0 ≤ _)⟩)
  dsimp only [Pt.U, Pt.locs, Pt.cells, Pt.slots] at X42 l42 y42 z42 st42 hQ42
  subst l42 y42 z42
  obtain ⟨rfl, Nq42, e42⟩ := hQ42
  have N42 := Fr.app N38 Nq42
  refine own_on (B := T42.setTop (mkF m 48 #[rv u0, .val (.long q1), sn, iv j_] [(.int 1)])) (fun tz kz => st42.trans kz) ?_
  have f_44 := (V29.keep Kq38 (ninS (Ne.symm ne_lc_sa) (ninS (Ne.symm ne_ja_sa) nin0)))
  refine own_on (B := T42.setTop (mkF m 50 #[rv u0, .val (.long q1), sn, iv j_] [(.int 0)])) (fun tz kz => ?_) ?_
  · show sT p e below T42 (mkF m 48 #[rv u0, .val (.long q1), sn, iv j_] [(.int 1)]) tz
    refine XS.iconst X42.here hx rfl (hb hby own_d15_48) ?_
    show sT p e below T42 (mkF m 49 #[rv u0, .val (.long q1), sn, iv j_] [(.int 1), (.int 1)]) tz
    refine XS.isub X42.here hx rfl (hb hby own_d15_49) rfl ?_
    exact kz
  obtain ⟨fs, hr, hrun, hended, hW, hsame⟩ := X42.leave (v := some (.int (0 : Int32))) (fun h => by rw [Bd.returns] at h; cases h)
  refine own_of ⟨_, _, ?_, hrun, hended, _, _, rfl, ?_, ⟨_, rfl⟩, hW, hsame.mono (by decide) (by decide)⟩
  · show sT p e below T42 (mkF m 50 #[rv u0, .val (.long q1), sn, iv j_] [(.int 0)]) _
    exact own_retI X42 hx Bd.returns (hb hby own_d15_50) hr
  · show Q150 Z u0 q1 sa ks vs S lc ja kj h0 n0 _ T42.heap _
    rw [e42]
    exact ⟨jc38, kl38, rfl, N42, K39, sz_jc38, Fs38, Fc38, Vj38, Vl38, ⟨_, _, own_tabS hT (own_lt32 lo_ hi_), f_44⟩⟩
theorem own_ef_151 (m : MethodId) (x0 : Addr) (x1 : Int64) : entryFrame m #[(.ref x0), (.long x1)] 4 = mkF m 0 #[rv x0, .val (.long x1), .second, .unset] [] := by first | (simp [entryFrame, mkF, argsToLocals, Value.category]; done) | rfl
def Q151 (Z : State) (u0 : Addr) (q1 : Int64) (sa : Addr) (ks : ClassId) (vs : List Value) (S : List Nat) (lc : Addr) (ja : Addr) (kj : ClassId) (jc : Addr) (kl : ClassId) (v0 : UInt64) (v1 : UInt64) (v2 : UInt64) (v3 : UInt64) (h0 : Heap) (n0 : Nat) (v : Option Value) (h : Heap) (L : List Loc) : Prop := Fr n0 L ∧ ((∃ i, i < 1 ∧ v = some (.int i.toInt32) ∧ ([v0, v1, v2, v3].getD i 0).toInt64 = q1 ∧ h = h0) ∨ (v = some (.int (1 : Int32)) ∧ Keep h0 h [lc, jc, sa] ∧ Fld Z h lc "com/example/vows_to_moves/vowstomoves/model/LongColumn" "size" "I" (.int (2 : Int32)) ∧ Fld Z h lc "com/example/vows_to_moves/vowstomoves/model/LongColumn" "chunks" "[[J" (.ref ja) ∧ Arv Z h jc kl .long (32768 : Int32) [(.long v0.toInt64), (.long q1), (.long v2.toInt64), (.long v3.toInt64)] (.long 0) ∧ ∃ (vs' : List Value) (j : Nat), OwnTab vs' 2 (j :: S) ∧ Arv Z h sa ks .int (32 : Int32) vs' (.int 0)))
theorem own_d15_16 : decode prog_82_method_2_code 16 = .ok (.aload_n 0, 1) := by decide +kernel
theorem own_d15_17 : decode prog_82_method_2_code 17 = .ok (.getfield 32, 3) := by decide +kernel
theorem own_d15_20 : decode prog_82_method_2_code 20 = .ok (.iload_n 3, 1) := by decide +kernel
theorem own_d15_21 : decode prog_82_method_2_code 21 = .ok (.iaload, 1) := by decide +kernel
theorem own_d15_22 : decode prog_82_method_2_code 22 = .ok (.ireturn, 1) := by decide +kernel
set_option maxRecDepth 65536 in
set_option maxHeartbeats 40000000 in
theorem rm151 (l : Launch) (Z : State) (a0 : Array Value) (hw : ∀ d ∈ tables_1, d.before a0 Z = true) (ws : List Jvm.Cond) (u0 : Addr) (q1 : Int64) (sa : Addr) (ks : ClassId) (vs : List Value) (S : List Nat) (lc : Addr) (ja : Addr) (kj : ClassId) (jc : Addr) (kl : ClassId) (v0 : UInt64) (v1 : UInt64) (v2 : UInt64) (v3 : UInt64) (h0 : Heap) (n0 : Nat) (O0 : Old Z n0 h0) (E_u0 : Exa Z h0 u0 "com/example/vows_to_moves/vowstomoves/model/LongNumbering") (g_u0 : n0 ≤ u0) (Fk : Fld Z h0 u0 "com/example/vows_to_moves/vowstomoves/model/LongNumbering" "keys" "Lcom/example/vows_to_moves/vowstomoves/model/LongColumn;" (.ref lc)) (Fsl : Fld Z h0 u0 "com/example/vows_to_moves/vowstomoves/model/LongNumbering" "slots" "[I" (.ref sa)) (El : Exa Z h0 lc "com/example/vows_to_moves/vowstomoves/model/LongColumn") (Fc : Fld Z h0 lc "com/example/vows_to_moves/vowstomoves/model/LongColumn" "chunks" "[[J" (.ref ja)) (Fs : Fld Z h0 lc "com/example/vows_to_moves/vowstomoves/model/LongColumn" "size" "I" (.int (1 : Int32))) (Vj : Arv Z h0 ja kj (.array .long) (4 : Int32) [(.ref jc), .null, .null, .null] .null) (Vs : Arv Z h0 sa ks .int (32 : Int32) vs (.int 0)) (hT : OwnTab vs 1 S) (Vl : Arv Z h0 jc kl .long (32768 : Int32) [(.long v0.toInt64), (.long v1.toInt64), (.long v2.toInt64), (.long v3.toInt64)] (.long 0)) (hS : S.length ≤ 1) (o1 : @LT.lt Nat _ u0 lc ∧ @LT.lt Nat _ lc ja ∧ @LT.lt Nat _ ja sa ∧ @LT.lt Nat _ sa jc) :
    MetFree l (⟨"com/example/vows_to_moves/vowstomoves/model/LongNumbering", "number", "(J)I"⟩ : MethodName) (head1 (Jvm.Cond.code (⟨"com/example/vows_to_moves/vowstomoves/model/LongNumbering", "number", "(J)I"⟩ : MethodName) prog_82_method_2_code 4 (some .int) :: ws) ({ frames := 2, cells := 0, slots := 0, locals := 40 } : Room)) (fun a U => a = #[(.ref u0), (.long q1)] ∧ Z.Warmed39 U.vm ∧ U.heap = h0) (fun _ _ _ _ _ => True) (fun _ U o U' => ∃ v L, o = .returned v ∧ Q151 Z u0 q1 sa ks vs S lc ja kj jc kl v0 v1 v2 v3 h0 n0 v U'.heap L ∧ FrameEnd U o U' L ({ frames := 2, cells := 0, slots := 0, locals := 40 } : Room).cells ({ frames := 2, cells := 0, slots := 0, locals := 40 } : Room).slots) := by
  refine MetFree.of_bodySF (plainFor_of_name own_pn_com_example_vows_to_moves_vowstomoves_model_LongNumbering) hisR ?_
  intro p e s m args below meth c s₁ Bd hml0 hP hK
  obtain ⟨rfl, hZ, hh⟩ := hP
  have hx := Bd.exec
  have hby := Bd.bytes
  have hml : c.maxLocals = 4 := hml0
  have hown : s.vm.findClass "com/example/vows_to_moves/vowstomoves/model/LongNumbering" = some m.cls := findClass_of_methodNamed Bd.named
  have hnm := (name_of_methodNamed Bd.named Bd.method).1
  have X0 : Stand p l e ({ frames := 2, cells := 0, slots := 0, locals := 40 } : Room) s m #[(.ref u0), (.long q1)] below meth c s₁ [] 0 0 := Stand.of_body Bd
  have e0 : s₁.heap = h0 := by rw [← hh, Bd.state]; rfl
  have N0 := Fr.nil n0
  change Go p.tables e below _ _
  refine own_on (B := s₁.setTop (mkF m 0 #[rv u0, .val (.long q1), sn, un] [])) (fun tz kz => castTop (own_ef_151 m u0 q1) kz) ?_
  have ne_u0_lc : u0 ≠ lc := Nat.ne_of_lt (show @LT.lt Nat _ u0 lc by omega)
  have ne_u0_ja : u0 ≠ ja := Nat.ne_of_lt (show @LT.lt Nat _ u0 ja by omega)
  have ne_u0_sa : u0 ≠ sa := Nat.ne_of_lt (show @LT.lt Nat _ u0 sa by omega)
  have ne_u0_jc : u0 ≠ jc := Nat.ne_of_lt (show @LT.lt Nat _ u0 jc by omega)
  have ne_lc_ja : lc ≠ ja := Nat.ne_of_lt (show @LT.lt Nat _ lc ja by omega)
  have ne_lc_sa : lc ≠ sa := Nat.ne_of_lt (show @LT.lt Nat _ lc sa by omega)
  have ne_lc_jc : lc ≠ jc := Nat.ne_of_lt (show @LT.lt Nat _ lc jc by omega)
  have ne_ja_sa : ja ≠ sa := Nat.ne_of_lt (show @LT.lt Nat _ ja sa by omega)
  have ne_ja_jc : ja ≠ jc := Nat.ne_of_lt (show @LT.lt Nat _ ja jc by omega)
  have ne_sa_jc : sa ≠ jc := Nat.ne_of_lt (show @LT.lt Nat _ sa jc by omega)
  have g_lc : n0 ≤ lc := (show @LE.le Nat _ n0 lc by omega)
  have g_ja : n0 ≤ ja := (show @LE.le Nat _ n0 ja by omega)
  have g_sa : n0 ≤ sa := (show @LE.le Nat _ n0 sa by omega)
  have g_jc : n0 ≤ jc := (show @LE.le Nat _ n0 jc by omega)
  refine own_on (B := s₁.setTop (mkF m 2 #[rv u0, .val (.long q1), sn, un] [(.long q1), (.ref u0)])) (fun tz kz => ?_) ?_
  · show sT p e below s₁ (mkF m 0 #[rv u0, .val (.long q1), sn, un] []) tz
    refine XS.aloadN X0.here hx rfl (hb hby own_d15_0) rfl rfl ?_
    show sT p e below s₁ (mkF m 1 #[rv u0, .val (.long q1), sn, un] [(.ref u0)]) tz
    refine XS.lloadN X0.here hx rfl (hb hby own_d15_1) rfl ?_
    exact kz
  obtain ⟨cq21, q21, q21'⟩ := E_u0.cell
  obtain ⟨_, _, ⟨T21, L21, k21, n21⟩, -, X21, ⟨Lc21, hQ21, l21, y21, z21⟩, st21⟩ := X0.privateBack hx (y := (⟨"com/example/vows_to_moves/vowstomoves/model/LongNumbering", "slotOf", "(J)I"⟩ : MethodName)) hown (mvT hZ (own_w hw 103 rfl)) (mvT hZ (own_w hw 104 rfl)) (mvT hZ (own_psel (y := (⟨"com/example/vows_to_moves/vowstomoves/model/LongNumbering", "slotOf", "(J)I"⟩ : MethodName)) (C := "com/example/vows_to_moves/vowstomoves/model/LongNumbering") rfl (own_w hw 10 rfl) (own_w hw 105 rfl) (own_w hw 104 rfl) (by decide))) (Cond.privateMethod_at (mvP hZ (own_w hw 105 rfl) (args := #[]))) (mvT hZ (own_w hw 106 rfl)) (by decide) (backOf (W := 0) (rm16a l Z a0 hw [] u0 q1 sa ks vs S lc ja jc kj kl v0 v1 v2 v3 1 h0 n0 O0 E_u0 Fsl Vs Fk El Fc Vj Vl hT (Nat.le_trans hS (by decide)) (by decide)) hZ (own_w hw 106 rfl) (own_w hw 11 rfl) (by decide) (by decide)) (g := (mkF m 2 #[rv u0, .val (.long q1), sn, un] [(.long q1), (.ref u0)])) rfl (by rw [hml]; rfl) (Steps.refl _) (a := u0) (by rw [e0]; exact q21) q21' (argsL := [(.long q1)]) (rest := []) (lenOf own_pd10 rfl) rfl (by show 2 * 0 + _ ≤ _; exact Nat.le_of_eq rfl) (hb hby own_d15_2) (fun _ _ => ⟨rfl, e0, (by decide : 0 + 0 ≤ _), (by decide : 0 + 0 ≤ _)⟩)
  dsimp only [Pt.U, Pt.locs, Pt.cells, Pt.slots] at X21 l21 y21 z21 st21 hQ21
  subst l21 y21 z21
  obtain ⟨j_, rfl, lo_, hi_, hB, Nq21, eq21⟩ := hQ21
  have N21 := Fr.app N0 Nq21
  refine own_on (B := T21.setTop (mkF m 5 #[rv u0, .val (.long q1), sn, un] [(.int j_)])) (fun tz kz => st21.trans kz) ?_
  refine own_on (B := T21.setTop (mkF m 7 #[rv u0, .val (.long q1), sn, iv j_] [(.ref u0)])) (fun tz kz => ?_) ?_
  · show sT p e below T21 (mkF m 5 #[rv u0, .val (.long q1), sn, un] [(.int j_)]) tz
    refine XS.istoreN X21.here hx rfl (hb hby own_d15_5) rfl (l' := #[rv u0, .val (.long q1), sn, iv j_]) rfl ?_
    show sT p e below T21 (mkF m 6 #[rv u0, .val (.long q1), sn, iv j_] []) tz
    refine XS.aloadN X21.here hx rfl (hb hby own_d15_6) rfl rfl ?_
    exact kz
  obtain ⟨T22, X22, e22, st22⟩ := getF X21 hx hZ hown (host := "") (Or.inl (own_w hw 50 rfl)) Via.refl eq21 Fsl (g := (mkF m 7 #[rv u0, .val (.long q1), sn, iv j_] [(.ref u0)])) rfl rfl (hb hby own_d15_7)
  refine own_on (B := T22.setTop (mkF m 10 #[rv u0, .val (.long q1), sn, iv j_] [(.ref sa)])) (fun tz kz => st22 _ kz) ?_
  refine own_on (B := T22.setTop (mkF m 11 #[rv u0, .val (.long q1), sn, iv j_] [(.int j_), (.ref sa)])) (fun tz kz => ?_) ?_
  · show sT p e below T22 (mkF m 10 #[rv u0, .val (.long q1), sn, iv j_] [(.ref sa)]) tz
    refine XS.iloadN X22.here hx rfl (hb hby own_d15_10) rfl ?_
    exact kz
  rcases hB with hA | ⟨i_, im, ivv, ik⟩
  · obtain ⟨cl23, Ar23, q23, S23, M23, H23, G23⟩ := id Vs
    have hin24 : ¬ (j_ < 0 ∨ cl23.slots.size ≤ (j_).toNatClampNeg) := inb_of S23 ⟨lo_, hi_⟩
    have hat24 : cl23.slots[(j_).toNatClampNeg]? = some (.int (-1 : Int32)) := Has.at H23 hin24 hA
    refine own_on (B := T22.setTop (mkF m 24 #[rv u0, .val (.long q1), sn, iv j_] [(.ref u0)])) (fun tz kz => ?_) ?_
    · show sT p e below T22 (mkF m 11 #[rv u0, .val (.long q1), sn, iv j_] [(.int j_), (.ref sa)]) tz
      refine X22.iaload hx (j := j_) (v := (.int (-1 : Int32))) (by rw [e22]; exact Ar23.1) (State.isArrayOf_alike hZ.alike Ar23.2.1) Ar23.2.2 hin24 hat24 (g := (mkF m 11 #[rv u0, .val (.long q1), sn, iv j_] [(.int j_), (.ref sa)])) rfl rfl (hb hby own_d15_11) _ ?_
      show sT p e below T22 (mkF m 12 #[rv u0, .val (.long q1), sn, iv j_] [(.int (-1 : Int32))]) tz
      refine XS.iconst X22.here hx rfl (hb hby own_d15_12) ?_
      show sT p e below T22 (mkF m 13 #[rv u0, .val (.long q1), sn, iv j_] [(.int (-1 : Int32)), (.int (-1 : Int32))]) tz
      refine XS.icmpYes X22.here hx rfl (pc0 := 13) (pc' := 23) rfl (hb hby own_d15_13) rfl (teq rfl).1 (by decide) (by decide) ?_
      show sT p e below T22 (mkF m 23 #[rv u0, .val (.long q1), sn, iv j_] []) tz
      refine XS.aloadN X22.here hx rfl (hb hby own_d15_23) rfl rfl ?_
      exact kz
    obtain ⟨T25, X25, e25, st25⟩ := getF X22 hx hZ hown (host := "") (Or.inl (own_w hw 50 rfl)) Via.refl e22 Fsl (g := (mkF m 24 #[rv u0, .val (.long q1), sn, iv j_] [(.ref u0)])) rfl rfl (hb hby own_d15_24)
    refine own_on (B := T25.setTop (mkF m 27 #[rv u0, .val (.long q1), sn, iv j_] [(.ref sa)])) (fun tz kz => st25 _ kz) ?_
    refine own_on (B := T25.setTop (mkF m 29 #[rv u0, .val (.long q1), sn, iv j_] [(.ref u0), (.int j_), (.ref sa)])) (fun tz kz => ?_) ?_
    · show sT p e below T25 (mkF m 27 #[rv u0, .val (.long q1), sn, iv j_] [(.ref sa)]) tz
      refine XS.iloadN X25.here hx rfl (hb hby own_d15_27) rfl ?_
      show sT p e below T25 (mkF m 28 #[rv u0, .val (.long q1), sn, iv j_] [(.int j_), (.ref sa)]) tz
      refine XS.aloadN X25.here hx rfl (hb hby own_d15_28) rfl rfl ?_
      exact kz
    obtain ⟨T26, X26, e26, st26⟩ := getF X25 hx hZ hown (host := "") (Or.inl (own_w hw 27 rfl)) Via.refl e25 Fk (g := (mkF m 29 #[rv u0, .val (.long q1), sn, iv j_] [(.ref u0), (.int j_), (.ref sa)])) rfl rfl (hb hby own_d15_29)
    refine own_on (B := T26.setTop (mkF m 32 #[rv u0, .val (.long q1), sn, iv j_] [(.ref lc), (.int j_), (.ref sa)])) (fun tz kz => st26 _ kz) ?_
    obtain ⟨cq27, kq27, q27a, q27b, q27c⟩ := isOf hZ e26 El
    obtain ⟨_, _, ⟨T27, L27, k27, n27⟩, -, X27, ⟨Lc27, hQ27, l27, y27, z27⟩, st27⟩ := X26.virtualBack hx (y := (⟨"com/example/vows_to_moves/vowstomoves/model/LongColumn", "size", "()I"⟩ : MethodName)) (z := (⟨"com/example/vows_to_moves/vowstomoves/model/LongColumn", "size", "()I"⟩ : MethodName)) hown (mvT hZ (own_w hw 91 rfl)) (mvT hZ (own_w hw 92 rfl)) (notFace_of_selects (args := #[]) (mvT hZ (own_w hw 94 rfl))) (mvT hZ (own_w hw 94 rfl)) (mvT hZ (own_w hw 93 rfl)) (by decide) (backOf (W := 2) (rm14 l Z a0 hw [] lc (1 : Int32) h0 n0 O0 Fs) hZ (own_w hw 95 rfl) (own_w hw 18 rfl) (by decide) (by decide)) q27a q27c (g := (mkF m 32 #[rv u0, .val (.long q1), sn, iv j_] [(.ref lc), (.int j_), (.ref sa)])) rfl (by rw [hml]; rfl) (Steps.refl _) (argsL := []) (rest := [(.int j_), (.ref sa)]) (lenOf own_pd6 rfl) rfl (by show 2 * 0 + _ ≤ _; exact Nat.le_of_eq rfl) (hb hby own_d15_32) (fun _ _ => ⟨rfl, e26, (by decide : 0 + 0 ≤ _), (by decide : 0 + 0 ≤ _)⟩)
    dsimp only [Pt.U, Pt.locs, Pt.cells, Pt.slots] at X27 l27 y27 z27 st27 hQ27
    subst l27 y27 z27
    obtain ⟨rfl, Nq27, e27⟩ := hQ27
    have N27 := Fr.app N21 Nq27
    refine own_on (B := T27.setTop (mkF m 35 #[rv u0, .val (.long q1), sn, iv j_] [(.int 1), (.int j_), (.ref sa)])) (fun tz kz => st27.trans kz) ?_
    obtain ⟨cl28, Ar28, q28, S28, M28, H28, G28⟩ := id Vs
    have hin29 : ¬ (j_ < 0 ∨ cl28.slots.size ≤ (j_).toNatClampNeg) := inb_of S28 ⟨lo_, hi_⟩
    obtain ⟨T29, h29, X29, e29, W29, st29⟩ := stI X27 hx hZ e27 Ar28 (j := j_) hin29 (g := (mkF m 35 #[rv u0, .val (.long q1), sn, iv j_] [(.int 1), (.int j_), (.ref sa)])) rfl rfl (hb hby own_d15_35)
    have V29 : Arv Z h29 sa ks .int (32 : Int32) (vs.set j_.toNatClampNeg (.int (1 : Int32))) (.int 0) := Arv.set Ar28 q28 S28 M28 H28 G28 rfl W29 j_.toNatClampNeg rfl (by rw [hT.1]; exact own_lt32 lo_ hi_)
    have N29 := Fr.snoc X29 N27 g_sa
    have O30 := O0.wr W29 g_sa
    have K30 : Keep h0 h29 [lc, jc, sa] := (Keep.refl h0 [lc, jc, sa]).wr W29 (Or.inl (List.mem_of_getElem? (i := 2) rfl))
    refine own_on (B := T29.setTop (mkF m 36 #[rv u0, .val (.long q1), sn, iv j_] [])) (fun tz kz => st29 _ kz) ?_
    have f_31 := (E_u0.wr W29)
    have f_32 := (Fk.other W29 (Or.inl ne_u0_sa))
    have f_33 := (Fsl.other W29 (Or.inl ne_u0_sa))
    have f_34 := (El.wr W29)
    have f_35 := (Fc.other W29 (Or.inl ne_lc_sa))
    have f_36 := (Fs.other W29 (Or.inl ne_lc_sa))
    have f_37 := (Vj.other W29 ne_ja_sa)
    have f_38 := (Vl.other W29 (Ne.symm ne_sa_jc))
    refine own_on (B := T29.setTop (mkF m 38 #[rv u0, .val (.long q1), sn, iv j_] [(.long q1), (.ref u0)])) (fun tz kz => ?_) ?_
    · show sT p e below T29 (mkF m 36 #[rv u0, .val (.long q1), sn, iv j_] []) tz
      refine XS.aloadN X29.here hx rfl (hb hby own_d15_36) rfl rfl ?_
      show sT p e below T29 (mkF m 37 #[rv u0, .val (.long q1), sn, iv j_] [(.ref u0)]) tz
      refine XS.lloadN X29.here hx rfl (hb hby own_d15_37) rfl ?_
      exact kz
    obtain ⟨cq39, q39, q39'⟩ := f_31.cell
    obtain ⟨_, _, ⟨T39, L39, k39, n39⟩, -, X39, ⟨Lc39, hQ39, l39, y39, z39⟩, st39⟩ := X29.privateBack hx (y := (⟨"com/example/vows_to_moves/vowstomoves/model/LongNumbering", "add", "(J)V"⟩ : MethodName)) hown (mvT hZ (own_w hw 112 rfl)) (mvT hZ (own_w hw 113 rfl)) (mvT hZ (own_psel (y := (⟨"com/example/vows_to_moves/vowstomoves/model/LongNumbering", "add", "(J)V"⟩ : MethodName)) (C := "com/example/vows_to_moves/vowstomoves/model/LongNumbering") rfl (own_w hw 10 rfl) (own_w hw 114 rfl) (own_w hw 113 rfl) (by decide))) (Cond.privateMethod_at (mvP hZ (own_w hw 114 rfl) (args := #[]))) (mvT hZ (own_w hw 115 rfl)) (by decide) (backOf (W := 0) (rm181 l Z a0 hw [] u0 q1 lc ja sa kj jc kl v0.toInt64 v1.toInt64 v2.toInt64 v3.toInt64 h29 n0 O30 f_31 g_u0 f_32 f_33 f_34 f_35 f_36 f_37 (OwnArz.of V29) f_38 (by omega)) hZ (own_w hw 115 rfl) (own_w hw 11 rfl) (by decide) (by decide)) (g := (mkF m 38 #[rv u0, .val (.long q1), sn, iv j_] [(.long q1), (.ref u0)])) rfl (by rw [hml]; rfl) (Steps.refl _) (a := u0) (by rw [e29]; exact q39) q39' (argsL := [(.long q1)]) (rest := []) (lenOf own_pd9 rfl) rfl (by show 2 * 0 + _ ≤ _; exact Nat.le_of_eq rfl) (hb hby own_d15_38) (fun _ _ => ⟨rfl, e29, (by decide : 0 + 0 ≤ _), (by decide : 0 + 0 ≤ _)⟩)
    dsimp only [Pt.U, Pt.locs, Pt.cells, Pt.slots] at X39 l39 y39 z39 st39 hQ39
    subst l39 y39 z39
    obtain ⟨rfl, Nq39, Kq39, Fs39, Fc39, Vl39⟩ := hQ39
    have N39 := Fr.app N29 Nq39
    have O40 := O30.keep Kq39 (allS g_lc (allS g_jc all0))
    have K40 : Keep h0 T39.heap [lc, jc, sa] := K30.trans Kq39 (allS (Or.inl (List.mem_of_getElem? (i := 0) rfl)) (allS (Or.inl (List.mem_of_getElem? (i := 1) rfl)) all0))
    refine own_on (B := T39.setTop (mkF m 41 #[rv u0, .val (.long q1), sn, iv j_] [])) (fun tz kz => st39.trans kz) ?_
    refine own_on (B := T39.setTop (mkF m 42 #[rv u0, .val (.long q1), sn, iv j_] [(.ref u0)])) (fun tz kz => ?_) ?_
    · show sT p e below T39 (mkF m 41 #[rv u0, .val (.long q1), sn, iv j_] []) tz
      refine XS.aloadN X39.here hx rfl (hb hby own_d15_41) rfl rfl ?_
      exact kz
    have f_41 := (f_32.keep Kq39 (ninS ne_u0_lc (ninS ne_u0_jc nin0)))
    obtain ⟨T42, X42, e42, st42⟩ := getF X39 hx hZ hown (host := "") (Or.inl (own_w hw 27 rfl)) Via.refl rfl f_41 (g := (mkF m 42 #[rv u0, .val (.long q1), sn, iv j_] [(.ref u0)])) rfl rfl (hb hby own_d15_42)
    refine own_on (B := T42.setTop (mkF m 45 #[rv u0, .val (.long q1), sn, iv j_] [(.ref lc)])) (fun tz kz => st42 _ kz) ?_
    have f_44 := (f_34.keep Kq39)
    obtain ⟨cq43, kq43, q43a, q43b, q43c⟩ := isOf hZ e42 f_44
    obtain ⟨_, _, ⟨T43, L43, k43, n43⟩, -, X43, ⟨Lc43, hQ43, l43, y43, z43⟩, st43⟩ := X42.virtualBack hx (y := (⟨"com/example/vows_to_moves/vowstomoves/model/LongColumn", "size", "()I"⟩ : MethodName)) (z := (⟨"com/example/vows_to_moves/vowstomoves/model/LongColumn", "size", "()I"⟩ : MethodName)) hown (mvT hZ (own_w hw 91 rfl)) (mvT hZ (own_w hw 92 rfl)) (notFace_of_selects (args := #[]) (mvT hZ (own_w hw 94 rfl))) (mvT hZ (own_w hw 94 rfl)) (mvT hZ (own_w hw 93 rfl)) (by decide) (backOf (W := 0) (rm14 l Z a0 hw [] lc (2 : Int32) T39.heap n0 O40 Fs39) hZ (own_w hw 95 rfl) (own_w hw 18 rfl) (by decide) (by decide)) q43a q43c (g := (mkF m 45 #[rv u0, .val (.long q1), sn, iv j_] [(.ref lc)])) rfl (by rw [hml]; rfl) (Steps.refl _) (argsL := []) (rest := []) (lenOf own_pd6 rfl) rfl (by show 2 * 0 + _ ≤ _; exact Nat.le_of_eq rfl) (hb hby own_d15_45) (fun _ _ => ⟨rfl, e42, (by decide : 0 + 0 ≤ _), (by decide : 0 + 0 ≤ _)⟩)
    dsimp only [Pt.U, Pt.locs, Pt.cells, Pt.slots] at X43 l43 y43 z43 st43 hQ43
    subst l43 y43 z43
    obtain ⟨rfl, Nq43, e43⟩ := hQ43
    have N43 := Fr.app N39 Nq43
    refine own_on (B := T43.setTop (mkF m 48 #[rv u0, .val (.long q1), sn, iv j_] [(.int 2)])) (fun tz kz => st43.trans kz) ?_
    have f_45 := (V29.keep Kq39 (ninS (Ne.symm ne_lc_sa) (ninS ne_sa_jc nin0)))
    refine own_on (B := T43.setTop (mkF m 50 #[rv u0, .val (.long q1), sn, iv j_] [(.int 1)])) (fun tz kz => ?_) ?_
    · show sT p e below T43 (mkF m 48 #[rv u0, .val (.long q1), sn, iv j_] [(.int 2)]) tz
      refine XS.iconst X43.here hx rfl (hb hby own_d15_48) ?_
      show sT p e below T43 (mkF m 49 #[rv u0, .val (.long q1), sn, iv j_] [(.int 1), (.int 2)]) tz
      refine XS.isub X43.here hx rfl (hb hby own_d15_49) rfl ?_
      exact kz
    obtain ⟨fs, hr, hrun, hended, hW, hsame⟩ := X43.leave (v := some (.int (1 : Int32))) (fun h => by rw [Bd.returns] at h; cases h)
    refine own_of ⟨_, _, ?_, hrun, hended, _, _, rfl, ?_, ⟨_, rfl⟩, hW, hsame.mono (by decide) (by decide)⟩
    · show sT p e below T43 (mkF m 50 #[rv u0, .val (.long q1), sn, iv j_] [(.int 1)]) _
      exact own_retI X43 hx Bd.returns (hb hby own_d15_50) hr
    · show Q151 Z u0 q1 sa ks vs S lc ja kj jc kl v0 v1 v2 v3 h0 n0 _ T43.heap _
      rw [e43]
      exact ⟨N43, Or.inr ⟨rfl, K40, Fs39, Fc39, Vl39, ⟨_, _, own_tabS hT (own_lt32 lo_ hi_), f_45⟩⟩⟩
  · obtain ⟨cl46, Ar46, q46, S46, M46, H46, G46⟩ := id Vs
    have hin47 : ¬ (j_ < 0 ∨ cl46.slots.size ≤ (j_).toNatClampNeg) := inb_of S46 ⟨lo_, hi_⟩
    have hat47 : cl46.slots[(j_).toNatClampNeg]? = some (.int i_.toInt32) := Has.at H46 hin47 ivv
    refine own_on (B := T22.setTop (mkF m 17 #[rv u0, .val (.long q1), sn, iv j_] [(.ref u0)])) (fun tz kz => ?_) ?_
    · show sT p e below T22 (mkF m 11 #[rv u0, .val (.long q1), sn, iv j_] [(.int j_), (.ref sa)]) tz
      refine X22.iaload hx (j := j_) (v := (.int i_.toInt32)) (by rw [e22]; exact Ar46.1) (State.isArrayOf_alike hZ.alike Ar46.2.1) Ar46.2.2 hin47 hat47 (g := (mkF m 11 #[rv u0, .val (.long q1), sn, iv j_] [(.int j_), (.ref sa)])) rfl rfl (hb hby own_d15_11) _ ?_
      show sT p e below T22 (mkF m 12 #[rv u0, .val (.long q1), sn, iv j_] [(.int i_.toInt32)]) tz
      refine XS.iconst X22.here hx rfl (hb hby own_d15_12) ?_
      show sT p e below T22 (mkF m 13 #[rv u0, .val (.long q1), sn, iv j_] [(.int (-1 : Int32)), (.int i_.toInt32)]) tz
      refine XS.icmpNo X22.here hx rfl (hb hby own_d15_13) rfl (feq (own_ix im (by decide)).2.2.2.1).1 ?_
      show sT p e below T22 (mkF m 16 #[rv u0, .val (.long q1), sn, iv j_] []) tz
      refine XS.aloadN X22.here hx rfl (hb hby own_d15_16) rfl rfl ?_
      exact kz
    obtain ⟨T48, X48, e48, st48⟩ := getF X22 hx hZ hown (host := "") (Or.inl (own_w hw 50 rfl)) Via.refl e22 Fsl (g := (mkF m 17 #[rv u0, .val (.long q1), sn, iv j_] [(.ref u0)])) rfl rfl (hb hby own_d15_17)
    refine own_on (B := T48.setTop (mkF m 20 #[rv u0, .val (.long q1), sn, iv j_] [(.ref sa)])) (fun tz kz => st48 _ kz) ?_
    refine own_on (B := T48.setTop (mkF m 21 #[rv u0, .val (.long q1), sn, iv j_] [(.int j_), (.ref sa)])) (fun tz kz => ?_) ?_
    · show sT p e below T48 (mkF m 20 #[rv u0, .val (.long q1), sn, iv j_] [(.ref sa)]) tz
      refine XS.iloadN X48.here hx rfl (hb hby own_d15_20) rfl ?_
      exact kz
    obtain ⟨cl49, Ar49, q49, S49, M49, H49, G49⟩ := id Vs
    have hin50 : ¬ (j_ < 0 ∨ cl49.slots.size ≤ (j_).toNatClampNeg) := inb_of S49 ⟨lo_, hi_⟩
    have hat50 : cl49.slots[(j_).toNatClampNeg]? = some (.int i_.toInt32) := Has.at H49 hin50 ivv
    refine own_on (B := T48.setTop (mkF m 22 #[rv u0, .val (.long q1), sn, iv j_] [(.int i_.toInt32)])) (fun tz kz => ?_) ?_
    · show sT p e below T48 (mkF m 21 #[rv u0, .val (.long q1), sn, iv j_] [(.int j_), (.ref sa)]) tz
      refine X48.iaload hx (j := j_) (v := (.int i_.toInt32)) (by rw [e48]; exact Ar49.1) (State.isArrayOf_alike hZ.alike Ar49.2.1) Ar49.2.2 hin50 hat50 (g := (mkF m 21 #[rv u0, .val (.long q1), sn, iv j_] [(.int j_), (.ref sa)])) rfl rfl (hb hby own_d15_21) _ ?_
      exact kz
    obtain ⟨fs, hr, hrun, hended, hW, hsame⟩ := X48.leave (v := some (.int i_.toInt32)) (fun h => by rw [Bd.returns] at h; cases h)
    refine own_of ⟨_, _, ?_, hrun, hended, _, _, rfl, ?_, ⟨_, rfl⟩, hW, hsame.mono (by decide) (by decide)⟩
    · show sT p e below T48 (mkF m 22 #[rv u0, .val (.long q1), sn, iv j_] [(.int i_.toInt32)]) _
      exact own_retI X48 hx Bd.returns (hb hby own_d15_22) hr
    · show Q151 Z u0 q1 sa ks vs S lc ja kj jc kl v0 v1 v2 v3 h0 n0 _ T48.heap _
      rw [e48]
      exact ⟨N21, Or.inl ⟨i_, im, rfl, ik, rfl⟩⟩
theorem own_ef_152 (m : MethodId) (x0 : Addr) (x1 : Int64) : entryFrame m #[(.ref x0), (.long x1)] 4 = mkF m 0 #[rv x0, .val (.long x1), .second, .unset] [] := by first | (simp [entryFrame, mkF, argsToLocals, Value.category]; done) | rfl
def Q152 (Z : State) (u0 : Addr) (q1 : Int64) (sa : Addr) (ks : ClassId) (vs : List Value) (S : List Nat) (lc : Addr) (ja : Addr) (kj : ClassId) (jc : Addr) (kl : ClassId) (v0 : UInt64) (v1 : UInt64) (v2 : UInt64) (v3 : UInt64) (h0 : Heap) (n0 : Nat) (v : Option Value) (h : Heap) (L : List Loc) : Prop := Fr n0 L ∧ ((∃ i, i < 2 ∧ v = some (.int i.toInt32) ∧ ([v0, v1, v2, v3].getD i 0).toInt64 = q1 ∧ h = h0) ∨ (v = some (.int (2 : Int32)) ∧ Keep h0 h [lc, jc, sa] ∧ Fld Z h lc "com/example/vows_to_moves/vowstomoves/model/LongColumn" "size" "I" (.int (3 : Int32)) ∧ Fld Z h lc "com/example/vows_to_moves/vowstomoves/model/LongColumn" "chunks" "[[J" (.ref ja) ∧ Arv Z h jc kl .long (32768 : Int32) [(.long v0.toInt64), (.long v1.toInt64), (.long q1), (.long v3.toInt64)] (.long 0) ∧ ∃ (vs' : List Value) (j : Nat), OwnTab vs' 3 (j :: S) ∧ Arv Z h sa ks .int (32 : Int32) vs' (.int 0)))
set_option maxRecDepth 65536 in
set_option maxHeartbeats 40000000 in
theorem rm152 (l : Launch) (Z : State) (a0 : Array Value) (hw : ∀ d ∈ tables_1, d.before a0 Z = true) (ws : List Jvm.Cond) (u0 : Addr) (q1 : Int64) (sa : Addr) (ks : ClassId) (vs : List Value) (S : List Nat) (lc : Addr) (ja : Addr) (kj : ClassId) (jc : Addr) (kl : ClassId) (v0 : UInt64) (v1 : UInt64) (v2 : UInt64) (v3 : UInt64) (h0 : Heap) (n0 : Nat) (O0 : Old Z n0 h0) (E_u0 : Exa Z h0 u0 "com/example/vows_to_moves/vowstomoves/model/LongNumbering") (g_u0 : n0 ≤ u0) (Fk : Fld Z h0 u0 "com/example/vows_to_moves/vowstomoves/model/LongNumbering" "keys" "Lcom/example/vows_to_moves/vowstomoves/model/LongColumn;" (.ref lc)) (Fsl : Fld Z h0 u0 "com/example/vows_to_moves/vowstomoves/model/LongNumbering" "slots" "[I" (.ref sa)) (El : Exa Z h0 lc "com/example/vows_to_moves/vowstomoves/model/LongColumn") (Fc : Fld Z h0 lc "com/example/vows_to_moves/vowstomoves/model/LongColumn" "chunks" "[[J" (.ref ja)) (Fs : Fld Z h0 lc "com/example/vows_to_moves/vowstomoves/model/LongColumn" "size" "I" (.int (2 : Int32))) (Vj : Arv Z h0 ja kj (.array .long) (4 : Int32) [(.ref jc), .null, .null, .null] .null) (Vs : Arv Z h0 sa ks .int (32 : Int32) vs (.int 0)) (hT : OwnTab vs 2 S) (Vl : Arv Z h0 jc kl .long (32768 : Int32) [(.long v0.toInt64), (.long v1.toInt64), (.long v2.toInt64), (.long v3.toInt64)] (.long 0)) (hS : S.length ≤ 2) (o1 : @LT.lt Nat _ u0 lc ∧ @LT.lt Nat _ lc ja ∧ @LT.lt Nat _ ja sa ∧ @LT.lt Nat _ sa jc) :
    MetFree l (⟨"com/example/vows_to_moves/vowstomoves/model/LongNumbering", "number", "(J)I"⟩ : MethodName) (head1 (Jvm.Cond.code (⟨"com/example/vows_to_moves/vowstomoves/model/LongNumbering", "number", "(J)I"⟩ : MethodName) prog_82_method_2_code 4 (some .int) :: ws) ({ frames := 2, cells := 0, slots := 0, locals := 40 } : Room)) (fun a U => a = #[(.ref u0), (.long q1)] ∧ Z.Warmed39 U.vm ∧ U.heap = h0) (fun _ _ _ _ _ => True) (fun _ U o U' => ∃ v L, o = .returned v ∧ Q152 Z u0 q1 sa ks vs S lc ja kj jc kl v0 v1 v2 v3 h0 n0 v U'.heap L ∧ FrameEnd U o U' L ({ frames := 2, cells := 0, slots := 0, locals := 40 } : Room).cells ({ frames := 2, cells := 0, slots := 0, locals := 40 } : Room).slots) := by
  refine MetFree.of_bodySF (plainFor_of_name own_pn_com_example_vows_to_moves_vowstomoves_model_LongNumbering) hisR ?_
  intro p e s m args below meth c s₁ Bd hml0 hP hK
  obtain ⟨rfl, hZ, hh⟩ := hP
  have hx := Bd.exec
  have hby := Bd.bytes
  have hml : c.maxLocals = 4 := hml0
  have hown : s.vm.findClass "com/example/vows_to_moves/vowstomoves/model/LongNumbering" = some m.cls := findClass_of_methodNamed Bd.named
  have hnm := (name_of_methodNamed Bd.named Bd.method).1
  have X0 : Stand p l e ({ frames := 2, cells := 0, slots := 0, locals := 40 } : Room) s m #[(.ref u0), (.long q1)] below meth c s₁ [] 0 0 := Stand.of_body Bd
  have e0 : s₁.heap = h0 := by rw [← hh, Bd.state]; rfl
  have N0 := Fr.nil n0
  change Go p.tables e below _ _
  refine own_on (B := s₁.setTop (mkF m 0 #[rv u0, .val (.long q1), sn, un] [])) (fun tz kz => castTop (own_ef_152 m u0 q1) kz) ?_
  have ne_u0_lc : u0 ≠ lc := Nat.ne_of_lt (show @LT.lt Nat _ u0 lc by omega)
  have ne_u0_ja : u0 ≠ ja := Nat.ne_of_lt (show @LT.lt Nat _ u0 ja by omega)
  have ne_u0_sa : u0 ≠ sa := Nat.ne_of_lt (show @LT.lt Nat _ u0 sa by omega)
  have ne_u0_jc : u0 ≠ jc := Nat.ne_of_lt (show @LT.lt Nat _ u0 jc by omega)
  have ne_lc_ja : lc ≠ ja := Nat.ne_of_lt (show @LT.lt Nat _ lc ja by omega)
  have ne_lc_sa : lc ≠ sa := Nat.ne_of_lt (show @LT.lt Nat _ lc sa by omega)
  have ne_lc_jc : lc ≠ jc := Nat.ne_of_lt (show @LT.lt Nat _ lc jc by omega)
  have ne_ja_sa : ja ≠ sa := Nat.ne_of_lt (show @LT.lt Nat _ ja sa by omega)
  have ne_ja_jc : ja ≠ jc := Nat.ne_of_lt (show @LT.lt Nat _ ja jc by omega)
  have ne_sa_jc : sa ≠ jc := Nat.ne_of_lt (show @LT.lt Nat _ sa jc by omega)
  have g_lc : n0 ≤ lc := (show @LE.le Nat _ n0 lc by omega)
  have g_ja : n0 ≤ ja := (show @LE.le Nat _ n0 ja by omega)
  have g_sa : n0 ≤ sa := (show @LE.le Nat _ n0 sa by omega)
  have g_jc : n0 ≤ jc := (show @LE.le Nat _ n0 jc by omega)
  refine own_on (B := s₁.setTop (mkF m 2 #[rv u0, .val (.long q1), sn, un] [(.long q1), (.ref u0)])) (fun tz kz => ?_) ?_
  · show sT p e below s₁ (mkF m 0 #[rv u0, .val (.long q1), sn, un] []) tz
    refine XS.aloadN X0.here hx rfl (hb hby own_d15_0) rfl rfl ?_
    show sT p e below s₁ (mkF m 1 #[rv u0, .val (.long q1), sn, un] [(.ref u0)]) tz
    refine XS.lloadN X0.here hx rfl (hb hby own_d15_1) rfl ?_
    exact kz
  obtain ⟨cq21, q21, q21'⟩ := E_u0.cell
  obtain ⟨_, _, ⟨T21, L21, k21, n21⟩, -, X21, ⟨Lc21, hQ21, l21, y21, z21⟩, st21⟩ := X0.privateBack hx (y := (⟨"com/example/vows_to_moves/vowstomoves/model/LongNumbering", "slotOf", "(J)I"⟩ : MethodName)) hown (mvT hZ (own_w hw 103 rfl)) (mvT hZ (own_w hw 104 rfl)) (mvT hZ (own_psel (y := (⟨"com/example/vows_to_moves/vowstomoves/model/LongNumbering", "slotOf", "(J)I"⟩ : MethodName)) (C := "com/example/vows_to_moves/vowstomoves/model/LongNumbering") rfl (own_w hw 10 rfl) (own_w hw 105 rfl) (own_w hw 104 rfl) (by decide))) (Cond.privateMethod_at (mvP hZ (own_w hw 105 rfl) (args := #[]))) (mvT hZ (own_w hw 106 rfl)) (by decide) (backOf (W := 0) (rm16a l Z a0 hw [] u0 q1 sa ks vs S lc ja jc kj kl v0 v1 v2 v3 2 h0 n0 O0 E_u0 Fsl Vs Fk El Fc Vj Vl hT (Nat.le_trans hS (by decide)) (by decide)) hZ (own_w hw 106 rfl) (own_w hw 11 rfl) (by decide) (by decide)) (g := (mkF m 2 #[rv u0, .val (.long q1), sn, un] [(.long q1), (.ref u0)])) rfl (by rw [hml]; rfl) (Steps.refl _) (a := u0) (by rw [e0]; exact q21) q21' (argsL := [(.long q1)]) (rest := []) (lenOf own_pd10 rfl) rfl (by show 2 * 0 + _ ≤ _; exact Nat.le_of_eq rfl) (hb hby own_d15_2) (fun _ _ => ⟨rfl, e0, (by decide : 0 + 0 ≤ _), (by decide : 0 + 0 ≤ _)⟩)
  dsimp only [Pt.U, Pt.locs, Pt.cells, Pt.slots] at X21 l21 y21 z21 st21 hQ21
  subst l21 y21 z21
  obtain ⟨j_, rfl, lo_, hi_, hB, Nq21, eq21⟩ := hQ21
  have N21 := Fr.app N0 Nq21
  refine own_on (B := T21.setTop (mkF m 5 #[rv u0, .val (.long q1), sn, un] [(.int j_)])) (fun tz kz => st21.trans kz) ?_
  refine own_on (B := T21.setTop (mkF m 7 #[rv u0, .val (.long q1), sn, iv j_] [(.ref u0)])) (fun tz kz => ?_) ?_
  · show sT p e below T21 (mkF m 5 #[rv u0, .val (.long q1), sn, un] [(.int j_)]) tz
    refine XS.istoreN X21.here hx rfl (hb hby own_d15_5) rfl (l' := #[rv u0, .val (.long q1), sn, iv j_]) rfl ?_
    show sT p e below T21 (mkF m 6 #[rv u0, .val (.long q1), sn, iv j_] []) tz
    refine XS.aloadN X21.here hx rfl (hb hby own_d15_6) rfl rfl ?_
    exact kz
  obtain ⟨T22, X22, e22, st22⟩ := getF X21 hx hZ hown (host := "") (Or.inl (own_w hw 50 rfl)) Via.refl eq21 Fsl (g := (mkF m 7 #[rv u0, .val (.long q1), sn, iv j_] [(.ref u0)])) rfl rfl (hb hby own_d15_7)
  refine own_on (B := T22.setTop (mkF m 10 #[rv u0, .val (.long q1), sn, iv j_] [(.ref sa)])) (fun tz kz => st22 _ kz) ?_
  refine own_on (B := T22.setTop (mkF m 11 #[rv u0, .val (.long q1), sn, iv j_] [(.int j_), (.ref sa)])) (fun tz kz => ?_) ?_
  · show sT p e below T22 (mkF m 10 #[rv u0, .val (.long q1), sn, iv j_] [(.ref sa)]) tz
    refine XS.iloadN X22.here hx rfl (hb hby own_d15_10) rfl ?_
    exact kz
  rcases hB with hA | ⟨i_, im, ivv, ik⟩
  · obtain ⟨cl23, Ar23, q23, S23, M23, H23, G23⟩ := id Vs
    have hin24 : ¬ (j_ < 0 ∨ cl23.slots.size ≤ (j_).toNatClampNeg) := inb_of S23 ⟨lo_, hi_⟩
    have hat24 : cl23.slots[(j_).toNatClampNeg]? = some (.int (-1 : Int32)) := Has.at H23 hin24 hA
    refine own_on (B := T22.setTop (mkF m 24 #[rv u0, .val (.long q1), sn, iv j_] [(.ref u0)])) (fun tz kz => ?_) ?_
    · show sT p e below T22 (mkF m 11 #[rv u0, .val (.long q1), sn, iv j_] [(.int j_), (.ref sa)]) tz
      refine X22.iaload hx (j := j_) (v := (.int (-1 : Int32))) (by rw [e22]; exact Ar23.1) (State.isArrayOf_alike hZ.alike Ar23.2.1) Ar23.2.2 hin24 hat24 (g := (mkF m 11 #[rv u0, .val (.long q1), sn, iv j_] [(.int j_), (.ref sa)])) rfl rfl (hb hby own_d15_11) _ ?_
      show sT p e below T22 (mkF m 12 #[rv u0, .val (.long q1), sn, iv j_] [(.int (-1 : Int32))]) tz
      refine XS.iconst X22.here hx rfl (hb hby own_d15_12) ?_
      show sT p e below T22 (mkF m 13 #[rv u0, .val (.long q1), sn, iv j_] [(.int (-1 : Int32)), (.int (-1 : Int32))]) tz
      refine XS.icmpYes X22.here hx rfl (pc0 := 13) (pc' := 23) rfl (hb hby own_d15_13) rfl (teq rfl).1 (by decide) (by decide) ?_
      show sT p e below T22 (mkF m 23 #[rv u0, .val (.long q1), sn, iv j_] []) tz
      refine XS.aloadN X22.here hx rfl (hb hby own_d15_23) rfl rfl ?_
      exact kz
    obtain ⟨T25, X25, e25, st25⟩ := getF X22 hx hZ hown (host := "") (Or.inl (own_w hw 50 rfl)) Via.refl e22 Fsl (g := (mkF m 24 #[rv u0, .val (.long q1), sn, iv j_] [(.ref u0)])) rfl rfl (hb hby own_d15_24)
    refine own_on (B := T25.setTop (mkF m 27 #[rv u0, .val (.long q1), sn, iv j_] [(.ref sa)])) (fun tz kz => st25 _ kz) ?_
    refine own_on (B := T25.setTop (mkF m 29 #[rv u0, .val (.long q1), sn, iv j_] [(.ref u0), (.int j_), (.ref sa)])) (fun tz kz => ?_) ?_
    · show sT p e below T25 (mkF m 27 #[rv u0, .val (.long q1), sn, iv j_] [(.ref sa)]) tz
      refine XS.iloadN X25.here hx rfl (hb hby own_d15_27) rfl ?_
      show sT p e below T25 (mkF m 28 #[rv u0, .val (.long q1), sn, iv j_] [(.int j_), (.ref sa)]) tz
      refine XS.aloadN X25.here hx rfl (hb hby own_d15_28) rfl rfl ?_
      exact kz
    obtain ⟨T26, X26, e26, st26⟩ := getF X25 hx hZ hown (host := "") (Or.inl (own_w hw 27 rfl)) Via.refl e25 Fk (g := (mkF m 29 #[rv u0, .val (.long q1), sn, iv j_] [(.ref u0), (.int j_), (.ref sa)])) rfl rfl (hb hby own_d15_29)
    refine own_on (B := T26.setTop (mkF m 32 #[rv u0, .val (.long q1), sn, iv j_] [(.ref lc), (.int j_), (.ref sa)])) (fun tz kz => st26 _ kz) ?_
    obtain ⟨cq27, kq27, q27a, q27b, q27c⟩ := isOf hZ e26 El
    obtain ⟨_, _, ⟨T27, L27, k27, n27⟩, -, X27, ⟨Lc27, hQ27, l27, y27, z27⟩, st27⟩ := X26.virtualBack hx (y := (⟨"com/example/vows_to_moves/vowstomoves/model/LongColumn", "size", "()I"⟩ : MethodName)) (z := (⟨"com/example/vows_to_moves/vowstomoves/model/LongColumn", "size", "()I"⟩ : MethodName)) hown (mvT hZ (own_w hw 91 rfl)) (mvT hZ (own_w hw 92 rfl)) (notFace_of_selects (args := #[]) (mvT hZ (own_w hw 94 rfl))) (mvT hZ (own_w hw 94 rfl)) (mvT hZ (own_w hw 93 rfl)) (by decide) (backOf (W := 2) (rm14 l Z a0 hw [] lc (2 : Int32) h0 n0 O0 Fs) hZ (own_w hw 95 rfl) (own_w hw 18 rfl) (by decide) (by decide)) q27a q27c (g := (mkF m 32 #[rv u0, .val (.long q1), sn, iv j_] [(.ref lc), (.int j_), (.ref sa)])) rfl (by rw [hml]; rfl) (Steps.refl _) (argsL := []) (rest := [(.int j_), (.ref sa)]) (lenOf own_pd6 rfl) rfl (by show 2 * 0 + _ ≤ _; exact Nat.le_of_eq rfl) (hb hby own_d15_32) (fun _ _ => ⟨rfl, e26, (by decide : 0 + 0 ≤ _), (by decide : 0 + 0 ≤ _)⟩)
    dsimp only [Pt.U, Pt.locs, Pt.cells, Pt.slots] at X27 l27 y27 z27 st27 hQ27
    subst l27 y27 z27
    obtain ⟨rfl, Nq27, e27⟩ := hQ27
    have N27 := Fr.app N21 Nq27
    refine own_on (B := T27.setTop (mkF m 35 #[rv u0, .val (.long q1), sn, iv j_] [(.int 2), (.int j_), (.ref sa)])) (fun tz kz => st27.trans kz) ?_
    obtain ⟨cl28, Ar28, q28, S28, M28, H28, G28⟩ := id Vs
    have hin29 : ¬ (j_ < 0 ∨ cl28.slots.size ≤ (j_).toNatClampNeg) := inb_of S28 ⟨lo_, hi_⟩
    obtain ⟨T29, h29, X29, e29, W29, st29⟩ := stI X27 hx hZ e27 Ar28 (j := j_) hin29 (g := (mkF m 35 #[rv u0, .val (.long q1), sn, iv j_] [(.int 2), (.int j_), (.ref sa)])) rfl rfl (hb hby own_d15_35)
    have V29 : Arv Z h29 sa ks .int (32 : Int32) (vs.set j_.toNatClampNeg (.int (2 : Int32))) (.int 0) := Arv.set Ar28 q28 S28 M28 H28 G28 rfl W29 j_.toNatClampNeg rfl (by rw [hT.1]; exact own_lt32 lo_ hi_)
    have N29 := Fr.snoc X29 N27 g_sa
    have O30 := O0.wr W29 g_sa
    have K30 : Keep h0 h29 [lc, jc, sa] := (Keep.refl h0 [lc, jc, sa]).wr W29 (Or.inl (List.mem_of_getElem? (i := 2) rfl))
    refine own_on (B := T29.setTop (mkF m 36 #[rv u0, .val (.long q1), sn, iv j_] [])) (fun tz kz => st29 _ kz) ?_
    have f_31 := (E_u0.wr W29)
    have f_32 := (Fk.other W29 (Or.inl ne_u0_sa))
    have f_33 := (Fsl.other W29 (Or.inl ne_u0_sa))
    have f_34 := (El.wr W29)
    have f_35 := (Fc.other W29 (Or.inl ne_lc_sa))
    have f_36 := (Fs.other W29 (Or.inl ne_lc_sa))
    have f_37 := (Vj.other W29 ne_ja_sa)
    have f_38 := (Vl.other W29 (Ne.symm ne_sa_jc))
    refine own_on (B := T29.setTop (mkF m 38 #[rv u0, .val (.long q1), sn, iv j_] [(.long q1), (.ref u0)])) (fun tz kz => ?_) ?_
    · show sT p e below T29 (mkF m 36 #[rv u0, .val (.long q1), sn, iv j_] []) tz
      refine XS.aloadN X29.here hx rfl (hb hby own_d15_36) rfl rfl ?_
      show sT p e below T29 (mkF m 37 #[rv u0, .val (.long q1), sn, iv j_] [(.ref u0)]) tz
      refine XS.lloadN X29.here hx rfl (hb hby own_d15_37) rfl ?_
      exact kz
    obtain ⟨cq39, q39, q39'⟩ := f_31.cell
    obtain ⟨_, _, ⟨T39, L39, k39, n39⟩, -, X39, ⟨Lc39, hQ39, l39, y39, z39⟩, st39⟩ := X29.privateBack hx (y := (⟨"com/example/vows_to_moves/vowstomoves/model/LongNumbering", "add", "(J)V"⟩ : MethodName)) hown (mvT hZ (own_w hw 112 rfl)) (mvT hZ (own_w hw 113 rfl)) (mvT hZ (own_psel (y := (⟨"com/example/vows_to_moves/vowstomoves/model/LongNumbering", "add", "(J)V"⟩ : MethodName)) (C := "com/example/vows_to_moves/vowstomoves/model/LongNumbering") rfl (own_w hw 10 rfl) (own_w hw 114 rfl) (own_w hw 113 rfl) (by decide))) (Cond.privateMethod_at (mvP hZ (own_w hw 114 rfl) (args := #[]))) (mvT hZ (own_w hw 115 rfl)) (by decide) (backOf (W := 0) (rm182 l Z a0 hw [] u0 q1 lc ja sa kj jc kl v0.toInt64 v1.toInt64 v2.toInt64 v3.toInt64 h29 n0 O30 f_31 g_u0 f_32 f_33 f_34 f_35 f_36 f_37 (OwnArz.of V29) f_38 (by omega)) hZ (own_w hw 115 rfl) (own_w hw 11 rfl) (by decide) (by decide)) (g := (mkF m 38 #[rv u0, .val (.long q1), sn, iv j_] [(.long q1), (.ref u0)])) rfl (by rw [hml]; rfl) (Steps.refl _) (a := u0) (by rw [e29]; exact q39) q39' (argsL := [(.long q1)]) (rest := []) (lenOf own_pd9 rfl) rfl (by show 2 * 0 + _ ≤ _; exact Nat.le_of_eq rfl) (hb hby own_d15_38) (fun _ _ => ⟨rfl, e29, (by decide : 0 + 0 ≤ _), (by decide : 0 + 0 ≤ _)⟩)
    dsimp only [Pt.U, Pt.locs, Pt.cells, Pt.slots] at X39 l39 y39 z39 st39 hQ39
    subst l39 y39 z39
    obtain ⟨rfl, Nq39, Kq39, Fs39, Fc39, Vl39⟩ := hQ39
    have N39 := Fr.app N29 Nq39
    have O40 := O30.keep Kq39 (allS g_lc (allS g_jc all0))
    have K40 : Keep h0 T39.heap [lc, jc, sa] := K30.trans Kq39 (allS (Or.inl (List.mem_of_getElem? (i := 0) rfl)) (allS (Or.inl (List.mem_of_getElem? (i := 1) rfl)) all0))
    refine own_on (B := T39.setTop (mkF m 41 #[rv u0, .val (.long q1), sn, iv j_] [])) (fun tz kz => st39.trans kz) ?_
    refine own_on (B := T39.setTop (mkF m 42 #[rv u0, .val (.long q1), sn, iv j_] [(.ref u0)])) (fun tz kz => ?_) ?_
    · show sT p e below T39 (mkF m 41 #[rv u0, .val (.long q1), sn, iv j_] []) tz
      refine XS.aloadN X39.here hx rfl (hb hby own_d15_41) rfl rfl ?_
      exact kz
    have f_41 := (f_32.keep Kq39 (ninS ne_u0_lc (ninS ne_u0_jc nin0)))
    obtain ⟨T42, X42, e42, st42⟩ := getF X39 hx hZ hown (host := "") (Or.inl (own_w hw 27 rfl)) Via.refl rfl f_41 (g := (mkF m 42 #[rv u0, .val (.long q1), sn, iv j_] [(.ref u0)])) rfl rfl (hb hby own_d15_42)
    refine own_on (B := T42.setTop (mkF m 45 #[rv u0, .val (.long q1), sn, iv j_] [(.ref lc)])) (fun tz kz => st42 _ kz) ?_
    have f_44 := (f_34.keep Kq39)
    obtain ⟨cq43, kq43, q43a, q43b, q43c⟩ := isOf hZ e42 f_44
    obtain ⟨_, _, ⟨T43, L43, k43, n43⟩, -, X43, ⟨Lc43, hQ43, l43, y43, z43⟩, st43⟩ := X42.virtualBack hx (y := (⟨"com/example/vows_to_moves/vowstomoves/model/LongColumn", "size", "()I"⟩ : MethodName)) (z := (⟨"com/example/vows_to_moves/vowstomoves/model/LongColumn", "size", "()I"⟩ : MethodName)) hown (mvT hZ (own_w hw 91 rfl)) (mvT hZ (own_w hw 92 rfl)) (notFace_of_selects (args := #[]) (mvT hZ (own_w hw 94 rfl))) (mvT hZ (own_w hw 94 rfl)) (mvT hZ (own_w hw 93 rfl)) (by decide) (backOf (W := 0) (rm14 l Z a0 hw [] lc (3 : Int32) T39.heap n0 O40 Fs39) hZ (own_w hw 95 rfl) (own_w hw 18 rfl) (by decide) (by decide)) q43a q43c (g := (mkF m 45 #[rv u0, .val (.long q1), sn, iv j_] [(.ref lc)])) rfl (by rw [hml]; rfl) (Steps.refl _) (argsL := []) (rest := []) (lenOf own_pd6 rfl) rfl (by show 2 * 0 + _ ≤ _; exact Nat.le_of_eq rfl) (hb hby own_d15_45) (fun _ _ => ⟨rfl, e42, (by decide : 0 + 0 ≤ _), (by decide : 0 + 0 ≤ _)⟩)
    dsimp only [Pt.U, Pt.locs, Pt.cells, Pt.slots] at X43 l43 y43 z43 st43 hQ43
    subst l43 y43 z43
    obtain ⟨rfl, Nq43, e43⟩ := hQ43
    have N43 := Fr.app N39 Nq43
    refine own_on (B := T43.setTop (mkF m 48 #[rv u0, .val (.long q1), sn, iv j_] [(.int 3)])) (fun tz kz => st43.trans kz) ?_
    have f_45 := (V29.keep Kq39 (ninS (Ne.symm ne_lc_sa) (ninS ne_sa_jc nin0)))
    refine own_on (B := T43.setTop (mkF m 50 #[rv u0, .val (.long q1), sn, iv j_] [(.int 2)])) (fun tz kz => ?_) ?_
    · show sT p e below T43 (mkF m 48 #[rv u0, .val (.long q1), sn, iv j_] [(.int 3)]) tz
      refine XS.iconst X43.here hx rfl (hb hby own_d15_48) ?_
      show sT p e below T43 (mkF m 49 #[rv u0, .val (.long q1), sn, iv j_] [(.int 1), (.int 3)]) tz
      refine XS.isub X43.here hx rfl (hb hby own_d15_49) rfl ?_
      exact kz
    obtain ⟨fs, hr, hrun, hended, hW, hsame⟩ := X43.leave (v := some (.int (2 : Int32))) (fun h => by rw [Bd.returns] at h; cases h)
    refine own_of ⟨_, _, ?_, hrun, hended, _, _, rfl, ?_, ⟨_, rfl⟩, hW, hsame.mono (by decide) (by decide)⟩
    · show sT p e below T43 (mkF m 50 #[rv u0, .val (.long q1), sn, iv j_] [(.int 2)]) _
      exact own_retI X43 hx Bd.returns (hb hby own_d15_50) hr
    · show Q152 Z u0 q1 sa ks vs S lc ja kj jc kl v0 v1 v2 v3 h0 n0 _ T43.heap _
      rw [e43]
      exact ⟨N43, Or.inr ⟨rfl, K40, Fs39, Fc39, Vl39, ⟨_, _, own_tabS hT (own_lt32 lo_ hi_), f_45⟩⟩⟩
  · obtain ⟨cl46, Ar46, q46, S46, M46, H46, G46⟩ := id Vs
    have hin47 : ¬ (j_ < 0 ∨ cl46.slots.size ≤ (j_).toNatClampNeg) := inb_of S46 ⟨lo_, hi_⟩
    have hat47 : cl46.slots[(j_).toNatClampNeg]? = some (.int i_.toInt32) := Has.at H46 hin47 ivv
    refine own_on (B := T22.setTop (mkF m 17 #[rv u0, .val (.long q1), sn, iv j_] [(.ref u0)])) (fun tz kz => ?_) ?_
    · show sT p e below T22 (mkF m 11 #[rv u0, .val (.long q1), sn, iv j_] [(.int j_), (.ref sa)]) tz
      refine X22.iaload hx (j := j_) (v := (.int i_.toInt32)) (by rw [e22]; exact Ar46.1) (State.isArrayOf_alike hZ.alike Ar46.2.1) Ar46.2.2 hin47 hat47 (g := (mkF m 11 #[rv u0, .val (.long q1), sn, iv j_] [(.int j_), (.ref sa)])) rfl rfl (hb hby own_d15_11) _ ?_
      show sT p e below T22 (mkF m 12 #[rv u0, .val (.long q1), sn, iv j_] [(.int i_.toInt32)]) tz
      refine XS.iconst X22.here hx rfl (hb hby own_d15_12) ?_
      show sT p e below T22 (mkF m 13 #[rv u0, .val (.long q1), sn, iv j_] [(.int (-1 : Int32)), (.int i_.toInt32)]) tz
      refine XS.icmpNo X22.here hx rfl (hb hby own_d15_13) rfl (feq (own_ix im (by decide)).2.2.2.1).1 ?_
      show sT p e below T22 (mkF m 16 #[rv u0, .val (.long q1), sn, iv j_] []) tz
      refine XS.aloadN X22.here hx rfl (hb hby own_d15_16) rfl rfl ?_
      exact kz
    obtain ⟨T48, X48, e48, st48⟩ := getF X22 hx hZ hown (host := "") (Or.inl (own_w hw 50 rfl)) Via.refl e22 Fsl (g := (mkF m 17 #[rv u0, .val (.long q1), sn, iv j_] [(.ref u0)])) rfl rfl (hb hby own_d15_17)
    refine own_on (B := T48.setTop (mkF m 20 #[rv u0, .val (.long q1), sn, iv j_] [(.ref sa)])) (fun tz kz => st48 _ kz) ?_
    refine own_on (B := T48.setTop (mkF m 21 #[rv u0, .val (.long q1), sn, iv j_] [(.int j_), (.ref sa)])) (fun tz kz => ?_) ?_
    · show sT p e below T48 (mkF m 20 #[rv u0, .val (.long q1), sn, iv j_] [(.ref sa)]) tz
      refine XS.iloadN X48.here hx rfl (hb hby own_d15_20) rfl ?_
      exact kz
    obtain ⟨cl49, Ar49, q49, S49, M49, H49, G49⟩ := id Vs
    have hin50 : ¬ (j_ < 0 ∨ cl49.slots.size ≤ (j_).toNatClampNeg) := inb_of S49 ⟨lo_, hi_⟩
    have hat50 : cl49.slots[(j_).toNatClampNeg]? = some (.int i_.toInt32) := Has.at H49 hin50 ivv
    refine own_on (B := T48.setTop (mkF m 22 #[rv u0, .val (.long q1), sn, iv j_] [(.int i_.toInt32)])) (fun tz kz => ?_) ?_
    · show sT p e below T48 (mkF m 21 #[rv u0, .val (.long q1), sn, iv j_] [(.int j_), (.ref sa)]) tz
      refine X48.iaload hx (j := j_) (v := (.int i_.toInt32)) (by rw [e48]; exact Ar49.1) (State.isArrayOf_alike hZ.alike Ar49.2.1) Ar49.2.2 hin50 hat50 (g := (mkF m 21 #[rv u0, .val (.long q1), sn, iv j_] [(.int j_), (.ref sa)])) rfl rfl (hb hby own_d15_21) _ ?_
      exact kz
    obtain ⟨fs, hr, hrun, hended, hW, hsame⟩ := X48.leave (v := some (.int i_.toInt32)) (fun h => by rw [Bd.returns] at h; cases h)
    refine own_of ⟨_, _, ?_, hrun, hended, _, _, rfl, ?_, ⟨_, rfl⟩, hW, hsame.mono (by decide) (by decide)⟩
    · show sT p e below T48 (mkF m 22 #[rv u0, .val (.long q1), sn, iv j_] [(.int i_.toInt32)]) _
      exact own_retI X48 hx Bd.returns (hb hby own_d15_22) hr
    · show Q152 Z u0 q1 sa ks vs S lc ja kj jc kl v0 v1 v2 v3 h0 n0 _ T48.heap _
      rw [e48]
      exact ⟨N21, Or.inl ⟨i_, im, rfl, ik, rfl⟩⟩
theorem own_ef_153 (m : MethodId) (x0 : Addr) (x1 : Int64) : entryFrame m #[(.ref x0), (.long x1)] 4 = mkF m 0 #[rv x0, .val (.long x1), .second, .unset] [] := by first | (simp [entryFrame, mkF, argsToLocals, Value.category]; done) | rfl
def Q153 (Z : State) (u0 : Addr) (q1 : Int64) (sa : Addr) (ks : ClassId) (vs : List Value) (S : List Nat) (lc : Addr) (ja : Addr) (kj : ClassId) (jc : Addr) (kl : ClassId) (v0 : UInt64) (v1 : UInt64) (v2 : UInt64) (v3 : UInt64) (h0 : Heap) (n0 : Nat) (v : Option Value) (h : Heap) (L : List Loc) : Prop := Fr n0 L ∧ ((∃ i, i < 3 ∧ v = some (.int i.toInt32) ∧ ([v0, v1, v2, v3].getD i 0).toInt64 = q1 ∧ h = h0) ∨ (v = some (.int (3 : Int32)) ∧ Keep h0 h [lc, jc, sa] ∧ Fld Z h lc "com/example/vows_to_moves/vowstomoves/model/LongColumn" "size" "I" (.int (4 : Int32)) ∧ Fld Z h lc "com/example/vows_to_moves/vowstomoves/model/LongColumn" "chunks" "[[J" (.ref ja) ∧ Arv Z h jc kl .long (32768 : Int32) [(.long v0.toInt64), (.long v1.toInt64), (.long v2.toInt64), (.long q1)] (.long 0) ∧ ∃ (vs' : List Value) (j : Nat), OwnTab vs' 4 (j :: S) ∧ Arv Z h sa ks .int (32 : Int32) vs' (.int 0)))
set_option maxRecDepth 65536 in
set_option maxHeartbeats 40000000 in
theorem rm153 (l : Launch) (Z : State) (a0 : Array Value) (hw : ∀ d ∈ tables_1, d.before a0 Z = true) (ws : List Jvm.Cond) (u0 : Addr) (q1 : Int64) (sa : Addr) (ks : ClassId) (vs : List Value) (S : List Nat) (lc : Addr) (ja : Addr) (kj : ClassId) (jc : Addr) (kl : ClassId) (v0 : UInt64) (v1 : UInt64) (v2 : UInt64) (v3 : UInt64) (h0 : Heap) (n0 : Nat) (O0 : Old Z n0 h0) (E_u0 : Exa Z h0 u0 "com/example/vows_to_moves/vowstomoves/model/LongNumbering") (g_u0 : n0 ≤ u0) (Fk : Fld Z h0 u0 "com/example/vows_to_moves/vowstomoves/model/LongNumbering" "keys" "Lcom/example/vows_to_moves/vowstomoves/model/LongColumn;" (.ref lc)) (Fsl : Fld Z h0 u0 "com/example/vows_to_moves/vowstomoves/model/LongNumbering" "slots" "[I" (.ref sa)) (El : Exa Z h0 lc "com/example/vows_to_moves/vowstomoves/model/LongColumn") (Fc : Fld Z h0 lc "com/example/vows_to_moves/vowstomoves/model/LongColumn" "chunks" "[[J" (.ref ja)) (Fs : Fld Z h0 lc "com/example/vows_to_moves/vowstomoves/model/LongColumn" "size" "I" (.int (3 : Int32))) (Vj : Arv Z h0 ja kj (.array .long) (4 : Int32) [(.ref jc), .null, .null, .null] .null) (Vs : Arv Z h0 sa ks .int (32 : Int32) vs (.int 0)) (hT : OwnTab vs 3 S) (Vl : Arv Z h0 jc kl .long (32768 : Int32) [(.long v0.toInt64), (.long v1.toInt64), (.long v2.toInt64), (.long v3.toInt64)] (.long 0)) (hS : S.length ≤ 3) (o1 : @LT.lt Nat _ u0 lc ∧ @LT.lt Nat _ lc ja ∧ @LT.lt Nat _ ja sa ∧ @LT.lt Nat _ sa jc) :
    MetFree l (⟨"com/example/vows_to_moves/vowstomoves/model/LongNumbering", "number", "(J)I"⟩ : MethodName) (head1 (Jvm.Cond.code (⟨"com/example/vows_to_moves/vowstomoves/model/LongNumbering", "number", "(J)I"⟩ : MethodName) prog_82_method_2_code 4 (some .int) :: ws) ({ frames := 2, cells := 0, slots := 0, locals := 40 } : Room)) (fun a U => a = #[(.ref u0), (.long q1)] ∧ Z.Warmed39 U.vm ∧ U.heap = h0) (fun _ _ _ _ _ => True) (fun _ U o U' => ∃ v L, o = .returned v ∧ Q153 Z u0 q1 sa ks vs S lc ja kj jc kl v0 v1 v2 v3 h0 n0 v U'.heap L ∧ FrameEnd U o U' L ({ frames := 2, cells := 0, slots := 0, locals := 40 } : Room).cells ({ frames := 2, cells := 0, slots := 0, locals := 40 } : Room).slots) := by
  refine MetFree.of_bodySF (plainFor_of_name own_pn_com_example_vows_to_moves_vowstomoves_model_LongNumbering) hisR ?_
  intro p e s m args below meth c s₁ Bd hml0 hP hK
  obtain ⟨rfl, hZ, hh⟩ := hP
  have hx := Bd.exec
  have hby := Bd.bytes
  have hml : c.maxLocals = 4 := hml0
  have hown : s.vm.findClass "com/example/vows_to_moves/vowstomoves/model/LongNumbering" = some m.cls := findClass_of_methodNamed Bd.named
  have hnm := (name_of_methodNamed Bd.named Bd.method).1
  have X0 : Stand p l e ({ frames := 2, cells := 0, slots := 0, locals := 40 } : Room) s m #[(.ref u0), (.long q1)] below meth c s₁ [] 0 0 := Stand.of_body Bd
  have e0 : s₁.heap = h0 := by rw [← hh, Bd.state]; rfl
  have N0 := Fr.nil n0
  change Go p.tables e below _ _
  refine own_on (B := s₁.setTop (mkF m 0 #[rv u0, .val (.long q1), sn, un] [])) (fun tz kz => castTop (own_ef_153 m u0 q1) kz) ?_
  have ne_u0_lc : u0 ≠ lc := Nat.ne_of_lt (show @LT.lt Nat _ u0 lc by omega)
  have ne_u0_ja : u0 ≠ ja := Nat.ne_of_lt (show @LT.lt Nat _ u0 ja by omega)
  have ne_u0_sa : u0 ≠ sa := Nat.ne_of_lt (show @LT.lt Nat _ u0 sa by omega)
  have ne_u0_jc : u0 ≠ jc := Nat.ne_of_lt (show @LT.lt Nat _ u0 jc by omega)
  have ne_lc_ja : lc ≠ ja := Nat.ne_of_lt (show @LT.lt Nat _ lc ja by omega)
  have ne_lc_sa : lc ≠ sa := Nat.ne_of_lt (show @LT.lt Nat _ lc sa by omega)
  have ne_lc_jc : lc ≠ jc := Nat.ne_of_lt (show @LT.lt Nat _ lc jc by omega)
  have ne_ja_sa : ja ≠ sa := Nat.ne_of_lt (show @LT.lt Nat _ ja sa by omega)
  have ne_ja_jc : ja ≠ jc := Nat.ne_of_lt (show @LT.lt Nat _ ja jc by omega)
  have ne_sa_jc : sa ≠ jc := Nat.ne_of_lt (show @LT.lt Nat _ sa jc by omega)
  have g_lc : n0 ≤ lc := (show @LE.le Nat _ n0 lc by omega)
  have g_ja : n0 ≤ ja := (show @LE.le Nat _ n0 ja by omega)
  have g_sa : n0 ≤ sa := (show @LE.le Nat _ n0 sa by omega)
  have g_jc : n0 ≤ jc := (show @LE.le Nat _ n0 jc by omega)
  refine own_on (B := s₁.setTop (mkF m 2 #[rv u0, .val (.long q1), sn, un] [(.long q1), (.ref u0)])) (fun tz kz => ?_) ?_
  · show sT p e below s₁ (mkF m 0 #[rv u0, .val (.long q1), sn, un] []) tz
    refine XS.aloadN X0.here hx rfl (hb hby own_d15_0) rfl rfl ?_
    show sT p e below s₁ (mkF m 1 #[rv u0, .val (.long q1), sn, un] [(.ref u0)]) tz
    refine XS.lloadN X0.here hx rfl (hb hby own_d15_1) rfl ?_
    exact kz
  obtain ⟨cq21, q21, q21'⟩ := E_u0.cell
  obtain ⟨_, _, ⟨T21, L21, k21, n21⟩, -, X21, ⟨Lc21, hQ21, l21, y21, z21⟩, st21⟩ := X0.privateBack hx (y := (⟨"com/example/vows_to_moves/vowstomoves/model/LongNumbering", "slotOf", "(J)I"⟩ : MethodName)) hown (mvT hZ (own_w hw 103 rfl)) (mvT hZ (own_w hw 104 rfl)) (mvT hZ (own_psel (y := (⟨"com/example/vows_to_moves/vowstomoves/model/LongNumbering", "slotOf", "(J)I"⟩ : MethodName)) (C := "com/example/vows_to_moves/vowstomoves/model/LongNumbering") rfl (own_w hw 10 rfl) (own_w hw 105 rfl) (own_w hw 104 rfl) (by decide))) (Cond.privateMethod_at (mvP hZ (own_w hw 105 rfl) (args := #[]))) (mvT hZ (own_w hw 106 rfl)) (by decide) (backOf (W := 0) (rm16a l Z a0 hw [] u0 q1 sa ks vs S lc ja jc kj kl v0 v1 v2 v3 3 h0 n0 O0 E_u0 Fsl Vs Fk El Fc Vj Vl hT (Nat.le_trans hS (by decide)) (by decide)) hZ (own_w hw 106 rfl) (own_w hw 11 rfl) (by decide) (by decide)) (g := (mkF m 2 #[rv u0, .val (.long q1), sn, un] [(.long q1), (.ref u0)])) rfl (by rw [hml]; rfl) (Steps.refl _) (a := u0) (by rw [e0]; exact q21) q21' (argsL := [(.long q1)]) (rest := []) (lenOf own_pd10 rfl) rfl (by show 2 * 0 + _ ≤ _; exact Nat.le_of_eq rfl) (hb hby own_d15_2) (fun _ _ => ⟨rfl, e0, (by decide : 0 + 0 ≤ _), (by decide : 0 + 0 ≤ _)⟩)
  dsimp only [Pt.U, Pt.locs, Pt.cells, Pt.slots] at X21 l21 y21 z21 st21 hQ21
  subst l21 y21 z21
  obtain ⟨j_, rfl, lo_, hi_, hB, Nq21, eq21⟩ := hQ21
  have N21 := Fr.app N0 Nq21
  refine own_on (B := T21.setTop (mkF m 5 #[rv u0, .val (.long q1), sn, un] [(.int j_)])) (fun tz kz => st21.trans kz) ?_
  refine own_on (B := T21.setTop (mkF m 7 #[rv u0, .val (.long q1), sn, iv j_] [(.ref u0)])) (fun tz kz => ?_) ?_
  · show sT p e below T21 (mkF m 5 #[rv u0, .val (.long q1), sn, un] [(.int j_)]) tz
    refine XS.istoreN X21.here hx rfl (hb hby own_d15_5) rfl (l' := #[rv u0, .val (.long q1), sn, iv j_]) rfl ?_
    show sT p e below T21 (mkF m 6 #[rv u0, .val (.long q1), sn, iv j_] []) tz
    refine XS.aloadN X21.here hx rfl (hb hby own_d15_6) rfl rfl ?_
    exact kz
  obtain ⟨T22, X22, e22, st22⟩ := getF X21 hx hZ hown (host := "") (Or.inl (own_w hw 50 rfl)) Via.refl eq21 Fsl (g := (mkF m 7 #[rv u0, .val (.long q1), sn, iv j_] [(.ref u0)])) rfl rfl (hb hby own_d15_7)
  refine own_on (B := T22.setTop (mkF m 10 #[rv u0, .val (.long q1), sn, iv j_] [(.ref sa)])) (fun tz kz => st22 _ kz) ?_
  refine own_on (B := T22.setTop (mkF m 11 #[rv u0, .val (.long q1), sn, iv j_] [(.int j_), (.ref sa)])) (fun tz kz => ?_) ?_
  · show sT p e below T22 (mkF m 10 #[rv u0, .val (.long q1), sn, iv j_] [(.ref sa)]) tz
    refine XS.iloadN X22.here hx rfl (hb hby own_d15_10) rfl ?_
    exact kz
  rcases hB with hA | ⟨i_, im, ivv, ik⟩
  · obtain ⟨cl23, Ar23, q23, S23, M23, H23, G23⟩ := id Vs
    have hin24 : ¬ (j_ < 0 ∨ cl23.slots.size ≤ (j_).toNatClampNeg) := inb_of S23 ⟨lo_, hi_⟩
    have hat24 : cl23.slots[(j_).toNatClampNeg]? = some (.int (-1 : Int32)) := Has.at H23 hin24 hA
    refine own_on (B := T22.setTop (mkF m 24 #[rv u0, .val (.long q1), sn, iv j_] [(.ref u0)])) (fun tz kz => ?_) ?_
    · show sT p e below T22 (mkF m 11 #[rv u0, .val (.long q1), sn, iv j_] [(.int j_), (.ref sa)]) tz
      refine X22.iaload hx (j := j_) (v := (.int (-1 : Int32))) (by rw [e22]; exact Ar23.1) (State.isArrayOf_alike hZ.alike Ar23.2.1) Ar23.2.2 hin24 hat24 (g := (mkF m 11 #[rv u0, .val (.long q1), sn, iv j_] [(.int j_), (.ref sa)])) rfl rfl (hb hby own_d15_11) _ ?_
      show sT p e below T22 (mkF m 12 #[rv u0, .val (.long q1), sn, iv j_] [(.int (-1 : Int32))]) tz
      refine XS.iconst X22.here hx rfl (hb hby own_d15_12) ?_
      show sT p e below T22 (mkF m 13 #[rv u0, .val (.long q1), sn, iv j_] [(.int (-1 : Int32)), (.int (-1 : Int32))]) tz
      refine XS.icmpYes X22.here hx rfl (pc0 := 13) (pc' := 23) rfl (hb hby own_d15_13) rfl (teq rfl).1 (by decide) (by decide) ?_
      show sT p e below T22 (mkF m 23 #[rv u0, .val (.long q1), sn, iv j_] []) tz
      refine XS.aloadN X22.here hx rfl (hb hby own_d15_23) rfl rfl ?_
      exact kz
    obtain ⟨T25, X25, e25, st25⟩ := getF X22 hx hZ hown (host := "") (Or.inl (own_w hw 50 rfl)) Via.refl e22 Fsl (g := (mkF m 24 #[rv u0, .val (.long q1), sn, iv j_] [(.ref u0)])) rfl rfl (hb hby own_d15_24)
    refine own_on (B := T25.setTop (mkF m 27 #[rv u0, .val (.long q1), sn, iv j_] [(.ref sa)])) (fun tz kz => st25 _ kz) ?_
    refine own_on (B := T25.setTop (mkF m 29 #[rv u0, .val (.long q1), sn, iv j_] [(.ref u0), (.int j_), (.ref sa)])) (fun tz kz => ?_) ?_
    · show sT p e below T25 (mkF m 27 #[rv u0, .val (.long q1), sn, iv j_] [(.ref sa)]) tz
      refine XS.iloadN X25.here hx rfl (hb hby own_d15_27) rfl ?_
      show sT p e below T25 (mkF m 28 #[rv u0, .val (.long q1), sn, iv j_] [(.int j_), (.ref sa)]) tz
      refine XS.aloadN X25.here hx rfl (hb hby own_d15_28) rfl rfl ?_
      exact kz
    obtain ⟨T26, X26, e26, st26⟩ := getF X25 hx hZ hown (host := "") (Or.inl (own_w hw 27 rfl)) Via.refl e25 Fk (g := (mkF m 29 #[rv u0, .val (.long q1), sn, iv j_] [(.ref u0), (.int j_), (.ref sa)])) rfl rfl (hb hby own_d15_29)
    refine own_on (B := T26.setTop (mkF m 32 #[rv u0, .val (.long q1), sn, iv j_] [(.ref lc), (.int j_), (.ref sa)])) (fun tz kz => st26 _ kz) ?_
    obtain ⟨cq27, kq27, q27a, q27b, q27c⟩ := isOf hZ e26 El
    obtain ⟨_, _, ⟨T27, L27, k27, n27⟩, -, X27, ⟨Lc27, hQ27, l27, y27, z27⟩, st27⟩ := X26.virtualBack hx (y := (⟨"com/example/vows_to_moves/vowstomoves/model/LongColumn", "size", "()I"⟩ : MethodName)) (z := (⟨"com/example/vows_to_moves/vowstomoves/model/LongColumn", "size", "()I"⟩ : MethodName)) hown (mvT hZ (own_w hw 91 rfl)) (mvT hZ (own_w hw 92 rfl)) (notFace_of_selects (args := #[]) (mvT hZ (own_w hw 94 rfl))) (mvT hZ (own_w hw 94 rfl)) (mvT hZ (own_w hw 93 rfl)) (by decide) (backOf (W := 2) (rm14 l Z a0 hw [] lc (3 : Int32) h0 n0 O0 Fs) hZ (own_w hw 95 rfl) (own_w hw 18 rfl) (by decide) (by decide)) q27a q27c (g := (mkF m 32 #[rv u0, .val (.long q1), sn, iv j_] [(.ref lc), (.int j_), (.ref sa)])) rfl (by rw [hml]; rfl) (Steps.refl _) (argsL := []) (rest := [(.int j_), (.ref sa)]) (lenOf own_pd6 rfl) rfl (by show 2 * 0 + _ ≤ _; exact Nat.le_of_eq rfl) (hb hby own_d15_32) (fun _ _ => ⟨rfl, e26, (by decide : 0 + 0 ≤ _), (by decide : 0 + 0 ≤ _)⟩)
    dsimp only [Pt.U, Pt.locs, Pt.cells, Pt.slots] at X27 l27 y27 z27 st27 hQ27
    subst l27 y27 z27
    obtain ⟨rfl, Nq27, e27⟩ := hQ27
    have N27 := Fr.app N21 Nq27
    refine own_on (B := T27.setTop (mkF m 35 #[rv u0, .val (.long q1), sn, iv j_] [(.int 3), (.int j_), (.ref sa)])) (fun tz kz => st27.trans kz) ?_
    obtain ⟨cl28, Ar28, q28, S28, M28, H28, G28⟩ := id Vs
    have hin29 : ¬ (j_ < 0 ∨ cl28.slots.size ≤ (j_).toNatClampNeg) := inb_of S28 ⟨lo_, hi_⟩
    obtain ⟨T29, h29, X29, e29, W29, st29⟩ := stI X27 hx hZ e27 Ar28 (j := j_) hin29 (g := (mkF m 35 #[rv u0, .val (.long q1), sn, iv j_] [(.int 3), (.int j_), (.ref sa)])) rfl rfl (hb hby own_d15_35)
    have V29 : Arv Z h29 sa ks .int (32 : Int32) (vs.set j_.toNatClampNeg (.int (3 : Int32))) (.int 0) := Arv.set Ar28 q28 S28 M28 H28 G28 rfl W29 j_.toNatClampNeg rfl (by rw [hT.1]; exact own_lt32 lo_ hi_)
    have N29 := Fr.snoc X29 N27 g_sa
    have O30 := O0.wr W29 g_sa
    have K30 : Keep h0 h29 [lc, jc, sa] := (Keep.refl h0 [lc, jc, sa]).wr W29 (Or.inl (List.mem_of_getElem? (i := 2) rfl))
    refine own_on (B := T29.setTop (mkF m 36 #[rv u0, .val (.long q1), sn, iv j_] [])) (fun tz kz => st29 _ kz) ?_
    have f_31 := (E_u0.wr W29)
    have f_32 := (Fk.other W29 (Or.inl ne_u0_sa))
    have f_33 := (Fsl.other W29 (Or.inl ne_u0_sa))
    have f_34 := (El.wr W29)
    have f_35 := (Fc.other W29 (Or.inl ne_lc_sa))
    have f_36 := (Fs.other W29 (Or.inl ne_lc_sa))
    have f_37 := (Vj.other W29 ne_ja_sa)
    have f_38 := (Vl.other W29 (Ne.symm ne_sa_jc))
    refine own_on (B := T29.setTop (mkF m 38 #[rv u0, .val (.long q1), sn, iv j_] [(.long q1), (.ref u0)])) (fun tz kz => ?_) ?_
    · show sT p e below T29 (mkF m 36 #[rv u0, .val (.long q1), sn, iv j_] []) tz
      refine XS.aloadN X29.here hx rfl (hb hby own_d15_36) rfl rfl ?_
      show sT p e below T29 (mkF m 37 #[rv u0, .val (.long q1), sn, iv j_] [(.ref u0)]) tz
      refine XS.lloadN X29.here hx rfl (hb hby own_d15_37) rfl ?_
      exact kz
    obtain ⟨cq39, q39, q39'⟩ := f_31.cell
    obtain ⟨_, _, ⟨T39, L39, k39, n39⟩, -, X39, ⟨Lc39, hQ39, l39, y39, z39⟩, st39⟩ := X29.privateBack hx (y := (⟨"com/example/vows_to_moves/vowstomoves/model/LongNumbering", "add", "(J)V"⟩ : MethodName)) hown (mvT hZ (own_w hw 112 rfl)) (mvT hZ (own_w hw 113 rfl)) (mvT hZ (own_psel (y := (⟨"com/example/vows_to_moves/vowstomoves/model/LongNumbering", "add", "(J)V"⟩ : MethodName)) (C := "com/example/vows_to_moves/vowstomoves/model/LongNumbering") rfl (own_w hw 10 rfl) (own_w hw 114 rfl) (own_w hw 113 rfl) (by decide))) (Cond.privateMethod_at (mvP hZ (own_w hw 114 rfl) (args := #[]))) (mvT hZ (own_w hw 115 rfl)) (by decide) (backOf (W := 0) (rm183 l Z a0 hw [] u0 q1 lc ja sa kj jc kl v0.toInt64 v1.toInt64 v2.toInt64 v3.toInt64 h29 n0 O30 f_31 g_u0 f_32 f_33 f_34 f_35 f_36 f_37 (OwnArz.of V29) f_38 (by omega)) hZ (own_w hw 115 rfl) (own_w hw 11 rfl) (by decide) (by decide)) (g := (mkF m 38 #[rv u0, .val (.long q1), sn, iv j_] [(.long q1), (.ref u0)])) rfl (by rw [hml]; rfl) (Steps.refl _) (a := u0) (by rw [e29]; exact q39) q39' (argsL := [(.long q1)]) (rest := []) (lenOf own_pd9 rfl) rfl (by show 2 * 0 + _ ≤ _; exact Nat.le_of_eq rfl) (hb hby own_d15_38) (fun _ _ => ⟨rfl, e29, (by decide : 0 + 0 ≤ _), (by decide : 0 + 0 ≤ _)⟩)
    dsimp only [Pt.U, Pt.locs, Pt.cells, Pt.slots] at X39 l39 y39 z39 st39 hQ39
    subst l39 y39 z39
    obtain ⟨rfl, Nq39, Kq39, Fs39, Fc39, Vl39⟩ := hQ39
    have N39 := Fr.app N29 Nq39
    have O40 := O30.keep Kq39 (allS g_lc (allS g_jc all0))
    have K40 : Keep h0 T39.heap [lc, jc, sa] := K30.trans Kq39 (allS (Or.inl (List.mem_of_getElem? (i := 0) rfl)) (allS (Or.inl (List.mem_of_getElem? (i := 1) rfl)) all0))
    refine own_on (B := T39.setTop (mkF m 41 #[rv u0, .val (.long q1), sn, iv j_] [])) (fun tz kz => st39.trans kz) ?_
    refine own_on (B := T39.setTop (mkF m 42 #[rv u0, .val (.long q1), sn, iv j_] [(.ref u0)])) (fun tz kz => ?_) ?_
    · show sT p e below T39 (mkF m 41 #[rv u0, .val (.long q1), sn, iv j_] []) tz
      refine XS.aloadN X39.here hx rfl (hb hby own_d15_41) rfl rfl ?_
      exact kz
    have f_41 := (f_32.keep Kq39 (ninS ne_u0_lc (ninS ne_u0_jc nin0)))
    obtain ⟨T42, X42, e42, st42⟩ := getF X39 hx hZ hown (host := "") (Or.inl (own_w hw 27 rfl)) Via.refl rfl f_41 (g := (mkF m 42 #[rv u0, .val (.long q1), sn, iv j_] [(.ref u0)])) rfl rfl (hb hby own_d15_42)
    refine own_on (B := T42.setTop (mkF m 45 #[rv u0, .val (.long q1), sn, iv j_] [(.ref lc)])) (fun tz kz => st42 _ kz) ?_
    have f_44 := (f_34.keep Kq39)
    obtain ⟨cq43, kq43, q43a, q43b, q43c⟩ := isOf hZ e42 f_44
    obtain ⟨_, _, ⟨T43, L43, k43, n43⟩, -, X43, ⟨Lc43, hQ43, l43, y43, z43⟩, st43⟩ := X42.virtualBack hx (y := (⟨"com/example/vows_to_moves/vowstomoves/model/LongColumn", "size", "()I"⟩ : MethodName)) (z := (⟨"com/example/vows_to_moves/vowstomoves/model/LongColumn", "size", "()I"⟩ : MethodName)) hown (mvT hZ (own_w hw 91 rfl)) (mvT hZ (own_w hw 92 rfl)) (notFace_of_selects (args := #[]) (mvT hZ (own_w hw 94 rfl))) (mvT hZ (own_w hw 94 rfl)) (mvT hZ (own_w hw 93 rfl)) (by decide) (backOf (W := 0) (rm14 l Z a0 hw [] lc (4 : Int32) T39.heap n0 O40 Fs39) hZ (own_w hw 95 rfl) (own_w hw 18 rfl) (by decide) (by decide)) q43a q43c (g := (mkF m 45 #[rv u0, .val (.long q1), sn, iv j_] [(.ref lc)])) rfl (by rw [hml]; rfl) (Steps.refl _) (argsL := []) (rest := []) (lenOf own_pd6 rfl) rfl (by show 2 * 0 + _ ≤ _; exact Nat.le_of_eq rfl) (hb hby own_d15_45) (fun _ _ => ⟨rfl, e42, (by decide : 0 + 0 ≤ _), (by decide : 0 + 0 ≤ _)⟩)
    dsimp only [Pt.U, Pt.locs, Pt.cells, Pt.slots] at X43 l43 y43 z43 st43 hQ43
    subst l43 y43 z43
    obtain ⟨rfl, Nq43, e43⟩ := hQ43
    have N43 := Fr.app N39 Nq43
    refine own_on (B := T43.setTop (mkF m 48 #[rv u0, .val (.long q1), sn, iv j_] [(.int 4)])) (fun tz kz => st43.trans kz) ?_
    have f_45 := (V29.keep Kq39 (ninS (Ne.symm ne_lc_sa) (ninS ne_sa_jc nin0)))
    refine own_on (B := T43.setTop (mkF m 50 #[rv u0, .val (.long q1), sn, iv j_] [(.int 3)])) (fun tz kz => ?_) ?_
    · show sT p e below T43 (mkF m 48 #[rv u0, .val (.long q1), sn, iv j_] [(.int 4)]) tz
      refine XS.iconst X43.here hx rfl (hb hby own_d15_48) ?_
      show sT p e below T43 (mkF m 49 #[rv u0, .val (.long q1), sn, iv j_] [(.int 1), (.int 4)]) tz
      refine XS.isub X43.here hx rfl (hb hby own_d15_49) rfl ?_
      exact kz
    obtain ⟨fs, hr, hrun, hended, hW, hsame⟩ := X43.leave (v := some (.int (3 : Int32))) (fun h => by rw [Bd.returns] at h; cases h)
    refine own_of ⟨_, _, ?_, hrun, hended, _, _, rfl, ?_, ⟨_, rfl⟩, hW, hsame.mono (by decide) (by decide)⟩
    · show sT p e below T43 (mkF m 50 #[rv u0, .val (.long q1), sn, iv j_] [(.int 3)]) _
      exact own_retI X43 hx Bd.returns (hb hby own_d15_50) hr
    · show Q153 Z u0 q1 sa ks vs S lc ja kj jc kl v0 v1 v2 v3 h0 n0 _ T43.heap _
      rw [e43]
      exact ⟨N43, Or.inr ⟨rfl, K40, Fs39, Fc39, Vl39, ⟨_, _, own_tabS hT (own_lt32 lo_ hi_), f_45⟩⟩⟩
  · obtain ⟨cl46, Ar46, q46, S46, M46, H46, G46⟩ := id Vs
    have hin47 : ¬ (j_ < 0 ∨ cl46.slots.size ≤ (j_).toNatClampNeg) := inb_of S46 ⟨lo_, hi_⟩
    have hat47 : cl46.slots[(j_).toNatClampNeg]? = some (.int i_.toInt32) := Has.at H46 hin47 ivv
    refine own_on (B := T22.setTop (mkF m 17 #[rv u0, .val (.long q1), sn, iv j_] [(.ref u0)])) (fun tz kz => ?_) ?_
    · show sT p e below T22 (mkF m 11 #[rv u0, .val (.long q1), sn, iv j_] [(.int j_), (.ref sa)]) tz
      refine X22.iaload hx (j := j_) (v := (.int i_.toInt32)) (by rw [e22]; exact Ar46.1) (State.isArrayOf_alike hZ.alike Ar46.2.1) Ar46.2.2 hin47 hat47 (g := (mkF m 11 #[rv u0, .val (.long q1), sn, iv j_] [(.int j_), (.ref sa)])) rfl rfl (hb hby own_d15_11) _ ?_
      show sT p e below T22 (mkF m 12 #[rv u0, .val (.long q1), sn, iv j_] [(.int i_.toInt32)]) tz
      refine XS.iconst X22.here hx rfl (hb hby own_d15_12) ?_
      show sT p e below T22 (mkF m 13 #[rv u0, .val (.long q1), sn, iv j_] [(.int (-1 : Int32)), (.int i_.toInt32)]) tz
      refine XS.icmpNo X22.here hx rfl (hb hby own_d15_13) rfl (feq (own_ix im (by decide)).2.2.2.1).1 ?_
      show sT p e below T22 (mkF m 16 #[rv u0, .val (.long q1), sn, iv j_] []) tz
      refine XS.aloadN X22.here hx rfl (hb hby own_d15_16) rfl rfl ?_
      exact kz
    obtain ⟨T48, X48, e48, st48⟩ := getF X22 hx hZ hown (host := "") (Or.inl (own_w hw 50 rfl)) Via.refl e22 Fsl (g := (mkF m 17 #[rv u0, .val (.long q1), sn, iv j_] [(.ref u0)])) rfl rfl (hb hby own_d15_17)
    refine own_on (B := T48.setTop (mkF m 20 #[rv u0, .val (.long q1), sn, iv j_] [(.ref sa)])) (fun tz kz => st48 _ kz) ?_
    refine own_on (B := T48.setTop (mkF m 21 #[rv u0, .val (.long q1), sn, iv j_] [(.int j_), (.ref sa)])) (fun tz kz => ?_) ?_
    · show sT p e below T48 (mkF m 20 #[rv u0, .val (.long q1), sn, iv j_] [(.ref sa)]) tz
      refine XS.iloadN X48.here hx rfl (hb hby own_d15_20) rfl ?_
      exact kz
    obtain ⟨cl49, Ar49, q49, S49, M49, H49, G49⟩ := id Vs
    have hin50 : ¬ (j_ < 0 ∨ cl49.slots.size ≤ (j_).toNatClampNeg) := inb_of S49 ⟨lo_, hi_⟩
    have hat50 : cl49.slots[(j_).toNatClampNeg]? = some (.int i_.toInt32) := Has.at H49 hin50 ivv
    refine own_on (B := T48.setTop (mkF m 22 #[rv u0, .val (.long q1), sn, iv j_] [(.int i_.toInt32)])) (fun tz kz => ?_) ?_
    · show sT p e below T48 (mkF m 21 #[rv u0, .val (.long q1), sn, iv j_] [(.int j_), (.ref sa)]) tz
      refine X48.iaload hx (j := j_) (v := (.int i_.toInt32)) (by rw [e48]; exact Ar49.1) (State.isArrayOf_alike hZ.alike Ar49.2.1) Ar49.2.2 hin50 hat50 (g := (mkF m 21 #[rv u0, .val (.long q1), sn, iv j_] [(.int j_), (.ref sa)])) rfl rfl (hb hby own_d15_21) _ ?_
      exact kz
    obtain ⟨fs, hr, hrun, hended, hW, hsame⟩ := X48.leave (v := some (.int i_.toInt32)) (fun h => by rw [Bd.returns] at h; cases h)
    refine own_of ⟨_, _, ?_, hrun, hended, _, _, rfl, ?_, ⟨_, rfl⟩, hW, hsame.mono (by decide) (by decide)⟩
    · show sT p e below T48 (mkF m 22 #[rv u0, .val (.long q1), sn, iv j_] [(.int i_.toInt32)]) _
      exact own_retI X48 hx Bd.returns (hb hby own_d15_22) hr
    · show Q153 Z u0 q1 sa ks vs S lc ja kj jc kl v0 v1 v2 v3 h0 n0 _ T48.heap _
      rw [e48]
      exact ⟨N21, Or.inl ⟨i_, im, rfl, ik, rfl⟩⟩
theorem own_bits {x y : UInt64} (h : x.toInt64 = y.toInt64) : x = y := by
  have := congrArg Int64.toUInt64 h
  simpa using this
theorem own_ef_120 (m : MethodId) (x0 : Addr) (x1 : UInt64) : entryFrame m #[(.ref x0), (.double x1)] 7 = mkF m 0 #[rv x0, dw x1, .second, .unset, .unset, .unset, .unset] [] := by first | (simp [entryFrame, mkF, argsToLocals, Value.category]; done) | rfl
def Q120 (Z : State) (u0 : Addr) (d1 : UInt64) (ln : Addr) (lc : Addr) (ja : Addr) (sa : Addr) (va : Addr) (kj : ClassId) (ks : ClassId) (kv : ClassId) (vs : List Value) (S : List Nat) (h0 : Heap) (n0 : Nat) (v : Option Value) (h : Heap) (L : List Loc) : Prop := ∃ (jc : Addr) (kl : ClassId) (vs' : List Value) (S' : List Nat), v = some (.int (0 : Int32)) ∧ Fr n0 L ∧ Keep h0 h [lc, ja, sa, va] ∧ h0.size ≤ jc ∧ OwnTab vs' 1 S' ∧ S'.length ≤ 1 ∧ Fld Z h lc "com/example/vows_to_moves/vowstomoves/model/LongColumn" "size" "I" (.int (1 : Int32)) ∧ Fld Z h lc "com/example/vows_to_moves/vowstomoves/model/LongColumn" "chunks" "[[J" (.ref ja) ∧ Arv Z h sa ks .int (32 : Int32) vs' (.int 0) ∧ Arv Z h va kv .double (16 : Int32) [.double d1, .double 0, .double 0, .double 0] (.double 0) ∧ Arv Z h ja kj (.array .long) (4 : Int32) [(.ref jc), .null, .null, .null] .null ∧ Arv Z h jc kl .long (32768 : Int32) [.long d1.toInt64, .long 0, .long 0, .long 0] (.long 0)
theorem own_d12_0 : decode prog_72_method_7_code 0 = .ok (.dload_n 1, 1) := by decide +kernel
theorem own_d12_1 : decode prog_72_method_7_code 1 = .ok (.invokestatic 64, 3) := by decide +kernel
theorem own_d12_4 : decode prog_72_method_7_code 4 = .ok (.lstore_n 3, 1) := by decide +kernel
theorem own_d12_5 : decode prog_72_method_7_code 5 = .ok (.aload_n 0, 1) := by decide +kernel
theorem own_d12_6 : decode prog_72_method_7_code 6 = .ok (.getfield 14, 3) := by decide +kernel
theorem own_d12_9 : decode prog_72_method_7_code 9 = .ok (.invokevirtual 70, 3) := by decide +kernel
theorem own_d12_12 : decode prog_72_method_7_code 12 = .ok (.istore 5, 2) := by decide +kernel
theorem own_d12_14 : decode prog_72_method_7_code 14 = .ok (.aload_n 0, 1) := by decide +kernel
theorem own_d12_15 : decode prog_72_method_7_code 15 = .ok (.getfield 14, 3) := by decide +kernel
theorem own_d12_18 : decode prog_72_method_7_code 18 = .ok (.lload_n 3, 1) := by decide +kernel
theorem own_d12_19 : decode prog_72_method_7_code 19 = .ok (.invokevirtual 74, 3) := by decide +kernel
theorem own_d12_22 : decode prog_72_method_7_code 22 = .ok (.istore 6, 2) := by decide +kernel
theorem own_d12_24 : decode prog_72_method_7_code 24 = .ok (.iload 6, 2) := by decide +kernel
theorem own_d12_26 : decode prog_72_method_7_code 26 = .ok (.iload 5, 2) := by decide +kernel
theorem own_d12_28 : decode prog_72_method_7_code 28 = .ok (.if_icmp .ge 6, 3) := by decide +kernel
theorem own_d12_34 : decode prog_72_method_7_code 34 = .ok (.iload 6, 2) := by decide +kernel
theorem own_d12_36 : decode prog_72_method_7_code 36 = .ok (.ldc 78, 2) := by decide +kernel
theorem own_d12_38 : decode prog_72_method_7_code 38 = .ok (.if_icmp .ne 5, 3) := by decide +kernel
theorem own_d12_43 : decode prog_72_method_7_code 43 = .ok (.iload 6, 2) := by decide +kernel
theorem own_d12_45 : decode prog_72_method_7_code 45 = .ok (.aload_n 0, 1) := by decide +kernel
theorem own_d12_46 : decode prog_72_method_7_code 46 = .ok (.getfield 20, 3) := by decide +kernel
theorem own_d12_49 : decode prog_72_method_7_code 49 = .ok (.arraylength, 1) := by decide +kernel
theorem own_d12_50 : decode prog_72_method_7_code 50 = .ok (.if_icmp .ne 21, 3) := by decide +kernel
theorem own_d12_71 : decode prog_72_method_7_code 71 = .ok (.aload_n 0, 1) := by decide +kernel
theorem own_d12_72 : decode prog_72_method_7_code 72 = .ok (.getfield 20, 3) := by decide +kernel
theorem own_d12_75 : decode prog_72_method_7_code 75 = .ok (.iload 6, 2) := by decide +kernel
theorem own_d12_77 : decode prog_72_method_7_code 77 = .ok (.dload_n 1, 1) := by decide +kernel
theorem own_d12_78 : decode prog_72_method_7_code 78 = .ok (.dastore, 1) := by decide +kernel
theorem own_d12_79 : decode prog_72_method_7_code 79 = .ok (.iload 6, 2) := by decide +kernel
theorem own_d12_81 : decode prog_72_method_7_code 81 = .ok (.ireturn, 1) := by decide +kernel
set_option maxRecDepth 65536 in
set_option maxHeartbeats 40000000 in
theorem rm120 (l : Launch) (Z : State) (a0 : Array Value) (hw : ∀ d ∈ tables_1, d.before a0 Z = true) (ws : List Jvm.Cond) (u0 : Addr) (d1 : UInt64) (ln : Addr) (lc : Addr) (ja : Addr) (sa : Addr) (va : Addr) (kj : ClassId) (ks : ClassId) (kv : ClassId) (vs : List Value) (S : List Nat) (h0 : Heap) (n0 : Nat) (O0 : Old Z n0 h0) (E_u0 : Exa Z h0 u0 "com/example/vows_to_moves/vowstomoves/model/DoubleColumn") (g_u0 : n0 ≤ u0) (Fd : Fld Z h0 u0 "com/example/vows_to_moves/vowstomoves/model/DoubleColumn" "distinct" "Lcom/example/vows_to_moves/vowstomoves/model/LongNumbering;" (.ref ln)) (Fv : Fld Z h0 u0 "com/example/vows_to_moves/vowstomoves/model/DoubleColumn" "values" "[D" (.ref va)) (Eln : Exa Z h0 ln "com/example/vows_to_moves/vowstomoves/model/LongNumbering") (Fk : Fld Z h0 ln "com/example/vows_to_moves/vowstomoves/model/LongNumbering" "keys" "Lcom/example/vows_to_moves/vowstomoves/model/LongColumn;" (.ref lc)) (Fsl : Fld Z h0 ln "com/example/vows_to_moves/vowstomoves/model/LongNumbering" "slots" "[I" (.ref sa)) (El : Exa Z h0 lc "com/example/vows_to_moves/vowstomoves/model/LongColumn") (Fc : Fld Z h0 lc "com/example/vows_to_moves/vowstomoves/model/LongColumn" "chunks" "[[J" (.ref ja)) (Fs : Fld Z h0 lc "com/example/vows_to_moves/vowstomoves/model/LongColumn" "size" "I" (.int (0 : Int32))) (Vj : Arv Z h0 ja kj (.array .long) (4 : Int32) [.null, .null, .null, .null] .null) (Vs : Arv Z h0 sa ks .int (32 : Int32) vs (.int 0)) (Vv : Arv Z h0 va kv .double (16 : Int32) [.double 0, .double 0, .double 0, .double 0] (.double 0)) (hT : OwnTab vs 0 S) (hS : S.length ≤ 0) (Oa : OvrA Z kj .long "[J") (o1 : @LT.lt Nat _ u0 ln ∧ @LT.lt Nat _ ln lc ∧ @LT.lt Nat _ lc ja ∧ @LT.lt Nat _ ja sa ∧ @LT.lt Nat _ sa va) :
    MetFree l (⟨"com/example/vows_to_moves/vowstomoves/model/DoubleColumn", "code", "(D)I"⟩ : MethodName) (head1 (Jvm.Cond.code (⟨"com/example/vows_to_moves/vowstomoves/model/DoubleColumn", "code", "(D)I"⟩ : MethodName) prog_72_method_7_code 7 (some .int) :: ws) ({ frames := 3, cells := 1, slots := 32768, locals := 60 } : Room)) (fun a U => a = #[(.ref u0), (.double d1)] ∧ Z.Warmed39 U.vm ∧ U.heap = h0) (fun _ _ _ _ _ => True) (fun _ U o U' => ∃ v L, o = .returned v ∧ Q120 Z u0 d1 ln lc ja sa va kj ks kv vs S h0 n0 v U'.heap L ∧ FrameEnd U o U' L ({ frames := 3, cells := 1, slots := 32768, locals := 60 } : Room).cells ({ frames := 3, cells := 1, slots := 32768, locals := 60 } : Room).slots) := by
  refine MetFree.of_bodySF (plainFor_of_name own_pn_com_example_vows_to_moves_vowstomoves_model_DoubleColumn) hisR ?_
  intro p e s m args below meth c s₁ Bd hml0 hP hK
  obtain ⟨rfl, hZ, hh⟩ := hP
  have hx := Bd.exec
  have hby := Bd.bytes
  have hml : c.maxLocals = 7 := hml0
  have hown : s.vm.findClass "com/example/vows_to_moves/vowstomoves/model/DoubleColumn" = some m.cls := findClass_of_methodNamed Bd.named
  have hnm := (name_of_methodNamed Bd.named Bd.method).1
  have X0 : Stand p l e ({ frames := 3, cells := 1, slots := 32768, locals := 60 } : Room) s m #[(.ref u0), (.double d1)] below meth c s₁ [] 0 0 := Stand.of_body Bd
  have e0 : s₁.heap = h0 := by rw [← hh, Bd.state]; rfl
  have N0 := Fr.nil n0
  change Go p.tables e below _ _
  refine own_on (B := s₁.setTop (mkF m 0 #[rv u0, dw d1, sn, un, un, un, un] [])) (fun tz kz => castTop (own_ef_120 m u0 d1) kz) ?_
  have ne_u0_ln : u0 ≠ ln := Nat.ne_of_lt (show @LT.lt Nat _ u0 ln by omega)
  have ne_u0_lc : u0 ≠ lc := Nat.ne_of_lt (show @LT.lt Nat _ u0 lc by omega)
  have ne_u0_ja : u0 ≠ ja := Nat.ne_of_lt (show @LT.lt Nat _ u0 ja by omega)
  have ne_u0_sa : u0 ≠ sa := Nat.ne_of_lt (show @LT.lt Nat _ u0 sa by omega)
  have ne_u0_va : u0 ≠ va := Nat.ne_of_lt (show @LT.lt Nat _ u0 va by omega)
  have ne_ln_lc : ln ≠ lc := Nat.ne_of_lt (show @LT.lt Nat _ ln lc by omega)
  have ne_ln_ja : ln ≠ ja := Nat.ne_of_lt (show @LT.lt Nat _ ln ja by omega)
  have ne_ln_sa : ln ≠ sa := Nat.ne_of_lt (show @LT.lt Nat _ ln sa by omega)
  have ne_ln_va : ln ≠ va := Nat.ne_of_lt (show @LT.lt Nat _ ln va by omega)
  have ne_lc_ja : lc ≠ ja := Nat.ne_of_lt (show @LT.lt Nat _ lc ja by omega)
  have ne_lc_sa : lc ≠ sa := Nat.ne_of_lt (show @LT.lt Nat _ lc sa by omega)
  have ne_lc_va : lc ≠ va := Nat.ne_of_lt (show @LT.lt Nat _ lc va by omega)
  have ne_ja_sa : ja ≠ sa := Nat.ne_of_lt (show @LT.lt Nat _ ja sa by omega)
  have ne_ja_va : ja ≠ va := Nat.ne_of_lt (show @LT.lt Nat _ ja va by omega)
  have ne_sa_va : sa ≠ va := Nat.ne_of_lt (show @LT.lt Nat _ sa va by omega)
  have g_ln : n0 ≤ ln := (show @LE.le Nat _ n0 ln by omega)
  have g_lc : n0 ≤ lc := (show @LE.le Nat _ n0 lc by omega)
  have g_ja : n0 ≤ ja := (show @LE.le Nat _ n0 ja by omega)
  have g_sa : n0 ≤ sa := (show @LE.le Nat _ n0 sa by omega)
  have g_va : n0 ≤ va := (show @LE.le Nat _ n0 va by omega)
  refine own_on (B := s₁.setTop (mkF m 1 #[rv u0, dw d1, sn, un, un, un, un] [(.double d1)])) (fun tz kz => ?_) ?_
  · show sT p e below s₁ (mkF m 0 #[rv u0, dw d1, sn, un, un, un, un] []) tz
    refine XS.dloadN X0.here hx rfl (hb hby own_d12_0) rfl ?_
    exact kz
  obtain ⟨vq21, X21, st21⟩ := X0.doubleToRawLongBits hx hown (mvT hZ (own_w hw 82 rfl)) (mvT hZ (own_w hw 85 rfl)) (mvT hZ (own_w hw 83 rfl)) (mvT hZ (own_w hw 84 rfl)) (g := (mkF m 1 #[rv u0, dw d1, sn, un, un, un, un] [(.double d1)])) rfl (by rw [hml]; rfl) rfl (hb hby own_d12_1) (by decide) (by show 2 * 0 + 0 + (nativeFrameWords "java/lang/Double" "doubleToRawLongBits" 2 + 11) ≤ _; decide)
  obtain ⟨T21, eT21⟩ : ∃ t, t = s₁.setVm vq21 := ⟨_, rfl⟩
  rw [← eT21] at X21 st21
  have e21 : T21.heap = h0 := by rw [eT21]; exact e0
  refine own_on (B := T21.setTop (mkF m 4 #[rv u0, dw d1, sn, un, un, un, un] [(.long d1.toInt64)])) (fun tz kz => st21 _ kz) ?_
  refine own_on (B := T21.setTop (mkF m 6 #[rv u0, dw d1, sn, .val (.long d1.toInt64), sn, un, un] [(.ref u0)])) (fun tz kz => ?_) ?_
  · show sT p e below T21 (mkF m 4 #[rv u0, dw d1, sn, un, un, un, un] [(.long d1.toInt64)]) tz
    refine XS.lstoreN X21.here hx rfl (hb hby own_d12_4) rfl (l' := #[rv u0, dw d1, sn, .val (.long d1.toInt64), sn, un, un]) rfl ?_
    show sT p e below T21 (mkF m 5 #[rv u0, dw d1, sn, .val (.long d1.toInt64), sn, un, un] []) tz
    refine XS.aloadN X21.here hx rfl (hb hby own_d12_5) rfl rfl ?_
    exact kz
  obtain ⟨T22, X22, e22, st22⟩ := getF X21 hx hZ hown (host := "") (Or.inl (own_w hw 52 rfl)) Via.refl e21 Fd (g := (mkF m 6 #[rv u0, dw d1, sn, .val (.long d1.toInt64), sn, un, un] [(.ref u0)])) rfl rfl (hb hby own_d12_6)
  refine own_on (B := T22.setTop (mkF m 9 #[rv u0, dw d1, sn, .val (.long d1.toInt64), sn, un, un] [(.ref ln)])) (fun tz kz => st22 _ kz) ?_
  obtain ⟨cq23, kq23, q23a, q23b, q23c⟩ := isOf hZ e22 Eln
  obtain ⟨_, _, ⟨T23, L23, k23, n23⟩, -, X23, ⟨Lc23, hQ23, l23, y23, z23⟩, st23⟩ := X22.virtualBack hx (y := (⟨"com/example/vows_to_moves/vowstomoves/model/LongNumbering", "count", "()I"⟩ : MethodName)) (z := (⟨"com/example/vows_to_moves/vowstomoves/model/LongNumbering", "count", "()I"⟩ : MethodName)) hown (mvT hZ (own_w hw 86 rfl)) (mvT hZ (own_w hw 87 rfl)) (notFace_of_selects (args := #[]) (mvT hZ (own_w hw 89 rfl))) (mvT hZ (own_w hw 89 rfl)) (mvT hZ (own_w hw 88 rfl)) (by decide) (backOf (W := 0) (rm13 l Z a0 hw [] ln lc (0 : Int32) h0 n0 O0 Fk El Fs) hZ (own_w hw 90 rfl) (own_w hw 11 rfl) (by decide) (by decide)) q23a q23c (g := (mkF m 9 #[rv u0, dw d1, sn, .val (.long d1.toInt64), sn, un, un] [(.ref ln)])) rfl (by rw [hml]; rfl) (Steps.refl _) (argsL := []) (rest := []) (lenOf own_pd6 rfl) rfl (by show 2 * 0 + _ ≤ _; exact Nat.le_of_eq rfl) (hb hby own_d12_9) (fun _ _ => ⟨rfl, e22, (by decide : 0 + 0 ≤ _), (by decide : 0 + 0 ≤ _)⟩)
  dsimp only [Pt.U, Pt.locs, Pt.cells, Pt.slots] at X23 l23 y23 z23 st23 hQ23
  subst l23 y23 z23
  obtain ⟨rfl, Nq23, e23⟩ := hQ23
  have N23 := Fr.app N0 Nq23
  refine own_on (B := T23.setTop (mkF m 12 #[rv u0, dw d1, sn, .val (.long d1.toInt64), sn, un, un] [(.int 0)])) (fun tz kz => st23.trans kz) ?_
  refine own_on (B := T23.setTop (mkF m 15 #[rv u0, dw d1, sn, .val (.long d1.toInt64), sn, iv 0, un] [(.ref u0)])) (fun tz kz => ?_) ?_
  · show sT p e below T23 (mkF m 12 #[rv u0, dw d1, sn, .val (.long d1.toInt64), sn, un, un] [(.int 0)]) tz
    refine XS.istore X23.here hx rfl (hb hby own_d12_12) rfl (l' := #[rv u0, dw d1, sn, .val (.long d1.toInt64), sn, iv 0, un]) rfl ?_
    show sT p e below T23 (mkF m 14 #[rv u0, dw d1, sn, .val (.long d1.toInt64), sn, iv 0, un] []) tz
    refine XS.aloadN X23.here hx rfl (hb hby own_d12_14) rfl rfl ?_
    exact kz
  obtain ⟨T24, X24, e24, st24⟩ := getF X23 hx hZ hown (host := "") (Or.inl (own_w hw 52 rfl)) Via.refl e23 Fd (g := (mkF m 15 #[rv u0, dw d1, sn, .val (.long d1.toInt64), sn, iv 0, un] [(.ref u0)])) rfl rfl (hb hby own_d12_15)
  refine own_on (B := T24.setTop (mkF m 18 #[rv u0, dw d1, sn, .val (.long d1.toInt64), sn, iv 0, un] [(.ref ln)])) (fun tz kz => st24 _ kz) ?_
  refine own_on (B := T24.setTop (mkF m 19 #[rv u0, dw d1, sn, .val (.long d1.toInt64), sn, iv 0, un] [(.long d1.toInt64), (.ref ln)])) (fun tz kz => ?_) ?_
  · show sT p e below T24 (mkF m 18 #[rv u0, dw d1, sn, .val (.long d1.toInt64), sn, iv 0, un] [(.ref ln)]) tz
    refine XS.lloadN X24.here hx rfl (hb hby own_d12_18) rfl ?_
    exact kz
  obtain ⟨cq25, kq25, q25a, q25b, q25c⟩ := isOf hZ e24 Eln
  obtain ⟨_, _, ⟨T25, L25, k25, n25⟩, -, X25, ⟨Lc25, hQ25, l25, y25, z25⟩, st25⟩ := X24.virtualBack hx (y := (⟨"com/example/vows_to_moves/vowstomoves/model/LongNumbering", "number", "(J)I"⟩ : MethodName)) (z := (⟨"com/example/vows_to_moves/vowstomoves/model/LongNumbering", "number", "(J)I"⟩ : MethodName)) hown (mvT hZ (own_w hw 98 rfl)) (mvT hZ (own_w hw 99 rfl)) (notFace_of_selects (args := #[]) (mvT hZ (own_w hw 101 rfl))) (mvT hZ (own_w hw 101 rfl)) (mvT hZ (own_w hw 100 rfl)) (by decide) (backOf (W := 0) (rm150 l Z a0 hw [] ln d1.toInt64 sa ks vs S lc ja kj h0 n0 O0 Eln g_ln Fk Fsl El Fc Fs Vj Vs hT Oa (by omega)) hZ (own_w hw 102 rfl) (own_w hw 11 rfl) (by decide) (by decide)) q25a q25c (g := (mkF m 19 #[rv u0, dw d1, sn, .val (.long d1.toInt64), sn, iv 0, un] [(.long d1.toInt64), (.ref ln)])) rfl (by rw [hml]; rfl) (Steps.refl _) (argsL := [(.long d1.toInt64)]) (rest := []) (lenOf own_pd10 rfl) rfl (by show 2 * 0 + _ ≤ _; exact Nat.le_of_eq rfl) (hb hby own_d12_19) (fun _ _ => ⟨rfl, e24, (by decide : 0 + 1 ≤ _), (by decide : 0 + 32768 ≤ _)⟩)
  dsimp only [Pt.U, Pt.locs, Pt.cells, Pt.slots] at X25 l25 y25 z25 st25 hQ25
  subst l25 y25 z25
  obtain ⟨jc25, kl25, rfl, Nq25, Kq25, zq25, Fs25, Fc25, Vj25, Vl25, vs25, j25, hT25, Va25⟩ := hQ25
  have N25 := Fr.app N23 Nq25
  have ne_u0_jc25 : u0 ≠ jc25 := Nat.ne_of_lt (Nat.lt_of_lt_of_le (E_u0).lt zq25)
  have lne_u0_jc25 : @LT.lt Nat _ u0 jc25 := Nat.lt_of_lt_of_le (E_u0).lt zq25
  have ne_ln_jc25 : ln ≠ jc25 := Nat.ne_of_lt (Nat.lt_of_lt_of_le (Eln).lt zq25)
  have lne_ln_jc25 : @LT.lt Nat _ ln jc25 := Nat.lt_of_lt_of_le (Eln).lt zq25
  have ne_lc_jc25 : lc ≠ jc25 := Nat.ne_of_lt (Nat.lt_of_lt_of_le (El).lt zq25)
  have lne_lc_jc25 : @LT.lt Nat _ lc jc25 := Nat.lt_of_lt_of_le (El).lt zq25
  have ne_ja_jc25 : ja ≠ jc25 := Nat.ne_of_lt (Nat.lt_of_lt_of_le (Vj).lt zq25)
  have lne_ja_jc25 : @LT.lt Nat _ ja jc25 := Nat.lt_of_lt_of_le (Vj).lt zq25
  have ne_sa_jc25 : sa ≠ jc25 := Nat.ne_of_lt (Nat.lt_of_lt_of_le (Vs).lt zq25)
  have lne_sa_jc25 : @LT.lt Nat _ sa jc25 := Nat.lt_of_lt_of_le (Vs).lt zq25
  have ne_va_jc25 : va ≠ jc25 := Nat.ne_of_lt (Nat.lt_of_lt_of_le (Vv).lt zq25)
  have lne_va_jc25 : @LT.lt Nat _ va jc25 := Nat.lt_of_lt_of_le (Vv).lt zq25
  have g_jc25 : n0 ≤ jc25 := Nat.le_trans (own_old O0) zq25
  have sz_jc25 : h0.size ≤ jc25 := Nat.le_trans (Keep.refl h0 [lc, ja, sa, va]).1 zq25
  have O26 := O0.keep Kq25 (allS g_lc (allS g_ja (allS g_sa all0)))
  have K26 : Keep h0 T25.heap [lc, ja, sa, va] := (Keep.refl h0 [lc, ja, sa, va]).trans Kq25 (allS (Or.inl (List.mem_of_getElem? (i := 0) rfl)) (allS (Or.inl (List.mem_of_getElem? (i := 1) rfl)) (allS (Or.inl (List.mem_of_getElem? (i := 2) rfl)) all0)))
  refine own_on (B := T25.setTop (mkF m 22 #[rv u0, dw d1, sn, .val (.long d1.toInt64), sn, iv 0, un] [(.int 0)])) (fun tz kz => st25.trans kz) ?_
  refine own_on (B := T25.setTop (mkF m 46 #[rv u0, dw d1, sn, .val (.long d1.toInt64), sn, iv 0, iv 0] [(.ref u0), (.int 0)])) (fun tz kz => ?_) ?_
  · show sT p e below T25 (mkF m 22 #[rv u0, dw d1, sn, .val (.long d1.toInt64), sn, iv 0, un] [(.int 0)]) tz
    refine XS.istore X25.here hx rfl (hb hby own_d12_22) rfl (l' := #[rv u0, dw d1, sn, .val (.long d1.toInt64), sn, iv 0, iv 0]) rfl ?_
    show sT p e below T25 (mkF m 24 #[rv u0, dw d1, sn, .val (.long d1.toInt64), sn, iv 0, iv 0] []) tz
    refine XS.iload X25.here hx rfl (hb hby own_d12_24) rfl ?_
    show sT p e below T25 (mkF m 26 #[rv u0, dw d1, sn, .val (.long d1.toInt64), sn, iv 0, iv 0] [(.int 0)]) tz
    refine XS.iload X25.here hx rfl (hb hby own_d12_26) rfl ?_
    show sT p e below T25 (mkF m 28 #[rv u0, dw d1, sn, .val (.long d1.toInt64), sn, iv 0, iv 0] [(.int 0), (.int 0)]) tz
    refine XS.icmpYes X25.here hx rfl (pc0 := 28) (pc' := 34) rfl (hb hby own_d12_28) rfl (flt Int32.lt_irrefl).2.1 (by decide) (by decide) ?_
    show sT p e below T25 (mkF m 34 #[rv u0, dw d1, sn, .val (.long d1.toInt64), sn, iv 0, iv 0] []) tz
    refine XS.iload X25.here hx rfl (hb hby own_d12_34) rfl ?_
    show sT p e below T25 (mkF m 36 #[rv u0, dw d1, sn, .val (.long d1.toInt64), sn, iv 0, iv 0] [(.int 0)]) tz
    refine X25.ldcInt hx hown (mvT hZ (own_w hw 125 rfl)) (g := (mkF m 36 #[rv u0, dw d1, sn, .val (.long d1.toInt64), sn, iv 0, iv 0] [(.int 0)])) rfl (hb hby own_d12_36) _ ?_
    show sT p e below T25 (mkF m 38 #[rv u0, dw d1, sn, .val (.long d1.toInt64), sn, iv 0, iv 0] [(.int 65536), (.int 0)]) tz
    refine XS.icmpYes X25.here hx rfl (pc0 := 38) (pc' := 43) rfl (hb hby own_d12_38) rfl (feq (by decide : ¬ ((0 : Int32) = (65536 : Int32)))).2 (by decide) (by decide) ?_
    show sT p e below T25 (mkF m 43 #[rv u0, dw d1, sn, .val (.long d1.toInt64), sn, iv 0, iv 0] []) tz
    refine XS.iload X25.here hx rfl (hb hby own_d12_43) rfl ?_
    show sT p e below T25 (mkF m 45 #[rv u0, dw d1, sn, .val (.long d1.toInt64), sn, iv 0, iv 0] [(.int 0)]) tz
    refine XS.aloadN X25.here hx rfl (hb hby own_d12_45) rfl rfl ?_
    exact kz
  have f_27 := (Fv.keep Kq25 (ninS ne_u0_lc (ninS ne_u0_ja (ninS ne_u0_sa nin0))))
  obtain ⟨T28, X28, e28, st28⟩ := getF X25 hx hZ hown (host := "") (Or.inl (own_w hw 55 rfl)) Via.refl rfl f_27 (g := (mkF m 46 #[rv u0, dw d1, sn, .val (.long d1.toInt64), sn, iv 0, iv 0] [(.ref u0), (.int 0)])) rfl rfl (hb hby own_d12_46)
  refine own_on (B := T28.setTop (mkF m 49 #[rv u0, dw d1, sn, .val (.long d1.toInt64), sn, iv 0, iv 0] [(.ref va), (.int 0)])) (fun tz kz => st28 _ kz) ?_
  have f_29 := (Vv.keep Kq25 (ninS (Ne.symm ne_lc_va) (ninS (Ne.symm ne_ja_va) (ninS (Ne.symm ne_sa_va) nin0))))
  obtain ⟨cl30, Ar30, q30, S30, M30, H30, G30⟩ := id f_29
  refine own_on (B := T28.setTop (mkF m 72 #[rv u0, dw d1, sn, .val (.long d1.toInt64), sn, iv 0, iv 0] [(.ref u0)])) (fun tz kz => ?_) ?_
  · show sT p e below T28 (mkF m 49 #[rv u0, dw d1, sn, .val (.long d1.toInt64), sn, iv 0, iv 0] [(.ref va), (.int 0)]) tz
    refine X28.arraylength hx (by rw [e28]; exact Ar30.1) (State.isArrayOf_alike hZ.alike Ar30.2.1) (g := (mkF m 49 #[rv u0, dw d1, sn, .val (.long d1.toInt64), sn, iv 0, iv 0] [(.ref va), (.int 0)])) rfl rfl (hb hby own_d12_49) _ ?_
    rw [len_of S30 M30]
    show sT p e below T28 (mkF m 50 #[rv u0, dw d1, sn, .val (.long d1.toInt64), sn, iv 0, iv 0] [(.int 16), (.int 0)]) tz
    refine XS.icmpYes X28.here hx rfl (pc0 := 50) (pc' := 71) rfl (hb hby own_d12_50) rfl (feq (by decide : ¬ ((0 : Int32) = (16 : Int32)))).2 (by decide) (by decide) ?_
    show sT p e below T28 (mkF m 71 #[rv u0, dw d1, sn, .val (.long d1.toInt64), sn, iv 0, iv 0] []) tz
    refine XS.aloadN X28.here hx rfl (hb hby own_d12_71) rfl rfl ?_
    exact kz
  obtain ⟨T31, X31, e31, st31⟩ := getF X28 hx hZ hown (host := "") (Or.inl (own_w hw 55 rfl)) Via.refl e28 f_27 (g := (mkF m 72 #[rv u0, dw d1, sn, .val (.long d1.toInt64), sn, iv 0, iv 0] [(.ref u0)])) rfl rfl (hb hby own_d12_72)
  refine own_on (B := T31.setTop (mkF m 75 #[rv u0, dw d1, sn, .val (.long d1.toInt64), sn, iv 0, iv 0] [(.ref va)])) (fun tz kz => st31 _ kz) ?_
  refine own_on (B := T31.setTop (mkF m 78 #[rv u0, dw d1, sn, .val (.long d1.toInt64), sn, iv 0, iv 0] [(.double d1), (.int 0), (.ref va)])) (fun tz kz => ?_) ?_
  · show sT p e below T31 (mkF m 75 #[rv u0, dw d1, sn, .val (.long d1.toInt64), sn, iv 0, iv 0] [(.ref va)]) tz
    refine XS.iload X31.here hx rfl (hb hby own_d12_75) rfl ?_
    show sT p e below T31 (mkF m 77 #[rv u0, dw d1, sn, .val (.long d1.toInt64), sn, iv 0, iv 0] [(.int 0), (.ref va)]) tz
    refine XS.dloadN X31.here hx rfl (hb hby own_d12_77) rfl ?_
    exact kz
  obtain ⟨cl32, Ar32, q32, S32, M32, H32, G32⟩ := id f_29
  have hin33 : ¬ ((0 : Int32) < 0 ∨ cl32.slots.size ≤ ((0 : Int32)).toNatClampNeg) := inb_of S32 ⟨by decide, by decide⟩
  obtain ⟨T33, h33, X33, e33, W33, st33⟩ := stD X31 hx hZ e31 Ar32 (j := (0 : Int32)) hin33 (g := (mkF m 78 #[rv u0, dw d1, sn, .val (.long d1.toInt64), sn, iv 0, iv 0] [(.double d1), (.int 0), (.ref va)])) rfl rfl (hb hby own_d12_78)
  have V33 : Arv Z h33 va kv .double (16 : Int32) [(.double d1), (.double 0), (.double 0), (.double 0)] (.double 0) := Arv.set Ar32 q32 S32 M32 H32 G32 rfl W33 0 rfl (Nat.le_of_ble_eq_true rfl)
  have N33 := Fr.snoc X33 N25 g_va
  have O34 := O26.wr W33 g_va
  have K34 : Keep h0 h33 [lc, ja, sa, va] := K26.wr W33 (Or.inl (List.mem_of_getElem? (i := 3) rfl))
  refine own_on (B := T33.setTop (mkF m 79 #[rv u0, dw d1, sn, .val (.long d1.toInt64), sn, iv 0, iv 0] [])) (fun tz kz => st33 _ kz) ?_
  have f_35 := (Fs25.other W33 (Or.inl ne_lc_va))
  have f_36 := (Fc25.other W33 (Or.inl ne_lc_va))
  have f_37 := (Va25.other W33 ne_sa_va)
  have f_38 := (Vj25.other W33 ne_ja_va)
  have f_39 := (Vl25.other W33 (Ne.symm ne_va_jc25))
  refine own_on (B := T33.setTop (mkF m 81 #[rv u0, dw d1, sn, .val (.long d1.toInt64), sn, iv 0, iv 0] [(.int 0)])) (fun tz kz => ?_) ?_
  · show sT p e below T33 (mkF m 79 #[rv u0, dw d1, sn, .val (.long d1.toInt64), sn, iv 0, iv 0] []) tz
    refine XS.iload X33.here hx rfl (hb hby own_d12_79) rfl ?_
    exact kz
  obtain ⟨fs, hr, hrun, hended, hW, hsame⟩ := X33.leave (v := some (.int (0 : Int32))) (fun h => by rw [Bd.returns] at h; cases h)
  refine own_of ⟨_, _, ?_, hrun, hended, _, _, rfl, ?_, ⟨_, rfl⟩, hW, hsame.mono (by decide) (by decide)⟩
  · show sT p e below T33 (mkF m 81 #[rv u0, dw d1, sn, .val (.long d1.toInt64), sn, iv 0, iv 0] [(.int 0)]) _
    exact own_retI X33 hx Bd.returns (hb hby own_d12_81) hr
  · show Q120 Z u0 d1 ln lc ja sa va kj ks kv vs S h0 n0 _ T33.heap _
    rw [e33]
    exact ⟨jc25, kl25, vs25, _, rfl, N33, K34, sz_jc25, hT25, Nat.succ_le_succ hS, f_35, f_36, f_37, V33, f_38, f_39⟩
theorem own_ef_121 (m : MethodId) (x0 : Addr) (x1 : UInt64) : entryFrame m #[(.ref x0), (.double x1)] 7 = mkF m 0 #[rv x0, dw x1, .second, .unset, .unset, .unset, .unset] [] := by first | (simp [entryFrame, mkF, argsToLocals, Value.category]; done) | rfl
def Q121 (Z : State) (u0 : Addr) (d1 : UInt64) (ln : Addr) (lc : Addr) (ja : Addr) (sa : Addr) (va : Addr) (kj : ClassId) (ks : ClassId) (kv : ClassId) (vs : List Value) (S : List Nat) (jc : Addr) (kl : ClassId) (v0 : UInt64) (v1 : UInt64) (v2 : UInt64) (v3 : UInt64) (h0 : Heap) (n0 : Nat) (v : Option Value) (h : Heap) (L : List Loc) : Prop := ∃ (m' i : Nat) (w0 w1 w2 w3 : UInt64) (vs' : List Value) (S' : List Nat), v = some (.int i.toInt32) ∧ Fr n0 L ∧ Keep h0 h [lc, jc, sa, va] ∧ i < m' ∧ 1 ≤ m' ∧ m' ≤ 1 + 1 ∧ [w0, w1, w2, w3].getD i 0 = d1 ∧ (∀ k, k < 1 → [w0, w1, w2, w3].getD k 0 = [v0, v1, v2, v3].getD k 0) ∧ OwnTab vs' m' S' ∧ S'.length ≤ m' ∧ Fld Z h lc "com/example/vows_to_moves/vowstomoves/model/LongColumn" "size" "I" (.int m'.toInt32) ∧ Fld Z h lc "com/example/vows_to_moves/vowstomoves/model/LongColumn" "chunks" "[[J" (.ref ja) ∧ Arv Z h sa ks .int (32 : Int32) vs' (.int 0) ∧ Arv Z h va kv .double (16 : Int32) [(.double w0), (.double w1), (.double w2), (.double w3)] (.double 0) ∧ Arv Z h jc kl .long (32768 : Int32) [(.long w0.toInt64), (.long w1.toInt64), (.long w2.toInt64), (.long w3.toInt64)] (.long 0)
theorem own_d12_31 : decode prog_72_method_7_code 31 = .ok (.iload 6, 2) := by decide +kernel
theorem own_d12_33 : decode prog_72_method_7_code 33 = .ok (.ireturn, 1) := by decide +kernel
set_option maxRecDepth 65536 in
set_option maxHeartbeats 40000000 in
theorem rm121 (l : Launch) (Z : State) (a0 : Array Value) (hw : ∀ d ∈ tables_1, d.before a0 Z = true) (ws : List Jvm.Cond) (u0 : Addr) (d1 : UInt64) (ln : Addr) (lc : Addr) (ja : Addr) (sa : Addr) (va : Addr) (kj : ClassId) (ks : ClassId) (kv : ClassId) (vs : List Value) (S : List Nat) (jc : Addr) (kl : ClassId) (v0 : UInt64) (v1 : UInt64) (v2 : UInt64) (v3 : UInt64) (h0 : Heap) (n0 : Nat) (O0 : Old Z n0 h0) (E_u0 : Exa Z h0 u0 "com/example/vows_to_moves/vowstomoves/model/DoubleColumn") (g_u0 : n0 ≤ u0) (Fd : Fld Z h0 u0 "com/example/vows_to_moves/vowstomoves/model/DoubleColumn" "distinct" "Lcom/example/vows_to_moves/vowstomoves/model/LongNumbering;" (.ref ln)) (Fv : Fld Z h0 u0 "com/example/vows_to_moves/vowstomoves/model/DoubleColumn" "values" "[D" (.ref va)) (Eln : Exa Z h0 ln "com/example/vows_to_moves/vowstomoves/model/LongNumbering") (Fk : Fld Z h0 ln "com/example/vows_to_moves/vowstomoves/model/LongNumbering" "keys" "Lcom/example/vows_to_moves/vowstomoves/model/LongColumn;" (.ref lc)) (Fsl : Fld Z h0 ln "com/example/vows_to_moves/vowstomoves/model/LongNumbering" "slots" "[I" (.ref sa)) (El : Exa Z h0 lc "com/example/vows_to_moves/vowstomoves/model/LongColumn") (Fc : Fld Z h0 lc "com/example/vows_to_moves/vowstomoves/model/LongColumn" "chunks" "[[J" (.ref ja)) (Fs : Fld Z h0 lc "com/example/vows_to_moves/vowstomoves/model/LongColumn" "size" "I" (.int (1 : Int32))) (Vj : Arv Z h0 ja kj (.array .long) (4 : Int32) [(.ref jc), .null, .null, .null] .null) (Vs : Arv Z h0 sa ks .int (32 : Int32) vs (.int 0)) (Vv : Arv Z h0 va kv .double (16 : Int32) [(.double v0), (.double v1), (.double v2), (.double v3)] (.double 0)) (Vl : Arv Z h0 jc kl .long (32768 : Int32) [(.long v0.toInt64), (.long v1.toInt64), (.long v2.toInt64), (.long v3.toInt64)] (.long 0)) (hT : OwnTab vs 1 S) (hS : S.length ≤ 1) (o1 : @LT.lt Nat _ u0 ln ∧ @LT.lt Nat _ ln lc ∧ @LT.lt Nat _ lc ja ∧ @LT.lt Nat _ ja sa ∧ @LT.lt Nat _ sa va ∧ @LT.lt Nat _ va jc) :
    MetFree l (⟨"com/example/vows_to_moves/vowstomoves/model/DoubleColumn", "code", "(D)I"⟩ : MethodName) (head1 (Jvm.Cond.code (⟨"com/example/vows_to_moves/vowstomoves/model/DoubleColumn", "code", "(D)I"⟩ : MethodName) prog_72_method_7_code 7 (some .int) :: ws) ({ frames := 3, cells := 0, slots := 0, locals := 60 } : Room)) (fun a U => a = #[(.ref u0), (.double d1)] ∧ Z.Warmed39 U.vm ∧ U.heap = h0) (fun _ _ _ _ _ => True) (fun _ U o U' => ∃ v L, o = .returned v ∧ Q121 Z u0 d1 ln lc ja sa va kj ks kv vs S jc kl v0 v1 v2 v3 h0 n0 v U'.heap L ∧ FrameEnd U o U' L ({ frames := 3, cells := 0, slots := 0, locals := 60 } : Room).cells ({ frames := 3, cells := 0, slots := 0, locals := 60 } : Room).slots) := by
  refine MetFree.of_bodySF (plainFor_of_name own_pn_com_example_vows_to_moves_vowstomoves_model_DoubleColumn) hisR ?_
  intro p e s m args below meth c s₁ Bd hml0 hP hK
  obtain ⟨rfl, hZ, hh⟩ := hP
  have hx := Bd.exec
  have hby := Bd.bytes
  have hml : c.maxLocals = 7 := hml0
  have hown : s.vm.findClass "com/example/vows_to_moves/vowstomoves/model/DoubleColumn" = some m.cls := findClass_of_methodNamed Bd.named
  have hnm := (name_of_methodNamed Bd.named Bd.method).1
  have X0 : Stand p l e ({ frames := 3, cells := 0, slots := 0, locals := 60 } : Room) s m #[(.ref u0), (.double d1)] below meth c s₁ [] 0 0 := Stand.of_body Bd
  have e0 : s₁.heap = h0 := by rw [← hh, Bd.state]; rfl
  have N0 := Fr.nil n0
  change Go p.tables e below _ _
  refine own_on (B := s₁.setTop (mkF m 0 #[rv u0, dw d1, sn, un, un, un, un] [])) (fun tz kz => castTop (own_ef_121 m u0 d1) kz) ?_
  have ne_u0_ln : u0 ≠ ln := Nat.ne_of_lt (show @LT.lt Nat _ u0 ln by omega)
  have ne_u0_lc : u0 ≠ lc := Nat.ne_of_lt (show @LT.lt Nat _ u0 lc by omega)
  have ne_u0_ja : u0 ≠ ja := Nat.ne_of_lt (show @LT.lt Nat _ u0 ja by omega)
  have ne_u0_sa : u0 ≠ sa := Nat.ne_of_lt (show @LT.lt Nat _ u0 sa by omega)
  have ne_u0_va : u0 ≠ va := Nat.ne_of_lt (show @LT.lt Nat _ u0 va by omega)
  have ne_u0_jc : u0 ≠ jc := Nat.ne_of_lt (show @LT.lt Nat _ u0 jc by omega)
  have ne_ln_lc : ln ≠ lc := Nat.ne_of_lt (show @LT.lt Nat _ ln lc by omega)
  have ne_ln_ja : ln ≠ ja := Nat.ne_of_lt (show @LT.lt Nat _ ln ja by omega)
  have ne_ln_sa : ln ≠ sa := Nat.ne_of_lt (show @LT.lt Nat _ ln sa by omega)
  have ne_ln_va : ln ≠ va := Nat.ne_of_lt (show @LT.lt Nat _ ln va by omega)
  have ne_ln_jc : ln ≠ jc := Nat.ne_of_lt (show @LT.lt Nat _ ln jc by omega)
  have ne_lc_ja : lc ≠ ja := Nat.ne_of_lt (show @LT.lt Nat _ lc ja by omega)
  have ne_lc_sa : lc ≠ sa := Nat.ne_of_lt (show @LT.lt Nat _ lc sa by omega)
  have ne_lc_va : lc ≠ va := Nat.ne_of_lt (show @LT.lt Nat _ lc va by omega)
  have ne_lc_jc : lc ≠ jc := Nat.ne_of_lt (show @LT.lt Nat _ lc jc by omega)
  have ne_ja_sa : ja ≠ sa := Nat.ne_of_lt (show @LT.lt Nat _ ja sa by omega)
  have ne_ja_va : ja ≠ va := Nat.ne_of_lt (show @LT.lt Nat _ ja va by omega)
  have ne_ja_jc : ja ≠ jc := Nat.ne_of_lt (show @LT.lt Nat _ ja jc by omega)
  have ne_sa_va : sa ≠ va := Nat.ne_of_lt (show @LT.lt Nat _ sa va by omega)
  have ne_sa_jc : sa ≠ jc := Nat.ne_of_lt (show @LT.lt Nat _ sa jc by omega)
  have ne_va_jc : va ≠ jc := Nat.ne_of_lt (show @LT.lt Nat _ va jc by omega)
  have g_ln : n0 ≤ ln := (show @LE.le Nat _ n0 ln by omega)
  have g_lc : n0 ≤ lc := (show @LE.le Nat _ n0 lc by omega)
  have g_ja : n0 ≤ ja := (show @LE.le Nat _ n0 ja by omega)
  have g_sa : n0 ≤ sa := (show @LE.le Nat _ n0 sa by omega)
  have g_va : n0 ≤ va := (show @LE.le Nat _ n0 va by omega)
  have g_jc : n0 ≤ jc := (show @LE.le Nat _ n0 jc by omega)
  refine own_on (B := s₁.setTop (mkF m 1 #[rv u0, dw d1, sn, un, un, un, un] [(.double d1)])) (fun tz kz => ?_) ?_
  · show sT p e below s₁ (mkF m 0 #[rv u0, dw d1, sn, un, un, un, un] []) tz
    refine XS.dloadN X0.here hx rfl (hb hby own_d12_0) rfl ?_
    exact kz
  obtain ⟨vq21, X21, st21⟩ := X0.doubleToRawLongBits hx hown (mvT hZ (own_w hw 82 rfl)) (mvT hZ (own_w hw 85 rfl)) (mvT hZ (own_w hw 83 rfl)) (mvT hZ (own_w hw 84 rfl)) (g := (mkF m 1 #[rv u0, dw d1, sn, un, un, un, un] [(.double d1)])) rfl (by rw [hml]; rfl) rfl (hb hby own_d12_1) (by decide) (by show 2 * 0 + 0 + (nativeFrameWords "java/lang/Double" "doubleToRawLongBits" 2 + 11) ≤ _; decide)
  obtain ⟨T21, eT21⟩ : ∃ t, t = s₁.setVm vq21 := ⟨_, rfl⟩
  rw [← eT21] at X21 st21
  have e21 : T21.heap = h0 := by rw [eT21]; exact e0
  refine own_on (B := T21.setTop (mkF m 4 #[rv u0, dw d1, sn, un, un, un, un] [(.long d1.toInt64)])) (fun tz kz => st21 _ kz) ?_
  refine own_on (B := T21.setTop (mkF m 6 #[rv u0, dw d1, sn, .val (.long d1.toInt64), sn, un, un] [(.ref u0)])) (fun tz kz => ?_) ?_
  · show sT p e below T21 (mkF m 4 #[rv u0, dw d1, sn, un, un, un, un] [(.long d1.toInt64)]) tz
    refine XS.lstoreN X21.here hx rfl (hb hby own_d12_4) rfl (l' := #[rv u0, dw d1, sn, .val (.long d1.toInt64), sn, un, un]) rfl ?_
    show sT p e below T21 (mkF m 5 #[rv u0, dw d1, sn, .val (.long d1.toInt64), sn, un, un] []) tz
    refine XS.aloadN X21.here hx rfl (hb hby own_d12_5) rfl rfl ?_
    exact kz
  obtain ⟨T22, X22, e22, st22⟩ := getF X21 hx hZ hown (host := "") (Or.inl (own_w hw 52 rfl)) Via.refl e21 Fd (g := (mkF m 6 #[rv u0, dw d1, sn, .val (.long d1.toInt64), sn, un, un] [(.ref u0)])) rfl rfl (hb hby own_d12_6)
  refine own_on (B := T22.setTop (mkF m 9 #[rv u0, dw d1, sn, .val (.long d1.toInt64), sn, un, un] [(.ref ln)])) (fun tz kz => st22 _ kz) ?_
  obtain ⟨cq23, kq23, q23a, q23b, q23c⟩ := isOf hZ e22 Eln
  obtain ⟨_, _, ⟨T23, L23, k23, n23⟩, -, X23, ⟨Lc23, hQ23, l23, y23, z23⟩, st23⟩ := X22.virtualBack hx (y := (⟨"com/example/vows_to_moves/vowstomoves/model/LongNumbering", "count", "()I"⟩ : MethodName)) (z := (⟨"com/example/vows_to_moves/vowstomoves/model/LongNumbering", "count", "()I"⟩ : MethodName)) hown (mvT hZ (own_w hw 86 rfl)) (mvT hZ (own_w hw 87 rfl)) (notFace_of_selects (args := #[]) (mvT hZ (own_w hw 89 rfl))) (mvT hZ (own_w hw 89 rfl)) (mvT hZ (own_w hw 88 rfl)) (by decide) (backOf (W := 0) (rm13 l Z a0 hw [] ln lc (1 : Int32) h0 n0 O0 Fk El Fs) hZ (own_w hw 90 rfl) (own_w hw 11 rfl) (by decide) (by decide)) q23a q23c (g := (mkF m 9 #[rv u0, dw d1, sn, .val (.long d1.toInt64), sn, un, un] [(.ref ln)])) rfl (by rw [hml]; rfl) (Steps.refl _) (argsL := []) (rest := []) (lenOf own_pd6 rfl) rfl (by show 2 * 0 + _ ≤ _; exact Nat.le_of_eq rfl) (hb hby own_d12_9) (fun _ _ => ⟨rfl, e22, (by decide : 0 + 0 ≤ _), (by decide : 0 + 0 ≤ _)⟩)
  dsimp only [Pt.U, Pt.locs, Pt.cells, Pt.slots] at X23 l23 y23 z23 st23 hQ23
  subst l23 y23 z23
  obtain ⟨rfl, Nq23, e23⟩ := hQ23
  have N23 := Fr.app N0 Nq23
  refine own_on (B := T23.setTop (mkF m 12 #[rv u0, dw d1, sn, .val (.long d1.toInt64), sn, un, un] [(.int 1)])) (fun tz kz => st23.trans kz) ?_
  refine own_on (B := T23.setTop (mkF m 15 #[rv u0, dw d1, sn, .val (.long d1.toInt64), sn, iv 1, un] [(.ref u0)])) (fun tz kz => ?_) ?_
  · show sT p e below T23 (mkF m 12 #[rv u0, dw d1, sn, .val (.long d1.toInt64), sn, un, un] [(.int 1)]) tz
    refine XS.istore X23.here hx rfl (hb hby own_d12_12) rfl (l' := #[rv u0, dw d1, sn, .val (.long d1.toInt64), sn, iv 1, un]) rfl ?_
    show sT p e below T23 (mkF m 14 #[rv u0, dw d1, sn, .val (.long d1.toInt64), sn, iv 1, un] []) tz
    refine XS.aloadN X23.here hx rfl (hb hby own_d12_14) rfl rfl ?_
    exact kz
  obtain ⟨T24, X24, e24, st24⟩ := getF X23 hx hZ hown (host := "") (Or.inl (own_w hw 52 rfl)) Via.refl e23 Fd (g := (mkF m 15 #[rv u0, dw d1, sn, .val (.long d1.toInt64), sn, iv 1, un] [(.ref u0)])) rfl rfl (hb hby own_d12_15)
  refine own_on (B := T24.setTop (mkF m 18 #[rv u0, dw d1, sn, .val (.long d1.toInt64), sn, iv 1, un] [(.ref ln)])) (fun tz kz => st24 _ kz) ?_
  refine own_on (B := T24.setTop (mkF m 19 #[rv u0, dw d1, sn, .val (.long d1.toInt64), sn, iv 1, un] [(.long d1.toInt64), (.ref ln)])) (fun tz kz => ?_) ?_
  · show sT p e below T24 (mkF m 18 #[rv u0, dw d1, sn, .val (.long d1.toInt64), sn, iv 1, un] [(.ref ln)]) tz
    refine XS.lloadN X24.here hx rfl (hb hby own_d12_18) rfl ?_
    exact kz
  obtain ⟨cq25, kq25, q25a, q25b, q25c⟩ := isOf hZ e24 Eln
  obtain ⟨_, _, ⟨T25, L25, k25, n25⟩, -, X25, ⟨Lc25, hQ25, l25, y25, z25⟩, st25⟩ := X24.virtualBack hx (y := (⟨"com/example/vows_to_moves/vowstomoves/model/LongNumbering", "number", "(J)I"⟩ : MethodName)) (z := (⟨"com/example/vows_to_moves/vowstomoves/model/LongNumbering", "number", "(J)I"⟩ : MethodName)) hown (mvT hZ (own_w hw 98 rfl)) (mvT hZ (own_w hw 99 rfl)) (notFace_of_selects (args := #[]) (mvT hZ (own_w hw 101 rfl))) (mvT hZ (own_w hw 101 rfl)) (mvT hZ (own_w hw 100 rfl)) (by decide) (backOf (W := 0) (rm151 l Z a0 hw [] ln d1.toInt64 sa ks vs S lc ja kj jc kl v0 v1 v2 v3 h0 n0 O0 Eln g_ln Fk Fsl El Fc Fs Vj Vs hT Vl hS (by omega)) hZ (own_w hw 102 rfl) (own_w hw 11 rfl) (by decide) (by decide)) q25a q25c (g := (mkF m 19 #[rv u0, dw d1, sn, .val (.long d1.toInt64), sn, iv 1, un] [(.long d1.toInt64), (.ref ln)])) rfl (by rw [hml]; rfl) (Steps.refl _) (argsL := [(.long d1.toInt64)]) (rest := []) (lenOf own_pd10 rfl) rfl (by show 2 * 0 + _ ≤ _; exact Nat.le_of_eq rfl) (hb hby own_d12_19) (fun _ _ => ⟨rfl, e24, (by decide : 0 + 0 ≤ _), (by decide : 0 + 0 ≤ _)⟩)
  dsimp only [Pt.U, Pt.locs, Pt.cells, Pt.slots] at X25 l25 y25 z25 st25 hQ25
  subst l25 y25 z25
  obtain ⟨Nq25, D25⟩ := hQ25
  have N25 := Fr.app N23 Nq25
  rcases D25 with ⟨i_, im, rfl, ik, eq25⟩ | ⟨rfl, Kq25, Fs25, Fc25, Vl25, vs25, j25, hT25, Va25⟩
  · refine own_on (B := T25.setTop (mkF m 22 #[rv u0, dw d1, sn, .val (.long d1.toInt64), sn, iv 1, un] [(.int i_.toInt32)])) (fun tz kz => st25.trans kz) ?_
    refine own_on (B := T25.setTop (mkF m 33 #[rv u0, dw d1, sn, .val (.long d1.toInt64), sn, iv 1, iv i_.toInt32] [(.int i_.toInt32)])) (fun tz kz => ?_) ?_
    · show sT p e below T25 (mkF m 22 #[rv u0, dw d1, sn, .val (.long d1.toInt64), sn, iv 1, un] [(.int i_.toInt32)]) tz
      refine XS.istore X25.here hx rfl (hb hby own_d12_22) rfl (l' := #[rv u0, dw d1, sn, .val (.long d1.toInt64), sn, iv 1, iv i_.toInt32]) rfl ?_
      show sT p e below T25 (mkF m 24 #[rv u0, dw d1, sn, .val (.long d1.toInt64), sn, iv 1, iv i_.toInt32] []) tz
      refine XS.iload X25.here hx rfl (hb hby own_d12_24) rfl ?_
      show sT p e below T25 (mkF m 26 #[rv u0, dw d1, sn, .val (.long d1.toInt64), sn, iv 1, iv i_.toInt32] [(.int i_.toInt32)]) tz
      refine XS.iload X25.here hx rfl (hb hby own_d12_26) rfl ?_
      show sT p e below T25 (mkF m 28 #[rv u0, dw d1, sn, .val (.long d1.toInt64), sn, iv 1, iv i_.toInt32] [(.int 1), (.int i_.toInt32)]) tz
      refine XS.icmpNo X25.here hx rfl (hb hby own_d12_28) rfl (tlt (own_ix im (by decide)).2.2.2.2).2.1 ?_
      show sT p e below T25 (mkF m 31 #[rv u0, dw d1, sn, .val (.long d1.toInt64), sn, iv 1, iv i_.toInt32] []) tz
      refine XS.iload X25.here hx rfl (hb hby own_d12_31) rfl ?_
      exact kz
    obtain ⟨fs, hr, hrun, hended, hW, hsame⟩ := X25.leave (v := some (.int i_.toInt32)) (fun h => by rw [Bd.returns] at h; cases h)
    refine own_of ⟨_, _, ?_, hrun, hended, _, _, rfl, ?_, ⟨_, rfl⟩, hW, hsame.mono (by decide) (by decide)⟩
    · show sT p e below T25 (mkF m 33 #[rv u0, dw d1, sn, .val (.long d1.toInt64), sn, iv 1, iv i_.toInt32] [(.int i_.toInt32)]) _
      exact own_retI X25 hx Bd.returns (hb hby own_d12_33) hr
    · show Q121 Z u0 d1 ln lc ja sa va kj ks kv vs S jc kl v0 v1 v2 v3 h0 n0 _ T25.heap _
      rw [eq25]
      exact ⟨1, i_, v0, v1, v2, v3, vs, S, rfl, N25, (Keep.refl h0 [lc, jc, sa, va]), im, Nat.le_refl _, Nat.le_succ _, own_bits ik, fun _ _ => rfl, hT, hS, Fs, Fc, Vs, Vv, Vl⟩
  · have O26 := O0.keep Kq25 (allS g_lc (allS g_jc (allS g_sa all0)))
    have K26 : Keep h0 T25.heap [lc, jc, sa, va] := (Keep.refl h0 [lc, jc, sa, va]).trans Kq25 (allS (Or.inl (List.mem_of_getElem? (i := 0) rfl)) (allS (Or.inl (List.mem_of_getElem? (i := 1) rfl)) (allS (Or.inl (List.mem_of_getElem? (i := 2) rfl)) all0)))
    refine own_on (B := T25.setTop (mkF m 22 #[rv u0, dw d1, sn, .val (.long d1.toInt64), sn, iv 1, un] [(.int 1)])) (fun tz kz => st25.trans kz) ?_
    refine own_on (B := T25.setTop (mkF m 46 #[rv u0, dw d1, sn, .val (.long d1.toInt64), sn, iv 1, iv 1] [(.ref u0), (.int 1)])) (fun tz kz => ?_) ?_
    · show sT p e below T25 (mkF m 22 #[rv u0, dw d1, sn, .val (.long d1.toInt64), sn, iv 1, un] [(.int 1)]) tz
      refine XS.istore X25.here hx rfl (hb hby own_d12_22) rfl (l' := #[rv u0, dw d1, sn, .val (.long d1.toInt64), sn, iv 1, iv 1]) rfl ?_
      show sT p e below T25 (mkF m 24 #[rv u0, dw d1, sn, .val (.long d1.toInt64), sn, iv 1, iv 1] []) tz
      refine XS.iload X25.here hx rfl (hb hby own_d12_24) rfl ?_
      show sT p e below T25 (mkF m 26 #[rv u0, dw d1, sn, .val (.long d1.toInt64), sn, iv 1, iv 1] [(.int 1)]) tz
      refine XS.iload X25.here hx rfl (hb hby own_d12_26) rfl ?_
      show sT p e below T25 (mkF m 28 #[rv u0, dw d1, sn, .val (.long d1.toInt64), sn, iv 1, iv 1] [(.int 1), (.int 1)]) tz
      refine XS.icmpYes X25.here hx rfl (pc0 := 28) (pc' := 34) rfl (hb hby own_d12_28) rfl (flt Int32.lt_irrefl).2.1 (by decide) (by decide) ?_
      show sT p e below T25 (mkF m 34 #[rv u0, dw d1, sn, .val (.long d1.toInt64), sn, iv 1, iv 1] []) tz
      refine XS.iload X25.here hx rfl (hb hby own_d12_34) rfl ?_
      show sT p e below T25 (mkF m 36 #[rv u0, dw d1, sn, .val (.long d1.toInt64), sn, iv 1, iv 1] [(.int 1)]) tz
      refine X25.ldcInt hx hown (mvT hZ (own_w hw 125 rfl)) (g := (mkF m 36 #[rv u0, dw d1, sn, .val (.long d1.toInt64), sn, iv 1, iv 1] [(.int 1)])) rfl (hb hby own_d12_36) _ ?_
      show sT p e below T25 (mkF m 38 #[rv u0, dw d1, sn, .val (.long d1.toInt64), sn, iv 1, iv 1] [(.int 65536), (.int 1)]) tz
      refine XS.icmpYes X25.here hx rfl (pc0 := 38) (pc' := 43) rfl (hb hby own_d12_38) rfl (feq (by decide : ¬ ((1 : Int32) = (65536 : Int32)))).2 (by decide) (by decide) ?_
      show sT p e below T25 (mkF m 43 #[rv u0, dw d1, sn, .val (.long d1.toInt64), sn, iv 1, iv 1] []) tz
      refine XS.iload X25.here hx rfl (hb hby own_d12_43) rfl ?_
      show sT p e below T25 (mkF m 45 #[rv u0, dw d1, sn, .val (.long d1.toInt64), sn, iv 1, iv 1] [(.int 1)]) tz
      refine XS.aloadN X25.here hx rfl (hb hby own_d12_45) rfl rfl ?_
      exact kz
    have f_27 := (Fv.keep Kq25 (ninS ne_u0_lc (ninS ne_u0_jc (ninS ne_u0_sa nin0))))
    obtain ⟨T28, X28, e28, st28⟩ := getF X25 hx hZ hown (host := "") (Or.inl (own_w hw 55 rfl)) Via.refl rfl f_27 (g := (mkF m 46 #[rv u0, dw d1, sn, .val (.long d1.toInt64), sn, iv 1, iv 1] [(.ref u0), (.int 1)])) rfl rfl (hb hby own_d12_46)
    refine own_on (B := T28.setTop (mkF m 49 #[rv u0, dw d1, sn, .val (.long d1.toInt64), sn, iv 1, iv 1] [(.ref va), (.int 1)])) (fun tz kz => st28 _ kz) ?_
    have f_29 := (Vv.keep Kq25 (ninS (Ne.symm ne_lc_va) (ninS ne_va_jc (ninS (Ne.symm ne_sa_va) nin0))))
    obtain ⟨cl30, Ar30, q30, S30, M30, H30, G30⟩ := id f_29
    refine own_on (B := T28.setTop (mkF m 72 #[rv u0, dw d1, sn, .val (.long d1.toInt64), sn, iv 1, iv 1] [(.ref u0)])) (fun tz kz => ?_) ?_
    · show sT p e below T28 (mkF m 49 #[rv u0, dw d1, sn, .val (.long d1.toInt64), sn, iv 1, iv 1] [(.ref va), (.int 1)]) tz
      refine X28.arraylength hx (by rw [e28]; exact Ar30.1) (State.isArrayOf_alike hZ.alike Ar30.2.1) (g := (mkF m 49 #[rv u0, dw d1, sn, .val (.long d1.toInt64), sn, iv 1, iv 1] [(.ref va), (.int 1)])) rfl rfl (hb hby own_d12_49) _ ?_
      rw [len_of S30 M30]
      show sT p e below T28 (mkF m 50 #[rv u0, dw d1, sn, .val (.long d1.toInt64), sn, iv 1, iv 1] [(.int 16), (.int 1)]) tz
      refine XS.icmpYes X28.here hx rfl (pc0 := 50) (pc' := 71) rfl (hb hby own_d12_50) rfl (feq (by decide : ¬ ((1 : Int32) = (16 : Int32)))).2 (by decide) (by decide) ?_
      show sT p e below T28 (mkF m 71 #[rv u0, dw d1, sn, .val (.long d1.toInt64), sn, iv 1, iv 1] []) tz
      refine XS.aloadN X28.here hx rfl (hb hby own_d12_71) rfl rfl ?_
      exact kz
    obtain ⟨T31, X31, e31, st31⟩ := getF X28 hx hZ hown (host := "") (Or.inl (own_w hw 55 rfl)) Via.refl e28 f_27 (g := (mkF m 72 #[rv u0, dw d1, sn, .val (.long d1.toInt64), sn, iv 1, iv 1] [(.ref u0)])) rfl rfl (hb hby own_d12_72)
    refine own_on (B := T31.setTop (mkF m 75 #[rv u0, dw d1, sn, .val (.long d1.toInt64), sn, iv 1, iv 1] [(.ref va)])) (fun tz kz => st31 _ kz) ?_
    refine own_on (B := T31.setTop (mkF m 78 #[rv u0, dw d1, sn, .val (.long d1.toInt64), sn, iv 1, iv 1] [(.double d1), (.int 1), (.ref va)])) (fun tz kz => ?_) ?_
    · show sT p e below T31 (mkF m 75 #[rv u0, dw d1, sn, .val (.long d1.toInt64), sn, iv 1, iv 1] [(.ref va)]) tz
      refine XS.iload X31.here hx rfl (hb hby own_d12_75) rfl ?_
      show sT p e below T31 (mkF m 77 #[rv u0, dw d1, sn, .val (.long d1.toInt64), sn, iv 1, iv 1] [(.int 1), (.ref va)]) tz
      refine XS.dloadN X31.here hx rfl (hb hby own_d12_77) rfl ?_
      exact kz
    obtain ⟨cl32, Ar32, q32, S32, M32, H32, G32⟩ := id f_29
    have hin33 : ¬ ((1 : Int32) < 0 ∨ cl32.slots.size ≤ ((1 : Int32)).toNatClampNeg) := inb_of S32 ⟨by decide, by decide⟩
    obtain ⟨T33, h33, X33, e33, W33, st33⟩ := stD X31 hx hZ e31 Ar32 (j := (1 : Int32)) hin33 (g := (mkF m 78 #[rv u0, dw d1, sn, .val (.long d1.toInt64), sn, iv 1, iv 1] [(.double d1), (.int 1), (.ref va)])) rfl rfl (hb hby own_d12_78)
    have V33 : Arv Z h33 va kv .double (16 : Int32) [(.double v0), (.double d1), (.double v2), (.double v3)] (.double 0) := Arv.set Ar32 q32 S32 M32 H32 G32 rfl W33 1 rfl (Nat.le_of_ble_eq_true rfl)
    have N33 := Fr.snoc X33 N25 g_va
    have O34 := O26.wr W33 g_va
    have K34 : Keep h0 h33 [lc, jc, sa, va] := K26.wr W33 (Or.inl (List.mem_of_getElem? (i := 3) rfl))
    refine own_on (B := T33.setTop (mkF m 79 #[rv u0, dw d1, sn, .val (.long d1.toInt64), sn, iv 1, iv 1] [])) (fun tz kz => st33 _ kz) ?_
    have f_35 := (Fs25.other W33 (Or.inl ne_lc_va))
    have f_36 := (Fc25.other W33 (Or.inl ne_lc_va))
    have f_37 := (Va25.other W33 ne_sa_va)
    have f_38 := (Vl25.other W33 (Ne.symm ne_va_jc))
    refine own_on (B := T33.setTop (mkF m 81 #[rv u0, dw d1, sn, .val (.long d1.toInt64), sn, iv 1, iv 1] [(.int 1)])) (fun tz kz => ?_) ?_
    · show sT p e below T33 (mkF m 79 #[rv u0, dw d1, sn, .val (.long d1.toInt64), sn, iv 1, iv 1] []) tz
      refine XS.iload X33.here hx rfl (hb hby own_d12_79) rfl ?_
      exact kz
    obtain ⟨fs, hr, hrun, hended, hW, hsame⟩ := X33.leave (v := some (.int (1 : Int32))) (fun h => by rw [Bd.returns] at h; cases h)
    refine own_of ⟨_, _, ?_, hrun, hended, _, _, rfl, ?_, ⟨_, rfl⟩, hW, hsame.mono (by decide) (by decide)⟩
    · show sT p e below T33 (mkF m 81 #[rv u0, dw d1, sn, .val (.long d1.toInt64), sn, iv 1, iv 1] [(.int 1)]) _
      exact own_retI X33 hx Bd.returns (hb hby own_d12_81) hr
    · show Q121 Z u0 d1 ln lc ja sa va kj ks kv vs S jc kl v0 v1 v2 v3 h0 n0 _ T33.heap _
      rw [e33]
      exact ⟨2, 1, v0, d1, v2, v3, vs25, _, rfl, N33, K34, Nat.lt_succ_self _, Nat.le_succ _, Nat.le_refl _, rfl, (fun | 0, _ => rfl | n + 1, h => absurd h (by omega)), hT25, Nat.succ_le_succ hS, f_35, f_36, f_37, V33, f_38⟩
theorem own_ef_122 (m : MethodId) (x0 : Addr) (x1 : UInt64) : entryFrame m #[(.ref x0), (.double x1)] 7 = mkF m 0 #[rv x0, dw x1, .second, .unset, .unset, .unset, .unset] [] := by first | (simp [entryFrame, mkF, argsToLocals, Value.category]; done) | rfl
def Q122 (Z : State) (u0 : Addr) (d1 : UInt64) (ln : Addr) (lc : Addr) (ja : Addr) (sa : Addr) (va : Addr) (kj : ClassId) (ks : ClassId) (kv : ClassId) (vs : List Value) (S : List Nat) (jc : Addr) (kl : ClassId) (v0 : UInt64) (v1 : UInt64) (v2 : UInt64) (v3 : UInt64) (h0 : Heap) (n0 : Nat) (v : Option Value) (h : Heap) (L : List Loc) : Prop := ∃ (m' i : Nat) (w0 w1 w2 w3 : UInt64) (vs' : List Value) (S' : List Nat), v = some (.int i.toInt32) ∧ Fr n0 L ∧ Keep h0 h [lc, jc, sa, va] ∧ i < m' ∧ 2 ≤ m' ∧ m' ≤ 2 + 1 ∧ [w0, w1, w2, w3].getD i 0 = d1 ∧ (∀ k, k < 2 → [w0, w1, w2, w3].getD k 0 = [v0, v1, v2, v3].getD k 0) ∧ OwnTab vs' m' S' ∧ S'.length ≤ m' ∧ Fld Z h lc "com/example/vows_to_moves/vowstomoves/model/LongColumn" "size" "I" (.int m'.toInt32) ∧ Fld Z h lc "com/example/vows_to_moves/vowstomoves/model/LongColumn" "chunks" "[[J" (.ref ja) ∧ Arv Z h sa ks .int (32 : Int32) vs' (.int 0) ∧ Arv Z h va kv .double (16 : Int32) [(.double w0), (.double w1), (.double w2), (.double w3)] (.double 0) ∧ Arv Z h jc kl .long (32768 : Int32) [(.long w0.toInt64), (.long w1.toInt64), (.long w2.toInt64), (.long w3.toInt64)] (.long 0)
set_option maxRecDepth 65536 in
set_option maxHeartbeats 40000000 in
theorem rm122 (l : Launch) (Z : State) (a0 : Array Value) (hw : ∀ d ∈ tables_1, d.before a0 Z = true) (ws : List Jvm.Cond) (u0 : Addr) (d1 : UInt64) (ln : Addr) (lc : Addr) (ja : Addr) (sa : Addr) (va : Addr) (kj : ClassId) (ks : ClassId) (kv : ClassId) (vs : List Value) (S : List Nat) (jc : Addr) (kl : ClassId) (v0 : UInt64) (v1 : UInt64) (v2 : UInt64) (v3 : UInt64) (h0 : Heap) (n0 : Nat) (O0 : Old Z n0 h0) (E_u0 : Exa Z h0 u0 "com/example/vows_to_moves/vowstomoves/model/DoubleColumn") (g_u0 : n0 ≤ u0) (Fd : Fld Z h0 u0 "com/example/vows_to_moves/vowstomoves/model/DoubleColumn" "distinct" "Lcom/example/vows_to_moves/vowstomoves/model/LongNumbering;" (.ref ln)) (Fv : Fld Z h0 u0 "com/example/vows_to_moves/vowstomoves/model/DoubleColumn" "values" "[D" (.ref va)) (Eln : Exa Z h0 ln "com/example/vows_to_moves/vowstomoves/model/LongNumbering") (Fk : Fld Z h0 ln "com/example/vows_to_moves/vowstomoves/model/LongNumbering" "keys" "Lcom/example/vows_to_moves/vowstomoves/model/LongColumn;" (.ref lc)) (Fsl : Fld Z h0 ln "com/example/vows_to_moves/vowstomoves/model/LongNumbering" "slots" "[I" (.ref sa)) (El : Exa Z h0 lc "com/example/vows_to_moves/vowstomoves/model/LongColumn") (Fc : Fld Z h0 lc "com/example/vows_to_moves/vowstomoves/model/LongColumn" "chunks" "[[J" (.ref ja)) (Fs : Fld Z h0 lc "com/example/vows_to_moves/vowstomoves/model/LongColumn" "size" "I" (.int (2 : Int32))) (Vj : Arv Z h0 ja kj (.array .long) (4 : Int32) [(.ref jc), .null, .null, .null] .null) (Vs : Arv Z h0 sa ks .int (32 : Int32) vs (.int 0)) (Vv : Arv Z h0 va kv .double (16 : Int32) [(.double v0), (.double v1), (.double v2), (.double v3)] (.double 0)) (Vl : Arv Z h0 jc kl .long (32768 : Int32) [(.long v0.toInt64), (.long v1.toInt64), (.long v2.toInt64), (.long v3.toInt64)] (.long 0)) (hT : OwnTab vs 2 S) (hS : S.length ≤ 2) (o1 : @LT.lt Nat _ u0 ln ∧ @LT.lt Nat _ ln lc ∧ @LT.lt Nat _ lc ja ∧ @LT.lt Nat _ ja sa ∧ @LT.lt Nat _ sa va ∧ @LT.lt Nat _ va jc) :
    MetFree l (⟨"com/example/vows_to_moves/vowstomoves/model/DoubleColumn", "code", "(D)I"⟩ : MethodName) (head1 (Jvm.Cond.code (⟨"com/example/vows_to_moves/vowstomoves/model/DoubleColumn", "code", "(D)I"⟩ : MethodName) prog_72_method_7_code 7 (some .int) :: ws) ({ frames := 3, cells := 0, slots := 0, locals := 60 } : Room)) (fun a U => a = #[(.ref u0), (.double d1)] ∧ Z.Warmed39 U.vm ∧ U.heap = h0) (fun _ _ _ _ _ => True) (fun _ U o U' => ∃ v L, o = .returned v ∧ Q122 Z u0 d1 ln lc ja sa va kj ks kv vs S jc kl v0 v1 v2 v3 h0 n0 v U'.heap L ∧ FrameEnd U o U' L ({ frames := 3, cells := 0, slots := 0, locals := 60 } : Room).cells ({ frames := 3, cells := 0, slots := 0, locals := 60 } : Room).slots) := by
  refine MetFree.of_bodySF (plainFor_of_name own_pn_com_example_vows_to_moves_vowstomoves_model_DoubleColumn) hisR ?_
  intro p e s m args below meth c s₁ Bd hml0 hP hK
  obtain ⟨rfl, hZ, hh⟩ := hP
  have hx := Bd.exec
  have hby := Bd.bytes
  have hml : c.maxLocals = 7 := hml0
  have hown : s.vm.findClass "com/example/vows_to_moves/vowstomoves/model/DoubleColumn" = some m.cls := findClass_of_methodNamed Bd.named
  have hnm := (name_of_methodNamed Bd.named Bd.method).1
  have X0 : Stand p l e ({ frames := 3, cells := 0, slots := 0, locals := 60 } : Room) s m #[(.ref u0), (.double d1)] below meth c s₁ [] 0 0 := Stand.of_body Bd
  have e0 : s₁.heap = h0 := by rw [← hh, Bd.state]; rfl
  have N0 := Fr.nil n0
  change Go p.tables e below _ _
  refine own_on (B := s₁.setTop (mkF m 0 #[rv u0, dw d1, sn, un, un, un, un] [])) (fun tz kz => castTop (own_ef_122 m u0 d1) kz) ?_
  have ne_u0_ln : u0 ≠ ln := Nat.ne_of_lt (show @LT.lt Nat _ u0 ln by omega)
  have ne_u0_lc : u0 ≠ lc := Nat.ne_of_lt (show @LT.lt Nat _ u0 lc by omega)
  have ne_u0_ja : u0 ≠ ja := Nat.ne_of_lt (show @LT.lt Nat _ u0 ja by omega)
  have ne_u0_sa : u0 ≠ sa := Nat.ne_of_lt (show @LT.lt Nat _ u0 sa by omega)
  have ne_u0_va : u0 ≠ va := Nat.ne_of_lt (show @LT.lt Nat _ u0 va by omega)
  have ne_u0_jc : u0 ≠ jc := Nat.ne_of_lt (show @LT.lt Nat _ u0 jc by omega)
  have ne_ln_lc : ln ≠ lc := Nat.ne_of_lt (show @LT.lt Nat _ ln lc by omega)
  have ne_ln_ja : ln ≠ ja := Nat.ne_of_lt (show @LT.lt Nat _ ln ja by omega)
  have ne_ln_sa : ln ≠ sa := Nat.ne_of_lt (show @LT.lt Nat _ ln sa by omega)
  have ne_ln_va : ln ≠ va := Nat.ne_of_lt (show @LT.lt Nat _ ln va by omega)
  have ne_ln_jc : ln ≠ jc := Nat.ne_of_lt (show @LT.lt Nat _ ln jc by omega)
  have ne_lc_ja : lc ≠ ja := Nat.ne_of_lt (show @LT.lt Nat _ lc ja by omega)
  have ne_lc_sa : lc ≠ sa := Nat.ne_of_lt (show @LT.lt Nat _ lc sa by omega)
  have ne_lc_va : lc ≠ va := Nat.ne_of_lt (show @LT.lt Nat _ lc va by omega)
  have ne_lc_jc : lc ≠ jc := Nat.ne_of_lt (show @LT.lt Nat _ lc jc by omega)
  have ne_ja_sa : ja ≠ sa := Nat.ne_of_lt (show @LT.lt Nat _ ja sa by omega)
  have ne_ja_va : ja ≠ va := Nat.ne_of_lt (show @LT.lt Nat _ ja va by omega)
  have ne_ja_jc : ja ≠ jc := Nat.ne_of_lt (show @LT.lt Nat _ ja jc by omega)
  have ne_sa_va : sa ≠ va := Nat.ne_of_lt (show @LT.lt Nat _ sa va by omega)
  have ne_sa_jc : sa ≠ jc := Nat.ne_of_lt (show @LT.lt Nat _ sa jc by omega)
  have ne_va_jc : va ≠ jc := Nat.ne_of_lt (show @LT.lt Nat _ va jc by omega)
  have g_ln : n0 ≤ ln := (show @LE.le Nat _ n0 ln by omega)
  have g_lc : n0 ≤ lc := (show @LE.le Nat _ n0 lc by omega)
  have g_ja : n0 ≤ ja := (show @LE.le Nat _ n0 ja by omega)
  have g_sa : n0 ≤ sa := (show @LE.le Nat _ n0 sa by omega)
  have g_va : n0 ≤ va := (show @LE.le Nat _ n0 va by omega)
  have g_jc : n0 ≤ jc := (show @LE.le Nat _ n0 jc by omega)
  refine own_on (B := s₁.setTop (mkF m 1 #[rv u0, dw d1, sn, un, un, un, un] [(.double d1)])) (fun tz kz => ?_) ?_
  · show sT p e below s₁ (mkF m 0 #[rv u0, dw d1, sn, un, un, un, un] []) tz
    refine XS.dloadN X0.here hx rfl (hb hby own_d12_0) rfl ?_
    exact kz
  obtain ⟨vq21, X21, st21⟩ := X0.doubleToRawLongBits hx hown (mvT hZ (own_w hw 82 rfl)) (mvT hZ (own_w hw 85 rfl)) (mvT hZ (own_w hw 83 rfl)) (mvT hZ (own_w hw 84 rfl)) (g := (mkF m 1 #[rv u0, dw d1, sn, un, un, un, un] [(.double d1)])) rfl (by rw [hml]; rfl) rfl (hb hby own_d12_1) (by decide) (by show 2 * 0 + 0 + (nativeFrameWords "java/lang/Double" "doubleToRawLongBits" 2 + 11) ≤ _; decide)
  obtain ⟨T21, eT21⟩ : ∃ t, t = s₁.setVm vq21 := ⟨_, rfl⟩
  rw [← eT21] at X21 st21
  have e21 : T21.heap = h0 := by rw [eT21]; exact e0
  refine own_on (B := T21.setTop (mkF m 4 #[rv u0, dw d1, sn, un, un, un, un] [(.long d1.toInt64)])) (fun tz kz => st21 _ kz) ?_
  refine own_on (B := T21.setTop (mkF m 6 #[rv u0, dw d1, sn, .val (.long d1.toInt64), sn, un, un] [(.ref u0)])) (fun tz kz => ?_) ?_
  · show sT p e below T21 (mkF m 4 #[rv u0, dw d1, sn, un, un, un, un] [(.long d1.toInt64)]) tz
    refine XS.lstoreN X21.here hx rfl (hb hby own_d12_4) rfl (l' := #[rv u0, dw d1, sn, .val (.long d1.toInt64), sn, un, un]) rfl ?_
    show sT p e below T21 (mkF m 5 #[rv u0, dw d1, sn, .val (.long d1.toInt64), sn, un, un] []) tz
    refine XS.aloadN X21.here hx rfl (hb hby own_d12_5) rfl rfl ?_
    exact kz
  obtain ⟨T22, X22, e22, st22⟩ := getF X21 hx hZ hown (host := "") (Or.inl (own_w hw 52 rfl)) Via.refl e21 Fd (g := (mkF m 6 #[rv u0, dw d1, sn, .val (.long d1.toInt64), sn, un, un] [(.ref u0)])) rfl rfl (hb hby own_d12_6)
  refine own_on (B := T22.setTop (mkF m 9 #[rv u0, dw d1, sn, .val (.long d1.toInt64), sn, un, un] [(.ref ln)])) (fun tz kz => st22 _ kz) ?_
  obtain ⟨cq23, kq23, q23a, q23b, q23c⟩ := isOf hZ e22 Eln
  obtain ⟨_, _, ⟨T23, L23, k23, n23⟩, -, X23, ⟨Lc23, hQ23, l23, y23, z23⟩, st23⟩ := X22.virtualBack hx (y := (⟨"com/example/vows_to_moves/vowstomoves/model/LongNumbering", "count", "()I"⟩ : MethodName)) (z := (⟨"com/example/vows_to_moves/vowstomoves/model/LongNumbering", "count", "()I"⟩ : MethodName)) hown (mvT hZ (own_w hw 86 rfl)) (mvT hZ (own_w hw 87 rfl)) (notFace_of_selects (args := #[]) (mvT hZ (own_w hw 89 rfl))) (mvT hZ (own_w hw 89 rfl)) (mvT hZ (own_w hw 88 rfl)) (by decide) (backOf (W := 0) (rm13 l Z a0 hw [] ln lc (2 : Int32) h0 n0 O0 Fk El Fs) hZ (own_w hw 90 rfl) (own_w hw 11 rfl) (by decide) (by decide)) q23a q23c (g := (mkF m 9 #[rv u0, dw d1, sn, .val (.long d1.toInt64), sn, un, un] [(.ref ln)])) rfl (by rw [hml]; rfl) (Steps.refl _) (argsL := []) (rest := []) (lenOf own_pd6 rfl) rfl (by show 2 * 0 + _ ≤ _; exact Nat.le_of_eq rfl) (hb hby own_d12_9) (fun _ _ => ⟨rfl, e22, (by decide : 0 + 0 ≤ _), (by decide : 0 + 0 ≤ _)⟩)
  dsimp only [Pt.U, Pt.locs, Pt.cells, Pt.slots] at X23 l23 y23 z23 st23 hQ23
  subst l23 y23 z23
  obtain ⟨rfl, Nq23, e23⟩ := hQ23
  have N23 := Fr.app N0 Nq23
  refine own_on (B := T23.setTop (mkF m 12 #[rv u0, dw d1, sn, .val (.long d1.toInt64), sn, un, un] [(.int 2)])) (fun tz kz => st23.trans kz) ?_
  refine own_on (B := T23.setTop (mkF m 15 #[rv u0, dw d1, sn, .val (.long d1.toInt64), sn, iv 2, un] [(.ref u0)])) (fun tz kz => ?_) ?_
  · show sT p e below T23 (mkF m 12 #[rv u0, dw d1, sn, .val (.long d1.toInt64), sn, un, un] [(.int 2)]) tz
    refine XS.istore X23.here hx rfl (hb hby own_d12_12) rfl (l' := #[rv u0, dw d1, sn, .val (.long d1.toInt64), sn, iv 2, un]) rfl ?_
    show sT p e below T23 (mkF m 14 #[rv u0, dw d1, sn, .val (.long d1.toInt64), sn, iv 2, un] []) tz
    refine XS.aloadN X23.here hx rfl (hb hby own_d12_14) rfl rfl ?_
    exact kz
  obtain ⟨T24, X24, e24, st24⟩ := getF X23 hx hZ hown (host := "") (Or.inl (own_w hw 52 rfl)) Via.refl e23 Fd (g := (mkF m 15 #[rv u0, dw d1, sn, .val (.long d1.toInt64), sn, iv 2, un] [(.ref u0)])) rfl rfl (hb hby own_d12_15)
  refine own_on (B := T24.setTop (mkF m 18 #[rv u0, dw d1, sn, .val (.long d1.toInt64), sn, iv 2, un] [(.ref ln)])) (fun tz kz => st24 _ kz) ?_
  refine own_on (B := T24.setTop (mkF m 19 #[rv u0, dw d1, sn, .val (.long d1.toInt64), sn, iv 2, un] [(.long d1.toInt64), (.ref ln)])) (fun tz kz => ?_) ?_
  · show sT p e below T24 (mkF m 18 #[rv u0, dw d1, sn, .val (.long d1.toInt64), sn, iv 2, un] [(.ref ln)]) tz
    refine XS.lloadN X24.here hx rfl (hb hby own_d12_18) rfl ?_
    exact kz
  obtain ⟨cq25, kq25, q25a, q25b, q25c⟩ := isOf hZ e24 Eln
  obtain ⟨_, _, ⟨T25, L25, k25, n25⟩, -, X25, ⟨Lc25, hQ25, l25, y25, z25⟩, st25⟩ := X24.virtualBack hx (y := (⟨"com/example/vows_to_moves/vowstomoves/model/LongNumbering", "number", "(J)I"⟩ : MethodName)) (z := (⟨"com/example/vows_to_moves/vowstomoves/model/LongNumbering", "number", "(J)I"⟩ : MethodName)) hown (mvT hZ (own_w hw 98 rfl)) (mvT hZ (own_w hw 99 rfl)) (notFace_of_selects (args := #[]) (mvT hZ (own_w hw 101 rfl))) (mvT hZ (own_w hw 101 rfl)) (mvT hZ (own_w hw 100 rfl)) (by decide) (backOf (W := 0) (rm152 l Z a0 hw [] ln d1.toInt64 sa ks vs S lc ja kj jc kl v0 v1 v2 v3 h0 n0 O0 Eln g_ln Fk Fsl El Fc Fs Vj Vs hT Vl hS (by omega)) hZ (own_w hw 102 rfl) (own_w hw 11 rfl) (by decide) (by decide)) q25a q25c (g := (mkF m 19 #[rv u0, dw d1, sn, .val (.long d1.toInt64), sn, iv 2, un] [(.long d1.toInt64), (.ref ln)])) rfl (by rw [hml]; rfl) (Steps.refl _) (argsL := [(.long d1.toInt64)]) (rest := []) (lenOf own_pd10 rfl) rfl (by show 2 * 0 + _ ≤ _; exact Nat.le_of_eq rfl) (hb hby own_d12_19) (fun _ _ => ⟨rfl, e24, (by decide : 0 + 0 ≤ _), (by decide : 0 + 0 ≤ _)⟩)
  dsimp only [Pt.U, Pt.locs, Pt.cells, Pt.slots] at X25 l25 y25 z25 st25 hQ25
  subst l25 y25 z25
  obtain ⟨Nq25, D25⟩ := hQ25
  have N25 := Fr.app N23 Nq25
  rcases D25 with ⟨i_, im, rfl, ik, eq25⟩ | ⟨rfl, Kq25, Fs25, Fc25, Vl25, vs25, j25, hT25, Va25⟩
  · refine own_on (B := T25.setTop (mkF m 22 #[rv u0, dw d1, sn, .val (.long d1.toInt64), sn, iv 2, un] [(.int i_.toInt32)])) (fun tz kz => st25.trans kz) ?_
    refine own_on (B := T25.setTop (mkF m 33 #[rv u0, dw d1, sn, .val (.long d1.toInt64), sn, iv 2, iv i_.toInt32] [(.int i_.toInt32)])) (fun tz kz => ?_) ?_
    · show sT p e below T25 (mkF m 22 #[rv u0, dw d1, sn, .val (.long d1.toInt64), sn, iv 2, un] [(.int i_.toInt32)]) tz
      refine XS.istore X25.here hx rfl (hb hby own_d12_22) rfl (l' := #[rv u0, dw d1, sn, .val (.long d1.toInt64), sn, iv 2, iv i_.toInt32]) rfl ?_
      show sT p e below T25 (mkF m 24 #[rv u0, dw d1, sn, .val (.long d1.toInt64), sn, iv 2, iv i_.toInt32] []) tz
      refine XS.iload X25.here hx rfl (hb hby own_d12_24) rfl ?_
      show sT p e below T25 (mkF m 26 #[rv u0, dw d1, sn, .val (.long d1.toInt64), sn, iv 2, iv i_.toInt32] [(.int i_.toInt32)]) tz
      refine XS.iload X25.here hx rfl (hb hby own_d12_26) rfl ?_
      show sT p e below T25 (mkF m 28 #[rv u0, dw d1, sn, .val (.long d1.toInt64), sn, iv 2, iv i_.toInt32] [(.int 2), (.int i_.toInt32)]) tz
      refine XS.icmpNo X25.here hx rfl (hb hby own_d12_28) rfl (tlt (own_ix im (by decide)).2.2.2.2).2.1 ?_
      show sT p e below T25 (mkF m 31 #[rv u0, dw d1, sn, .val (.long d1.toInt64), sn, iv 2, iv i_.toInt32] []) tz
      refine XS.iload X25.here hx rfl (hb hby own_d12_31) rfl ?_
      exact kz
    obtain ⟨fs, hr, hrun, hended, hW, hsame⟩ := X25.leave (v := some (.int i_.toInt32)) (fun h => by rw [Bd.returns] at h; cases h)
    refine own_of ⟨_, _, ?_, hrun, hended, _, _, rfl, ?_, ⟨_, rfl⟩, hW, hsame.mono (by decide) (by decide)⟩
    · show sT p e below T25 (mkF m 33 #[rv u0, dw d1, sn, .val (.long d1.toInt64), sn, iv 2, iv i_.toInt32] [(.int i_.toInt32)]) _
      exact own_retI X25 hx Bd.returns (hb hby own_d12_33) hr
    · show Q122 Z u0 d1 ln lc ja sa va kj ks kv vs S jc kl v0 v1 v2 v3 h0 n0 _ T25.heap _
      rw [eq25]
      exact ⟨2, i_, v0, v1, v2, v3, vs, S, rfl, N25, (Keep.refl h0 [lc, jc, sa, va]), im, Nat.le_refl _, Nat.le_succ _, own_bits ik, fun _ _ => rfl, hT, hS, Fs, Fc, Vs, Vv, Vl⟩
  · have O26 := O0.keep Kq25 (allS g_lc (allS g_jc (allS g_sa all0)))
    have K26 : Keep h0 T25.heap [lc, jc, sa, va] := (Keep.refl h0 [lc, jc, sa, va]).trans Kq25 (allS (Or.inl (List.mem_of_getElem? (i := 0) rfl)) (allS (Or.inl (List.mem_of_getElem? (i := 1) rfl)) (allS (Or.inl (List.mem_of_getElem? (i := 2) rfl)) all0)))
    refine own_on (B := T25.setTop (mkF m 22 #[rv u0, dw d1, sn, .val (.long d1.toInt64), sn, iv 2, un] [(.int 2)])) (fun tz kz => st25.trans kz) ?_
    refine own_on (B := T25.setTop (mkF m 46 #[rv u0, dw d1, sn, .val (.long d1.toInt64), sn, iv 2, iv 2] [(.ref u0), (.int 2)])) (fun tz kz => ?_) ?_
    · show sT p e below T25 (mkF m 22 #[rv u0, dw d1, sn, .val (.long d1.toInt64), sn, iv 2, un] [(.int 2)]) tz
      refine XS.istore X25.here hx rfl (hb hby own_d12_22) rfl (l' := #[rv u0, dw d1, sn, .val (.long d1.toInt64), sn, iv 2, iv 2]) rfl ?_
      show sT p e below T25 (mkF m 24 #[rv u0, dw d1, sn, .val (.long d1.toInt64), sn, iv 2, iv 2] []) tz
      refine XS.iload X25.here hx rfl (hb hby own_d12_24) rfl ?_
      show sT p e below T25 (mkF m 26 #[rv u0, dw d1, sn, .val (.long d1.toInt64), sn, iv 2, iv 2] [(.int 2)]) tz
      refine XS.iload X25.here hx rfl (hb hby own_d12_26) rfl ?_
      show sT p e below T25 (mkF m 28 #[rv u0, dw d1, sn, .val (.long d1.toInt64), sn, iv 2, iv 2] [(.int 2), (.int 2)]) tz
      refine XS.icmpYes X25.here hx rfl (pc0 := 28) (pc' := 34) rfl (hb hby own_d12_28) rfl (flt Int32.lt_irrefl).2.1 (by decide) (by decide) ?_
      show sT p e below T25 (mkF m 34 #[rv u0, dw d1, sn, .val (.long d1.toInt64), sn, iv 2, iv 2] []) tz
      refine XS.iload X25.here hx rfl (hb hby own_d12_34) rfl ?_
      show sT p e below T25 (mkF m 36 #[rv u0, dw d1, sn, .val (.long d1.toInt64), sn, iv 2, iv 2] [(.int 2)]) tz
      refine X25.ldcInt hx hown (mvT hZ (own_w hw 125 rfl)) (g := (mkF m 36 #[rv u0, dw d1, sn, .val (.long d1.toInt64), sn, iv 2, iv 2] [(.int 2)])) rfl (hb hby own_d12_36) _ ?_
      show sT p e below T25 (mkF m 38 #[rv u0, dw d1, sn, .val (.long d1.toInt64), sn, iv 2, iv 2] [(.int 65536), (.int 2)]) tz
      refine XS.icmpYes X25.here hx rfl (pc0 := 38) (pc' := 43) rfl (hb hby own_d12_38) rfl (feq (by decide : ¬ ((2 : Int32) = (65536 : Int32)))).2 (by decide) (by decide) ?_
      show sT p e below T25 (mkF m 43 #[rv u0, dw d1, sn, .val (.long d1.toInt64), sn, iv 2, iv 2] []) tz
      refine XS.iload X25.here hx rfl (hb hby own_d12_43) rfl ?_
      show sT p e below T25 (mkF m 45 #[rv u0, dw d1, sn, .val (.long d1.toInt64), sn, iv 2, iv 2] [(.int 2)]) tz
      refine XS.aloadN X25.here hx rfl (hb hby own_d12_45) rfl rfl ?_
      exact kz
    have f_27 := (Fv.keep Kq25 (ninS ne_u0_lc (ninS ne_u0_jc (ninS ne_u0_sa nin0))))
    obtain ⟨T28, X28, e28, st28⟩ := getF X25 hx hZ hown (host := "") (Or.inl (own_w hw 55 rfl)) Via.refl rfl f_27 (g := (mkF m 46 #[rv u0, dw d1, sn, .val (.long d1.toInt64), sn, iv 2, iv 2] [(.ref u0), (.int 2)])) rfl rfl (hb hby own_d12_46)
    refine own_on (B := T28.setTop (mkF m 49 #[rv u0, dw d1, sn, .val (.long d1.toInt64), sn, iv 2, iv 2] [(.ref va), (.int 2)])) (fun tz kz => st28 _ kz) ?_
    have f_29 := (Vv.keep Kq25 (ninS (Ne.symm ne_lc_va) (ninS ne_va_jc (ninS (Ne.symm ne_sa_va) nin0))))
    obtain ⟨cl30, Ar30, q30, S30, M30, H30, G30⟩ := id f_29
    refine own_on (B := T28.setTop (mkF m 72 #[rv u0, dw d1, sn, .val (.long d1.toInt64), sn, iv 2, iv 2] [(.ref u0)])) (fun tz kz => ?_) ?_
    · show sT p e below T28 (mkF m 49 #[rv u0, dw d1, sn, .val (.long d1.toInt64), sn, iv 2, iv 2] [(.ref va), (.int 2)]) tz
      refine X28.arraylength hx (by rw [e28]; exact Ar30.1) (State.isArrayOf_alike hZ.alike Ar30.2.1) (g := (mkF m 49 #[rv u0, dw d1, sn, .val (.long d1.toInt64), sn, iv 2, iv 2] [(.ref va), (.int 2)])) rfl rfl (hb hby own_d12_49) _ ?_
      rw [len_of S30 M30]
      show sT p e below T28 (mkF m 50 #[rv u0, dw d1, sn, .val (.long d1.toInt64), sn, iv 2, iv 2] [(.int 16), (.int 2)]) tz
      refine XS.icmpYes X28.here hx rfl (pc0 := 50) (pc' := 71) rfl (hb hby own_d12_50) rfl (feq (by decide : ¬ ((2 : Int32) = (16 : Int32)))).2 (by decide) (by decide) ?_
      show sT p e below T28 (mkF m 71 #[rv u0, dw d1, sn, .val (.long d1.toInt64), sn, iv 2, iv 2] []) tz
      refine XS.aloadN X28.here hx rfl (hb hby own_d12_71) rfl rfl ?_
      exact kz
    obtain ⟨T31, X31, e31, st31⟩ := getF X28 hx hZ hown (host := "") (Or.inl (own_w hw 55 rfl)) Via.refl e28 f_27 (g := (mkF m 72 #[rv u0, dw d1, sn, .val (.long d1.toInt64), sn, iv 2, iv 2] [(.ref u0)])) rfl rfl (hb hby own_d12_72)
    refine own_on (B := T31.setTop (mkF m 75 #[rv u0, dw d1, sn, .val (.long d1.toInt64), sn, iv 2, iv 2] [(.ref va)])) (fun tz kz => st31 _ kz) ?_
    refine own_on (B := T31.setTop (mkF m 78 #[rv u0, dw d1, sn, .val (.long d1.toInt64), sn, iv 2, iv 2] [(.double d1), (.int 2), (.ref va)])) (fun tz kz => ?_) ?_
    · show sT p e below T31 (mkF m 75 #[rv u0, dw d1, sn, .val (.long d1.toInt64), sn, iv 2, iv 2] [(.ref va)]) tz
      refine XS.iload X31.here hx rfl (hb hby own_d12_75) rfl ?_
      show sT p e below T31 (mkF m 77 #[rv u0, dw d1, sn, .val (.long d1.toInt64), sn, iv 2, iv 2] [(.int 2), (.ref va)]) tz
      refine XS.dloadN X31.here hx rfl (hb hby own_d12_77) rfl ?_
      exact kz
    obtain ⟨cl32, Ar32, q32, S32, M32, H32, G32⟩ := id f_29
    have hin33 : ¬ ((2 : Int32) < 0 ∨ cl32.slots.size ≤ ((2 : Int32)).toNatClampNeg) := inb_of S32 ⟨by decide, by decide⟩
    obtain ⟨T33, h33, X33, e33, W33, st33⟩ := stD X31 hx hZ e31 Ar32 (j := (2 : Int32)) hin33 (g := (mkF m 78 #[rv u0, dw d1, sn, .val (.long d1.toInt64), sn, iv 2, iv 2] [(.double d1), (.int 2), (.ref va)])) rfl rfl (hb hby own_d12_78)
    have V33 : Arv Z h33 va kv .double (16 : Int32) [(.double v0), (.double v1), (.double d1), (.double v3)] (.double 0) := Arv.set Ar32 q32 S32 M32 H32 G32 rfl W33 2 rfl (Nat.le_of_ble_eq_true rfl)
    have N33 := Fr.snoc X33 N25 g_va
    have O34 := O26.wr W33 g_va
    have K34 : Keep h0 h33 [lc, jc, sa, va] := K26.wr W33 (Or.inl (List.mem_of_getElem? (i := 3) rfl))
    refine own_on (B := T33.setTop (mkF m 79 #[rv u0, dw d1, sn, .val (.long d1.toInt64), sn, iv 2, iv 2] [])) (fun tz kz => st33 _ kz) ?_
    have f_35 := (Fs25.other W33 (Or.inl ne_lc_va))
    have f_36 := (Fc25.other W33 (Or.inl ne_lc_va))
    have f_37 := (Va25.other W33 ne_sa_va)
    have f_38 := (Vl25.other W33 (Ne.symm ne_va_jc))
    refine own_on (B := T33.setTop (mkF m 81 #[rv u0, dw d1, sn, .val (.long d1.toInt64), sn, iv 2, iv 2] [(.int 2)])) (fun tz kz => ?_) ?_
    · show sT p e below T33 (mkF m 79 #[rv u0, dw d1, sn, .val (.long d1.toInt64), sn, iv 2, iv 2] []) tz
      refine XS.iload X33.here hx rfl (hb hby own_d12_79) rfl ?_
      exact kz
    obtain ⟨fs, hr, hrun, hended, hW, hsame⟩ := X33.leave (v := some (.int (2 : Int32))) (fun h => by rw [Bd.returns] at h; cases h)
    refine own_of ⟨_, _, ?_, hrun, hended, _, _, rfl, ?_, ⟨_, rfl⟩, hW, hsame.mono (by decide) (by decide)⟩
    · show sT p e below T33 (mkF m 81 #[rv u0, dw d1, sn, .val (.long d1.toInt64), sn, iv 2, iv 2] [(.int 2)]) _
      exact own_retI X33 hx Bd.returns (hb hby own_d12_81) hr
    · show Q122 Z u0 d1 ln lc ja sa va kj ks kv vs S jc kl v0 v1 v2 v3 h0 n0 _ T33.heap _
      rw [e33]
      exact ⟨3, 2, v0, v1, d1, v3, vs25, _, rfl, N33, K34, Nat.lt_succ_self _, Nat.le_succ _, Nat.le_refl _, rfl, (fun | 0, _ => rfl | 1, _ => rfl | n + 2, h => absurd h (by omega)), hT25, Nat.succ_le_succ hS, f_35, f_36, f_37, V33, f_38⟩
theorem own_ef_123 (m : MethodId) (x0 : Addr) (x1 : UInt64) : entryFrame m #[(.ref x0), (.double x1)] 7 = mkF m 0 #[rv x0, dw x1, .second, .unset, .unset, .unset, .unset] [] := by first | (simp [entryFrame, mkF, argsToLocals, Value.category]; done) | rfl
def Q123 (Z : State) (u0 : Addr) (d1 : UInt64) (ln : Addr) (lc : Addr) (ja : Addr) (sa : Addr) (va : Addr) (kj : ClassId) (ks : ClassId) (kv : ClassId) (vs : List Value) (S : List Nat) (jc : Addr) (kl : ClassId) (v0 : UInt64) (v1 : UInt64) (v2 : UInt64) (v3 : UInt64) (h0 : Heap) (n0 : Nat) (v : Option Value) (h : Heap) (L : List Loc) : Prop := ∃ (m' i : Nat) (w0 w1 w2 w3 : UInt64) (vs' : List Value) (S' : List Nat), v = some (.int i.toInt32) ∧ Fr n0 L ∧ Keep h0 h [lc, jc, sa, va] ∧ i < m' ∧ 3 ≤ m' ∧ m' ≤ 3 + 1 ∧ [w0, w1, w2, w3].getD i 0 = d1 ∧ (∀ k, k < 3 → [w0, w1, w2, w3].getD k 0 = [v0, v1, v2, v3].getD k 0) ∧ OwnTab vs' m' S' ∧ S'.length ≤ m' ∧ Fld Z h lc "com/example/vows_to_moves/vowstomoves/model/LongColumn" "size" "I" (.int m'.toInt32) ∧ Fld Z h lc "com/example/vows_to_moves/vowstomoves/model/LongColumn" "chunks" "[[J" (.ref ja) ∧ Arv Z h sa ks .int (32 : Int32) vs' (.int 0) ∧ Arv Z h va kv .double (16 : Int32) [(.double w0), (.double w1), (.double w2), (.double w3)] (.double 0) ∧ Arv Z h jc kl .long (32768 : Int32) [(.long w0.toInt64), (.long w1.toInt64), (.long w2.toInt64), (.long w3.toInt64)] (.long 0)
set_option maxRecDepth 65536 in
set_option maxHeartbeats 40000000 in
theorem rm123 (l : Launch) (Z : State) (a0 : Array Value) (hw : ∀ d ∈ tables_1, d.before a0 Z = true) (ws : List Jvm.Cond) (u0 : Addr) (d1 : UInt64) (ln : Addr) (lc : Addr) (ja : Addr) (sa : Addr) (va : Addr) (kj : ClassId) (ks : ClassId) (kv : ClassId) (vs : List Value) (S : List Nat) (jc : Addr) (kl : ClassId) (v0 : UInt64) (v1 : UInt64) (v2 : UInt64) (v3 : UInt64) (h0 : Heap) (n0 : Nat) (O0 : Old Z n0 h0) (E_u0 : Exa Z h0 u0 "com/example/vows_to_moves/vowstomoves/model/DoubleColumn") (g_u0 : n0 ≤ u0) (Fd : Fld Z h0 u0 "com/example/vows_to_moves/vowstomoves/model/DoubleColumn" "distinct" "Lcom/example/vows_to_moves/vowstomoves/model/LongNumbering;" (.ref ln)) (Fv : Fld Z h0 u0 "com/example/vows_to_moves/vowstomoves/model/DoubleColumn" "values" "[D" (.ref va)) (Eln : Exa Z h0 ln "com/example/vows_to_moves/vowstomoves/model/LongNumbering") (Fk : Fld Z h0 ln "com/example/vows_to_moves/vowstomoves/model/LongNumbering" "keys" "Lcom/example/vows_to_moves/vowstomoves/model/LongColumn;" (.ref lc)) (Fsl : Fld Z h0 ln "com/example/vows_to_moves/vowstomoves/model/LongNumbering" "slots" "[I" (.ref sa)) (El : Exa Z h0 lc "com/example/vows_to_moves/vowstomoves/model/LongColumn") (Fc : Fld Z h0 lc "com/example/vows_to_moves/vowstomoves/model/LongColumn" "chunks" "[[J" (.ref ja)) (Fs : Fld Z h0 lc "com/example/vows_to_moves/vowstomoves/model/LongColumn" "size" "I" (.int (3 : Int32))) (Vj : Arv Z h0 ja kj (.array .long) (4 : Int32) [(.ref jc), .null, .null, .null] .null) (Vs : Arv Z h0 sa ks .int (32 : Int32) vs (.int 0)) (Vv : Arv Z h0 va kv .double (16 : Int32) [(.double v0), (.double v1), (.double v2), (.double v3)] (.double 0)) (Vl : Arv Z h0 jc kl .long (32768 : Int32) [(.long v0.toInt64), (.long v1.toInt64), (.long v2.toInt64), (.long v3.toInt64)] (.long 0)) (hT : OwnTab vs 3 S) (hS : S.length ≤ 3) (o1 : @LT.lt Nat _ u0 ln ∧ @LT.lt Nat _ ln lc ∧ @LT.lt Nat _ lc ja ∧ @LT.lt Nat _ ja sa ∧ @LT.lt Nat _ sa va ∧ @LT.lt Nat _ va jc) :
    MetFree l (⟨"com/example/vows_to_moves/vowstomoves/model/DoubleColumn", "code", "(D)I"⟩ : MethodName) (head1 (Jvm.Cond.code (⟨"com/example/vows_to_moves/vowstomoves/model/DoubleColumn", "code", "(D)I"⟩ : MethodName) prog_72_method_7_code 7 (some .int) :: ws) ({ frames := 3, cells := 0, slots := 0, locals := 60 } : Room)) (fun a U => a = #[(.ref u0), (.double d1)] ∧ Z.Warmed39 U.vm ∧ U.heap = h0) (fun _ _ _ _ _ => True) (fun _ U o U' => ∃ v L, o = .returned v ∧ Q123 Z u0 d1 ln lc ja sa va kj ks kv vs S jc kl v0 v1 v2 v3 h0 n0 v U'.heap L ∧ FrameEnd U o U' L ({ frames := 3, cells := 0, slots := 0, locals := 60 } : Room).cells ({ frames := 3, cells := 0, slots := 0, locals := 60 } : Room).slots) := by
  refine MetFree.of_bodySF (plainFor_of_name own_pn_com_example_vows_to_moves_vowstomoves_model_DoubleColumn) hisR ?_
  intro p e s m args below meth c s₁ Bd hml0 hP hK
  obtain ⟨rfl, hZ, hh⟩ := hP
  have hx := Bd.exec
  have hby := Bd.bytes
  have hml : c.maxLocals = 7 := hml0
  have hown : s.vm.findClass "com/example/vows_to_moves/vowstomoves/model/DoubleColumn" = some m.cls := findClass_of_methodNamed Bd.named
  have hnm := (name_of_methodNamed Bd.named Bd.method).1
  have X0 : Stand p l e ({ frames := 3, cells := 0, slots := 0, locals := 60 } : Room) s m #[(.ref u0), (.double d1)] below meth c s₁ [] 0 0 := Stand.of_body Bd
  have e0 : s₁.heap = h0 := by rw [← hh, Bd.state]; rfl
  have N0 := Fr.nil n0
  change Go p.tables e below _ _
  refine own_on (B := s₁.setTop (mkF m 0 #[rv u0, dw d1, sn, un, un, un, un] [])) (fun tz kz => castTop (own_ef_123 m u0 d1) kz) ?_
  have ne_u0_ln : u0 ≠ ln := Nat.ne_of_lt (show @LT.lt Nat _ u0 ln by omega)
  have ne_u0_lc : u0 ≠ lc := Nat.ne_of_lt (show @LT.lt Nat _ u0 lc by omega)
  have ne_u0_ja : u0 ≠ ja := Nat.ne_of_lt (show @LT.lt Nat _ u0 ja by omega)
  have ne_u0_sa : u0 ≠ sa := Nat.ne_of_lt (show @LT.lt Nat _ u0 sa by omega)
  have ne_u0_va : u0 ≠ va := Nat.ne_of_lt (show @LT.lt Nat _ u0 va by omega)
  have ne_u0_jc : u0 ≠ jc := Nat.ne_of_lt (show @LT.lt Nat _ u0 jc by omega)
  have ne_ln_lc : ln ≠ lc := Nat.ne_of_lt (show @LT.lt Nat _ ln lc by omega)
  have ne_ln_ja : ln ≠ ja := Nat.ne_of_lt (show @LT.lt Nat _ ln ja by omega)
  have ne_ln_sa : ln ≠ sa := Nat.ne_of_lt (show @LT.lt Nat _ ln sa by omega)
  have ne_ln_va : ln ≠ va := Nat.ne_of_lt (show @LT.lt Nat _ ln va by omega)
  have ne_ln_jc : ln ≠ jc := Nat.ne_of_lt (show @LT.lt Nat _ ln jc by omega)
  have ne_lc_ja : lc ≠ ja := Nat.ne_of_lt (show @LT.lt Nat _ lc ja by omega)
  have ne_lc_sa : lc ≠ sa := Nat.ne_of_lt (show @LT.lt Nat _ lc sa by omega)
  have ne_lc_va : lc ≠ va := Nat.ne_of_lt (show @LT.lt Nat _ lc va by omega)
  have ne_lc_jc : lc ≠ jc := Nat.ne_of_lt (show @LT.lt Nat _ lc jc by omega)
  have ne_ja_sa : ja ≠ sa := Nat.ne_of_lt (show @LT.lt Nat _ ja sa by omega)
  have ne_ja_va : ja ≠ va := Nat.ne_of_lt (show @LT.lt Nat _ ja va by omega)
  have ne_ja_jc : ja ≠ jc := Nat.ne_of_lt (show @LT.lt Nat _ ja jc by omega)
  have ne_sa_va : sa ≠ va := Nat.ne_of_lt (show @LT.lt Nat _ sa va by omega)
  have ne_sa_jc : sa ≠ jc := Nat.ne_of_lt (show @LT.lt Nat _ sa jc by omega)
  have ne_va_jc : va ≠ jc := Nat.ne_of_lt (show @LT.lt Nat _ va jc by omega)
  have g_ln : n0 ≤ ln := (show @LE.le Nat _ n0 ln by omega)
  have g_lc : n0 ≤ lc := (show @LE.le Nat _ n0 lc by omega)
  have g_ja : n0 ≤ ja := (show @LE.le Nat _ n0 ja by omega)
  have g_sa : n0 ≤ sa := (show @LE.le Nat _ n0 sa by omega)
  have g_va : n0 ≤ va := (show @LE.le Nat _ n0 va by omega)
  have g_jc : n0 ≤ jc := (show @LE.le Nat _ n0 jc by omega)
  refine own_on (B := s₁.setTop (mkF m 1 #[rv u0, dw d1, sn, un, un, un, un] [(.double d1)])) (fun tz kz => ?_) ?_
  · show sT p e below s₁ (mkF m 0 #[rv u0, dw d1, sn, un, un, un, un] []) tz
    refine XS.dloadN X0.here hx rfl (hb hby own_d12_0) rfl ?_
    exact kz
  obtain ⟨vq21, X21, st21⟩ := X0.doubleToRawLongBits hx hown (mvT hZ (own_w hw 82 rfl)) (mvT hZ (own_w hw 85 rfl)) (mvT hZ (own_w hw 83 rfl)) (mvT hZ (own_w hw 84 rfl)) (g := (mkF m 1 #[rv u0, dw d1, sn, un, un, un, un] [(.double d1)])) rfl (by rw [hml]; rfl) rfl (hb hby own_d12_1) (by decide) (by show 2 * 0 + 0 + (nativeFrameWords "java/lang/Double" "doubleToRawLongBits" 2 + 11) ≤ _; decide)
  obtain ⟨T21, eT21⟩ : ∃ t, t = s₁.setVm vq21 := ⟨_, rfl⟩
  rw [← eT21] at X21 st21
  have e21 : T21.heap = h0 := by rw [eT21]; exact e0
  refine own_on (B := T21.setTop (mkF m 4 #[rv u0, dw d1, sn, un, un, un, un] [(.long d1.toInt64)])) (fun tz kz => st21 _ kz) ?_
  refine own_on (B := T21.setTop (mkF m 6 #[rv u0, dw d1, sn, .val (.long d1.toInt64), sn, un, un] [(.ref u0)])) (fun tz kz => ?_) ?_
  · show sT p e below T21 (mkF m 4 #[rv u0, dw d1, sn, un, un, un, un] [(.long d1.toInt64)]) tz
    refine XS.lstoreN X21.here hx rfl (hb hby own_d12_4) rfl (l' := #[rv u0, dw d1, sn, .val (.long d1.toInt64), sn, un, un]) rfl ?_
    show sT p e below T21 (mkF m 5 #[rv u0, dw d1, sn, .val (.long d1.toInt64), sn, un, un] []) tz
    refine XS.aloadN X21.here hx rfl (hb hby own_d12_5) rfl rfl ?_
    exact kz
  obtain ⟨T22, X22, e22, st22⟩ := getF X21 hx hZ hown (host := "") (Or.inl (own_w hw 52 rfl)) Via.refl e21 Fd (g := (mkF m 6 #[rv u0, dw d1, sn, .val (.long d1.toInt64), sn, un, un] [(.ref u0)])) rfl rfl (hb hby own_d12_6)
  refine own_on (B := T22.setTop (mkF m 9 #[rv u0, dw d1, sn, .val (.long d1.toInt64), sn, un, un] [(.ref ln)])) (fun tz kz => st22 _ kz) ?_
  obtain ⟨cq23, kq23, q23a, q23b, q23c⟩ := isOf hZ e22 Eln
  obtain ⟨_, _, ⟨T23, L23, k23, n23⟩, -, X23, ⟨Lc23, hQ23, l23, y23, z23⟩, st23⟩ := X22.virtualBack hx (y := (⟨"com/example/vows_to_moves/vowstomoves/model/LongNumbering", "count", "()I"⟩ : MethodName)) (z := (⟨"com/example/vows_to_moves/vowstomoves/model/LongNumbering", "count", "()I"⟩ : MethodName)) hown (mvT hZ (own_w hw 86 rfl)) (mvT hZ (own_w hw 87 rfl)) (notFace_of_selects (args := #[]) (mvT hZ (own_w hw 89 rfl))) (mvT hZ (own_w hw 89 rfl)) (mvT hZ (own_w hw 88 rfl)) (by decide) (backOf (W := 0) (rm13 l Z a0 hw [] ln lc (3 : Int32) h0 n0 O0 Fk El Fs) hZ (own_w hw 90 rfl) (own_w hw 11 rfl) (by decide) (by decide)) q23a q23c (g := (mkF m 9 #[rv u0, dw d1, sn, .val (.long d1.toInt64), sn, un, un] [(.ref ln)])) rfl (by rw [hml]; rfl) (Steps.refl _) (argsL := []) (rest := []) (lenOf own_pd6 rfl) rfl (by show 2 * 0 + _ ≤ _; exact Nat.le_of_eq rfl) (hb hby own_d12_9) (fun _ _ => ⟨rfl, e22, (by decide : 0 + 0 ≤ _), (by decide : 0 + 0 ≤ _)⟩)
  dsimp only [Pt.U, Pt.locs, Pt.cells, Pt.slots] at X23 l23 y23 z23 st23 hQ23
  subst l23 y23 z23
  obtain ⟨rfl, Nq23, e23⟩ := hQ23
  have N23 := Fr.app N0 Nq23
  refine own_on (B := T23.setTop (mkF m 12 #[rv u0, dw d1, sn, .val (.long d1.toInt64), sn, un, un] [(.int 3)])) (fun tz kz => st23.trans kz) ?_
  refine own_on (B := T23.setTop (mkF m 15 #[rv u0, dw d1, sn, .val (.long d1.toInt64), sn, iv 3, un] [(.ref u0)])) (fun tz kz => ?_) ?_
  · show sT p e below T23 (mkF m 12 #[rv u0, dw d1, sn, .val (.long d1.toInt64), sn, un, un] [(.int 3)]) tz
    refine XS.istore X23.here hx rfl (hb hby own_d12_12) rfl (l' := #[rv u0, dw d1, sn, .val (.long d1.toInt64), sn, iv 3, un]) rfl ?_
    show sT p e below T23 (mkF m 14 #[rv u0, dw d1, sn, .val (.long d1.toInt64), sn, iv 3, un] []) tz
    refine XS.aloadN X23.here hx rfl (hb hby own_d12_14) rfl rfl ?_
    exact kz
  obtain ⟨T24, X24, e24, st24⟩ := getF X23 hx hZ hown (host := "") (Or.inl (own_w hw 52 rfl)) Via.refl e23 Fd (g := (mkF m 15 #[rv u0, dw d1, sn, .val (.long d1.toInt64), sn, iv 3, un] [(.ref u0)])) rfl rfl (hb hby own_d12_15)
  refine own_on (B := T24.setTop (mkF m 18 #[rv u0, dw d1, sn, .val (.long d1.toInt64), sn, iv 3, un] [(.ref ln)])) (fun tz kz => st24 _ kz) ?_
  refine own_on (B := T24.setTop (mkF m 19 #[rv u0, dw d1, sn, .val (.long d1.toInt64), sn, iv 3, un] [(.long d1.toInt64), (.ref ln)])) (fun tz kz => ?_) ?_
  · show sT p e below T24 (mkF m 18 #[rv u0, dw d1, sn, .val (.long d1.toInt64), sn, iv 3, un] [(.ref ln)]) tz
    refine XS.lloadN X24.here hx rfl (hb hby own_d12_18) rfl ?_
    exact kz
  obtain ⟨cq25, kq25, q25a, q25b, q25c⟩ := isOf hZ e24 Eln
  obtain ⟨_, _, ⟨T25, L25, k25, n25⟩, -, X25, ⟨Lc25, hQ25, l25, y25, z25⟩, st25⟩ := X24.virtualBack hx (y := (⟨"com/example/vows_to_moves/vowstomoves/model/LongNumbering", "number", "(J)I"⟩ : MethodName)) (z := (⟨"com/example/vows_to_moves/vowstomoves/model/LongNumbering", "number", "(J)I"⟩ : MethodName)) hown (mvT hZ (own_w hw 98 rfl)) (mvT hZ (own_w hw 99 rfl)) (notFace_of_selects (args := #[]) (mvT hZ (own_w hw 101 rfl))) (mvT hZ (own_w hw 101 rfl)) (mvT hZ (own_w hw 100 rfl)) (by decide) (backOf (W := 0) (rm153 l Z a0 hw [] ln d1.toInt64 sa ks vs S lc ja kj jc kl v0 v1 v2 v3 h0 n0 O0 Eln g_ln Fk Fsl El Fc Fs Vj Vs hT Vl hS (by omega)) hZ (own_w hw 102 rfl) (own_w hw 11 rfl) (by decide) (by decide)) q25a q25c (g := (mkF m 19 #[rv u0, dw d1, sn, .val (.long d1.toInt64), sn, iv 3, un] [(.long d1.toInt64), (.ref ln)])) rfl (by rw [hml]; rfl) (Steps.refl _) (argsL := [(.long d1.toInt64)]) (rest := []) (lenOf own_pd10 rfl) rfl (by show 2 * 0 + _ ≤ _; exact Nat.le_of_eq rfl) (hb hby own_d12_19) (fun _ _ => ⟨rfl, e24, (by decide : 0 + 0 ≤ _), (by decide : 0 + 0 ≤ _)⟩)
  dsimp only [Pt.U, Pt.locs, Pt.cells, Pt.slots] at X25 l25 y25 z25 st25 hQ25
  subst l25 y25 z25
  obtain ⟨Nq25, D25⟩ := hQ25
  have N25 := Fr.app N23 Nq25
  rcases D25 with ⟨i_, im, rfl, ik, eq25⟩ | ⟨rfl, Kq25, Fs25, Fc25, Vl25, vs25, j25, hT25, Va25⟩
  · refine own_on (B := T25.setTop (mkF m 22 #[rv u0, dw d1, sn, .val (.long d1.toInt64), sn, iv 3, un] [(.int i_.toInt32)])) (fun tz kz => st25.trans kz) ?_
    refine own_on (B := T25.setTop (mkF m 33 #[rv u0, dw d1, sn, .val (.long d1.toInt64), sn, iv 3, iv i_.toInt32] [(.int i_.toInt32)])) (fun tz kz => ?_) ?_
    · show sT p e below T25 (mkF m 22 #[rv u0, dw d1, sn, .val (.long d1.toInt64), sn, iv 3, un] [(.int i_.toInt32)]) tz
      refine XS.istore X25.here hx rfl (hb hby own_d12_22) rfl (l' := #[rv u0, dw d1, sn, .val (.long d1.toInt64), sn, iv 3, iv i_.toInt32]) rfl ?_
      show sT p e below T25 (mkF m 24 #[rv u0, dw d1, sn, .val (.long d1.toInt64), sn, iv 3, iv i_.toInt32] []) tz
      refine XS.iload X25.here hx rfl (hb hby own_d12_24) rfl ?_
      show sT p e below T25 (mkF m 26 #[rv u0, dw d1, sn, .val (.long d1.toInt64), sn, iv 3, iv i_.toInt32] [(.int i_.toInt32)]) tz
      refine XS.iload X25.here hx rfl (hb hby own_d12_26) rfl ?_
      show sT p e below T25 (mkF m 28 #[rv u0, dw d1, sn, .val (.long d1.toInt64), sn, iv 3, iv i_.toInt32] [(.int 3), (.int i_.toInt32)]) tz
      refine XS.icmpNo X25.here hx rfl (hb hby own_d12_28) rfl (tlt (own_ix im (by decide)).2.2.2.2).2.1 ?_
      show sT p e below T25 (mkF m 31 #[rv u0, dw d1, sn, .val (.long d1.toInt64), sn, iv 3, iv i_.toInt32] []) tz
      refine XS.iload X25.here hx rfl (hb hby own_d12_31) rfl ?_
      exact kz
    obtain ⟨fs, hr, hrun, hended, hW, hsame⟩ := X25.leave (v := some (.int i_.toInt32)) (fun h => by rw [Bd.returns] at h; cases h)
    refine own_of ⟨_, _, ?_, hrun, hended, _, _, rfl, ?_, ⟨_, rfl⟩, hW, hsame.mono (by decide) (by decide)⟩
    · show sT p e below T25 (mkF m 33 #[rv u0, dw d1, sn, .val (.long d1.toInt64), sn, iv 3, iv i_.toInt32] [(.int i_.toInt32)]) _
      exact own_retI X25 hx Bd.returns (hb hby own_d12_33) hr
    · show Q123 Z u0 d1 ln lc ja sa va kj ks kv vs S jc kl v0 v1 v2 v3 h0 n0 _ T25.heap _
      rw [eq25]
      exact ⟨3, i_, v0, v1, v2, v3, vs, S, rfl, N25, (Keep.refl h0 [lc, jc, sa, va]), im, Nat.le_refl _, Nat.le_succ _, own_bits ik, fun _ _ => rfl, hT, hS, Fs, Fc, Vs, Vv, Vl⟩
  · have O26 := O0.keep Kq25 (allS g_lc (allS g_jc (allS g_sa all0)))
    have K26 : Keep h0 T25.heap [lc, jc, sa, va] := (Keep.refl h0 [lc, jc, sa, va]).trans Kq25 (allS (Or.inl (List.mem_of_getElem? (i := 0) rfl)) (allS (Or.inl (List.mem_of_getElem? (i := 1) rfl)) (allS (Or.inl (List.mem_of_getElem? (i := 2) rfl)) all0)))
    refine own_on (B := T25.setTop (mkF m 22 #[rv u0, dw d1, sn, .val (.long d1.toInt64), sn, iv 3, un] [(.int 3)])) (fun tz kz => st25.trans kz) ?_
    refine own_on (B := T25.setTop (mkF m 46 #[rv u0, dw d1, sn, .val (.long d1.toInt64), sn, iv 3, iv 3] [(.ref u0), (.int 3)])) (fun tz kz => ?_) ?_
    · show sT p e below T25 (mkF m 22 #[rv u0, dw d1, sn, .val (.long d1.toInt64), sn, iv 3, un] [(.int 3)]) tz
      refine XS.istore X25.here hx rfl (hb hby own_d12_22) rfl (l' := #[rv u0, dw d1, sn, .val (.long d1.toInt64), sn, iv 3, iv 3]) rfl ?_
      show sT p e below T25 (mkF m 24 #[rv u0, dw d1, sn, .val (.long d1.toInt64), sn, iv 3, iv 3] []) tz
      refine XS.iload X25.here hx rfl (hb hby own_d12_24) rfl ?_
      show sT p e below T25 (mkF m 26 #[rv u0, dw d1, sn, .val (.long d1.toInt64), sn, iv 3, iv 3] [(.int 3)]) tz
      refine XS.iload X25.here hx rfl (hb hby own_d12_26) rfl ?_
      show sT p e below T25 (mkF m 28 #[rv u0, dw d1, sn, .val (.long d1.toInt64), sn, iv 3, iv 3] [(.int 3), (.int 3)]) tz
      refine XS.icmpYes X25.here hx rfl (pc0 := 28) (pc' := 34) rfl (hb hby own_d12_28) rfl (flt Int32.lt_irrefl).2.1 (by decide) (by decide) ?_
      show sT p e below T25 (mkF m 34 #[rv u0, dw d1, sn, .val (.long d1.toInt64), sn, iv 3, iv 3] []) tz
      refine XS.iload X25.here hx rfl (hb hby own_d12_34) rfl ?_
      show sT p e below T25 (mkF m 36 #[rv u0, dw d1, sn, .val (.long d1.toInt64), sn, iv 3, iv 3] [(.int 3)]) tz
      refine X25.ldcInt hx hown (mvT hZ (own_w hw 125 rfl)) (g := (mkF m 36 #[rv u0, dw d1, sn, .val (.long d1.toInt64), sn, iv 3, iv 3] [(.int 3)])) rfl (hb hby own_d12_36) _ ?_
      show sT p e below T25 (mkF m 38 #[rv u0, dw d1, sn, .val (.long d1.toInt64), sn, iv 3, iv 3] [(.int 65536), (.int 3)]) tz
      refine XS.icmpYes X25.here hx rfl (pc0 := 38) (pc' := 43) rfl (hb hby own_d12_38) rfl (feq (by decide : ¬ ((3 : Int32) = (65536 : Int32)))).2 (by decide) (by decide) ?_
      show sT p e below T25 (mkF m 43 #[rv u0, dw d1, sn, .val (.long d1.toInt64), sn, iv 3, iv 3] []) tz
      refine XS.iload X25.here hx rfl (hb hby own_d12_43) rfl ?_
      show sT p e below T25 (mkF m 45 #[rv u0, dw d1, sn, .val (.long d1.toInt64), sn, iv 3, iv 3] [(.int 3)]) tz
      refine XS.aloadN X25.here hx rfl (hb hby own_d12_45) rfl rfl ?_
      exact kz
    have f_27 := (Fv.keep Kq25 (ninS ne_u0_lc (ninS ne_u0_jc (ninS ne_u0_sa nin0))))
    obtain ⟨T28, X28, e28, st28⟩ := getF X25 hx hZ hown (host := "") (Or.inl (own_w hw 55 rfl)) Via.refl rfl f_27 (g := (mkF m 46 #[rv u0, dw d1, sn, .val (.long d1.toInt64), sn, iv 3, iv 3] [(.ref u0), (.int 3)])) rfl rfl (hb hby own_d12_46)
    refine own_on (B := T28.setTop (mkF m 49 #[rv u0, dw d1, sn, .val (.long d1.toInt64), sn, iv 3, iv 3] [(.ref va), (.int 3)])) (fun tz kz => st28 _ kz) ?_
    have f_29 := (Vv.keep Kq25 (ninS (Ne.symm ne_lc_va) (ninS ne_va_jc (ninS (Ne.symm ne_sa_va) nin0))))
    obtain ⟨cl30, Ar30, q30, S30, M30, H30, G30⟩ := id f_29
    refine own_on (B := T28.setTop (mkF m 72 #[rv u0, dw d1, sn, .val (.long d1.toInt64), sn, iv 3, iv 3] [(.ref u0)])) (fun tz kz => ?_) ?_
    · show sT p e below T28 (mkF m 49 #[rv u0, dw d1, sn, .val (.long d1.toInt64), sn, iv 3, iv 3] [(.ref va), (.int 3)]) tz
      refine X28.arraylength hx (by rw [e28]; exact Ar30.1) (State.isArrayOf_alike hZ.alike Ar30.2.1) (g := (mkF m 49 #[rv u0, dw d1, sn, .val (.long d1.toInt64), sn, iv 3, iv 3] [(.ref va), (.int 3)])) rfl rfl (hb hby own_d12_49) _ ?_
      rw [len_of S30 M30]
      show sT p e below T28 (mkF m 50 #[rv u0, dw d1, sn, .val (.long d1.toInt64), sn, iv 3, iv 3] [(.int 16), (.int 3)]) tz
      refine XS.icmpYes X28.here hx rfl (pc0 := 50) (pc' := 71) rfl (hb hby own_d12_50) rfl (feq (by decide : ¬ ((3 : Int32) = (16 : Int32)))).2 (by decide) (by decide) ?_
      show sT p e below T28 (mkF m 71 #[rv u0, dw d1, sn, .val (.long d1.toInt64), sn, iv 3, iv 3] []) tz
      refine XS.aloadN X28.here hx rfl (hb hby own_d12_71) rfl rfl ?_
      exact kz
    obtain ⟨T31, X31, e31, st31⟩ := getF X28 hx hZ hown (host := "") (Or.inl (own_w hw 55 rfl)) Via.refl e28 f_27 (g := (mkF m 72 #[rv u0, dw d1, sn, .val (.long d1.toInt64), sn, iv 3, iv 3] [(.ref u0)])) rfl rfl (hb hby own_d12_72)
    refine own_on (B := T31.setTop (mkF m 75 #[rv u0, dw d1, sn, .val (.long d1.toInt64), sn, iv 3, iv 3] [(.ref va)])) (fun tz kz => st31 _ kz) ?_
    refine own_on (B := T31.setTop (mkF m 78 #[rv u0, dw d1, sn, .val (.long d1.toInt64), sn, iv 3, iv 3] [(.double d1), (.int 3), (.ref va)])) (fun tz kz => ?_) ?_
    · show sT p e below T31 (mkF m 75 #[rv u0, dw d1, sn, .val (.long d1.toInt64), sn, iv 3, iv 3] [(.ref va)]) tz
      refine XS.iload X31.here hx rfl (hb hby own_d12_75) rfl ?_
      show sT p e below T31 (mkF m 77 #[rv u0, dw d1, sn, .val (.long d1.toInt64), sn, iv 3, iv 3] [(.int 3), (.ref va)]) tz
      refine XS.dloadN X31.here hx rfl (hb hby own_d12_77) rfl ?_
      exact kz
    obtain ⟨cl32, Ar32, q32, S32, M32, H32, G32⟩ := id f_29
    have hin33 : ¬ ((3 : Int32) < 0 ∨ cl32.slots.size ≤ ((3 : Int32)).toNatClampNeg) := inb_of S32 ⟨by decide, by decide⟩
    obtain ⟨T33, h33, X33, e33, W33, st33⟩ := stD X31 hx hZ e31 Ar32 (j := (3 : Int32)) hin33 (g := (mkF m 78 #[rv u0, dw d1, sn, .val (.long d1.toInt64), sn, iv 3, iv 3] [(.double d1), (.int 3), (.ref va)])) rfl rfl (hb hby own_d12_78)
    have V33 : Arv Z h33 va kv .double (16 : Int32) [(.double v0), (.double v1), (.double v2), (.double d1)] (.double 0) := Arv.set Ar32 q32 S32 M32 H32 G32 rfl W33 3 rfl (Nat.le_of_ble_eq_true rfl)
    have N33 := Fr.snoc X33 N25 g_va
    have O34 := O26.wr W33 g_va
    have K34 : Keep h0 h33 [lc, jc, sa, va] := K26.wr W33 (Or.inl (List.mem_of_getElem? (i := 3) rfl))
    refine own_on (B := T33.setTop (mkF m 79 #[rv u0, dw d1, sn, .val (.long d1.toInt64), sn, iv 3, iv 3] [])) (fun tz kz => st33 _ kz) ?_
    have f_35 := (Fs25.other W33 (Or.inl ne_lc_va))
    have f_36 := (Fc25.other W33 (Or.inl ne_lc_va))
    have f_37 := (Va25.other W33 ne_sa_va)
    have f_38 := (Vl25.other W33 (Ne.symm ne_va_jc))
    refine own_on (B := T33.setTop (mkF m 81 #[rv u0, dw d1, sn, .val (.long d1.toInt64), sn, iv 3, iv 3] [(.int 3)])) (fun tz kz => ?_) ?_
    · show sT p e below T33 (mkF m 79 #[rv u0, dw d1, sn, .val (.long d1.toInt64), sn, iv 3, iv 3] []) tz
      refine XS.iload X33.here hx rfl (hb hby own_d12_79) rfl ?_
      exact kz
    obtain ⟨fs, hr, hrun, hended, hW, hsame⟩ := X33.leave (v := some (.int (3 : Int32))) (fun h => by rw [Bd.returns] at h; cases h)
    refine own_of ⟨_, _, ?_, hrun, hended, _, _, rfl, ?_, ⟨_, rfl⟩, hW, hsame.mono (by decide) (by decide)⟩
    · show sT p e below T33 (mkF m 81 #[rv u0, dw d1, sn, .val (.long d1.toInt64), sn, iv 3, iv 3] [(.int 3)]) _
      exact own_retI X33 hx Bd.returns (hb hby own_d12_81) hr
    · show Q123 Z u0 d1 ln lc ja sa va kj ks kv vs S jc kl v0 v1 v2 v3 h0 n0 _ T33.heap _
      rw [e33]
      exact ⟨4, 3, v0, v1, v2, d1, vs25, _, rfl, N33, K34, Nat.lt_succ_self _, Nat.le_succ _, Nat.le_refl _, rfl, (fun | 0, _ => rfl | 1, _ => rfl | 2, _ => rfl | n + 3, h => absurd h (by omega)), hT25, Nat.succ_le_succ hS, f_35, f_36, f_37, V33, f_38⟩
theorem own_ef_12j (m : MethodId) (x0 : Addr) (x1 : UInt64) : entryFrame m #[(.ref x0), (.double x1)] 7 = mkF m 0 #[rv x0, dw x1, .second, .unset, .unset, .unset, .unset] [] := by first | (simp [entryFrame, mkF, argsToLocals, Value.category]; done) | rfl
def Q12j (Z : State) (u0 : Addr) (d1 : UInt64) (ln : Addr) (lc : Addr) (ja : Addr) (sa : Addr) (va : Addr) (kj : ClassId) (ks : ClassId) (kv : ClassId) (vs : List Value) (S : List Nat) (jc : Addr) (kl : ClassId) (v0 : UInt64) (v1 : UInt64) (v2 : UInt64) (v3 : UInt64) (mm : Nat) (h0 : Heap) (n0 : Nat) (v : Option Value) (h : Heap) (L : List Loc) : Prop := ∃ (m' i : Nat) (w0 w1 w2 w3 : UInt64) (vs' : List Value) (S' : List Nat), v = some (.int i.toInt32) ∧ Fr n0 L ∧ Keep h0 h [lc, jc, sa, va] ∧ i < m' ∧ mm ≤ m' ∧ m' ≤ mm + 1 ∧ [w0, w1, w2, w3].getD i 0 = d1 ∧ (∀ k, k < mm → [w0, w1, w2, w3].getD k 0 = [v0, v1, v2, v3].getD k 0) ∧ OwnTab vs' m' S' ∧ S'.length ≤ m' ∧ Fld Z h lc "com/example/vows_to_moves/vowstomoves/model/LongColumn" "size" "I" (.int m'.toInt32) ∧ Fld Z h lc "com/example/vows_to_moves/vowstomoves/model/LongColumn" "chunks" "[[J" (.ref ja) ∧ Arv Z h sa ks .int (32 : Int32) vs' (.int 0) ∧ Arv Z h va kv .double (16 : Int32) [(.double w0), (.double w1), (.double w2), (.double w3)] (.double 0) ∧ Arv Z h jc kl .long (32768 : Int32) [(.long w0.toInt64), (.long w1.toInt64), (.long w2.toInt64), (.long w3.toInt64)] (.long 0)
set_option maxRecDepth 65536 in
set_option maxHeartbeats 40000000 in
theorem rm12j (l : Launch) (Z : State) (a0 : Array Value) (hw : ∀ d ∈ tables_1, d.before a0 Z = true) (ws : List Jvm.Cond) (u0 : Addr) (d1 : UInt64) (ln : Addr) (lc : Addr) (ja : Addr) (sa : Addr) (va : Addr) (kj : ClassId) (ks : ClassId) (kv : ClassId) (vs : List Value) (S : List Nat) (jc : Addr) (kl : ClassId) (v0 : UInt64) (v1 : UInt64) (v2 : UInt64) (v3 : UInt64) (mm : Nat) (h0 : Heap) (n0 : Nat) (O0 : Old Z n0 h0) (E_u0 : Exa Z h0 u0 "com/example/vows_to_moves/vowstomoves/model/DoubleColumn") (g_u0 : n0 ≤ u0) (Fd : Fld Z h0 u0 "com/example/vows_to_moves/vowstomoves/model/DoubleColumn" "distinct" "Lcom/example/vows_to_moves/vowstomoves/model/LongNumbering;" (.ref ln)) (Fv : Fld Z h0 u0 "com/example/vows_to_moves/vowstomoves/model/DoubleColumn" "values" "[D" (.ref va)) (Eln : Exa Z h0 ln "com/example/vows_to_moves/vowstomoves/model/LongNumbering") (Fk : Fld Z h0 ln "com/example/vows_to_moves/vowstomoves/model/LongNumbering" "keys" "Lcom/example/vows_to_moves/vowstomoves/model/LongColumn;" (.ref lc)) (Fsl : Fld Z h0 ln "com/example/vows_to_moves/vowstomoves/model/LongNumbering" "slots" "[I" (.ref sa)) (El : Exa Z h0 lc "com/example/vows_to_moves/vowstomoves/model/LongColumn") (Fc : Fld Z h0 lc "com/example/vows_to_moves/vowstomoves/model/LongColumn" "chunks" "[[J" (.ref ja)) (Fs : Fld Z h0 lc "com/example/vows_to_moves/vowstomoves/model/LongColumn" "size" "I" (.int mm.toInt32)) (Vj : Arv Z h0 ja kj (.array .long) (4 : Int32) [(.ref jc), .null, .null, .null] .null) (Vs : Arv Z h0 sa ks .int (32 : Int32) vs (.int 0)) (Vv : Arv Z h0 va kv .double (16 : Int32) [(.double v0), (.double v1), (.double v2), (.double v3)] (.double 0)) (Vl : Arv Z h0 jc kl .long (32768 : Int32) [(.long v0.toInt64), (.long v1.toInt64), (.long v2.toInt64), (.long v3.toInt64)] (.long 0)) (hT : OwnTab vs mm S) (hS : S.length ≤ mm) (o1 : @LT.lt Nat _ u0 ln ∧ @LT.lt Nat _ ln lc ∧ @LT.lt Nat _ lc ja ∧ @LT.lt Nat _ ja sa ∧ @LT.lt Nat _ sa va ∧ @LT.lt Nat _ va jc) (h1_ : 1 ≤ mm) (h3_ : mm ≤ 3) :
    MetFree l (⟨"com/example/vows_to_moves/vowstomoves/model/DoubleColumn", "code", "(D)I"⟩ : MethodName) (head1 (Jvm.Cond.code (⟨"com/example/vows_to_moves/vowstomoves/model/DoubleColumn", "code", "(D)I"⟩ : MethodName) prog_72_method_7_code 7 (some .int) :: ws) ({ frames := 3, cells := 0, slots := 0, locals := 60 } : Room)) (fun a U => a = #[(.ref u0), (.double d1)] ∧ Z.Warmed39 U.vm ∧ U.heap = h0) (fun _ _ _ _ _ => True) (fun _ U o U' => ∃ v L, o = .returned v ∧ Q12j Z u0 d1 ln lc ja sa va kj ks kv vs S jc kl v0 v1 v2 v3 mm h0 n0 v U'.heap L ∧ FrameEnd U o U' L ({ frames := 3, cells := 0, slots := 0, locals := 60 } : Room).cells ({ frames := 3, cells := 0, slots := 0, locals := 60 } : Room).slots) := by
  obtain rfl | rfl | rfl : mm = 1 ∨ mm = 2 ∨ mm = 3 := by omega
  · exact rm121 l Z a0 hw ws u0 d1 ln lc ja sa va kj ks kv vs S jc kl v0 v1 v2 v3 h0 n0 O0 E_u0 g_u0 Fd Fv Eln Fk Fsl El Fc Fs Vj Vs Vv Vl hT hS o1
  · exact rm122 l Z a0 hw ws u0 d1 ln lc ja sa va kj ks kv vs S jc kl v0 v1 v2 v3 h0 n0 O0 E_u0 g_u0 Fd Fv Eln Fk Fsl El Fc Fs Vj Vs Vv Vl hT hS o1
  · exact rm123 l Z a0 hw ws u0 d1 ln lc ja sa va kj ks kv vs S jc kl v0 v1 v2 v3 h0 n0 O0 E_u0 g_u0 Fd Fv Eln Fk Fsl El Fc Fs Vj Vs Vv Vl hT hS o1
def OwnD (Z : State) (h : Heap) (n0 : Nat) (u0 : Addr) (n : Int32) (x0 x1 x2 : UInt64) (B : Nat) : Prop := ∃ (ln lc ja sa va ca cc jc : Addr) (kj ks kv kc kk kl : ClassId) (vs : List Value) (S : List Nat) (v0 v1 v2 v3 : UInt64) (f0 f1 f2 mm : Nat), (1 ≤ mm ∧ mm ≤ B) ∧ (f0 < mm ∧ f1 < mm ∧ f2 < mm) ∧ (([v0, v1, v2, v3].getD f0 0) = x0 ∧ ([v0, v1, v2, v3].getD f1 0) = x1 ∧ ([v0, v1, v2, v3].getD f2 0) = x2) ∧ (@LT.lt Nat _ u0 ln ∧ @LT.lt Nat _ ln lc ∧ @LT.lt Nat _ lc ja ∧ @LT.lt Nat _ ja sa ∧ @LT.lt Nat _ sa va ∧ @LT.lt Nat _ va ca ∧ @LT.lt Nat _ ca cc ∧ @LT.lt Nat _ cc jc) ∧ n0 ≤ u0 ∧ Exa Z h u0 "com/example/vows_to_moves/vowstomoves/model/DoubleColumn" ∧ Fld Z h u0 "com/example/vows_to_moves/vowstomoves/model/DoubleColumn" "distinct" "Lcom/example/vows_to_moves/vowstomoves/model/LongNumbering;" (.ref ln) ∧ Fld Z h u0 "com/example/vows_to_moves/vowstomoves/model/DoubleColumn" "values" "[D" (.ref va) ∧ Fld Z h u0 "com/example/vows_to_moves/vowstomoves/model/DoubleColumn" "codes" "[[C" (.ref ca) ∧ Fld Z h u0 "com/example/vows_to_moves/vowstomoves/model/DoubleColumn" "plain" "[[D" .null ∧ Fld Z h u0 "com/example/vows_to_moves/vowstomoves/model/DoubleColumn" "size" "I" (.int n) ∧ Exa Z h ln "com/example/vows_to_moves/vowstomoves/model/LongNumbering" ∧ Fld Z h ln "com/example/vows_to_moves/vowstomoves/model/LongNumbering" "keys" "Lcom/example/vows_to_moves/vowstomoves/model/LongColumn;" (.ref lc) ∧ Fld Z h ln "com/example/vows_to_moves/vowstomoves/model/LongNumbering" "slots" "[I" (.ref sa) ∧ Exa Z h lc "com/example/vows_to_moves/vowstomoves/model/LongColumn" ∧ Fld Z h lc "com/example/vows_to_moves/vowstomoves/model/LongColumn" "chunks" "[[J" (.ref ja) ∧ Fld Z h lc "com/example/vows_to_moves/vowstomoves/model/LongColumn" "size" "I" (.int mm.toInt32) ∧ Arv Z h ja kj (.array .long) (4 : Int32) [(.ref jc), .null, .null, .null] .null ∧ Arv Z h sa ks .int (32 : Int32) vs (.int 0) ∧ Arv Z h va kv .double (16 : Int32) [(.double v0), (.double v1), (.double v2), (.double v3)] (.double 0) ∧ Arv Z h ca kc (.array .char) (4 : Int32) [(.ref cc), .null, .null, .null] .null ∧ Arv Z h cc kk .char (32768 : Int32) [(.int f0.toInt32), (.int f1.toInt32), (.int f2.toInt32)] (.int 0) ∧ Arv Z h jc kl .long (32768 : Int32) [(.long v0.toInt64), (.long v1.toInt64), (.long v2.toInt64), (.long v3.toInt64)] (.long 0) ∧ OwnTab vs mm S ∧ S.length ≤ mm
theorem own_ef_110 (m : MethodId) (x0 : Addr) (x1 : Int32) (x2 : UInt64) : entryFrame m #[(.ref x0), (.int x1), (.double x2)] 6 = mkF m 0 #[rv x0, iv x1, dw x2, .second, .unset, .unset] [] := by first | (simp [entryFrame, mkF, argsToLocals, Value.category]; done) | rfl
def Q110 (Z : State) (u0 : Addr) (dd : UInt64) (n : Int32) (x0 : UInt64) (x1 : UInt64) (x2 : UInt64) (B : Nat) (h0 : Heap) (n0 : Nat) (v : Option Value) (h : Heap) (L : List Loc) : Prop := v = none ∧ Fr n0 L ∧ Old Z n0 h ∧ OwnD Z h n0 u0 n dd x1 x2 (B + 1)
theorem own_d11_0 : decode prog_72_method_4_code 0 = .ok (.iload_n 1, 1) := by decide +kernel
theorem own_d11_1 : decode prog_72_method_4_code 1 = .ok (.bipush 15, 2) := by decide +kernel
theorem own_d11_3 : decode prog_72_method_4_code 3 = .ok (.iushr, 1) := by decide +kernel
theorem own_d11_4 : decode prog_72_method_4_code 4 = .ok (.istore 4, 2) := by decide +kernel
theorem own_d11_6 : decode prog_72_method_4_code 6 = .ok (.aload_n 0, 1) := by decide +kernel
theorem own_d11_7 : decode prog_72_method_4_code 7 = .ok (.getfield 36, 3) := by decide +kernel
theorem own_d11_10 : decode prog_72_method_4_code 10 = .ok (.ifnonnull 11, 3) := by decide +kernel
theorem own_d11_13 : decode prog_72_method_4_code 13 = .ok (.aload_n 0, 1) := by decide +kernel
theorem own_d11_14 : decode prog_72_method_4_code 14 = .ok (.dload_n 2, 1) := by decide +kernel
theorem own_pd11 : parseMethodDescriptor "(D)I" = some ⟨[.double], some .int⟩ := by decide +kernel
theorem own_d11_15 : decode prog_72_method_4_code 15 = .ok (.invokevirtual 40, 3) := by decide +kernel
theorem own_d11_18 : decode prog_72_method_4_code 18 = .ok (.goto 4, 3) := by decide +kernel
theorem own_d11_22 : decode prog_72_method_4_code 22 = .ok (.istore 5, 2) := by decide +kernel
theorem own_d11_24 : decode prog_72_method_4_code 24 = .ok (.iload 5, 2) := by decide +kernel
theorem own_d11_26 : decode prog_72_method_4_code 26 = .ok (.ifCond .lt 20, 3) := by decide +kernel
theorem own_d11_29 : decode prog_72_method_4_code 29 = .ok (.aload_n 0, 1) := by decide +kernel
theorem own_d11_30 : decode prog_72_method_4_code 30 = .ok (.getfield 26, 3) := by decide +kernel
theorem own_d11_33 : decode prog_72_method_4_code 33 = .ok (.iload 4, 2) := by decide +kernel
theorem own_d11_35 : decode prog_72_method_4_code 35 = .ok (.aaload, 1) := by decide +kernel
theorem own_d11_36 : decode prog_72_method_4_code 36 = .ok (.iload_n 1, 1) := by decide +kernel
theorem own_d11_37 : decode prog_72_method_4_code 37 = .ok (.sipush 32767, 3) := by decide +kernel
theorem own_d11_40 : decode prog_72_method_4_code 40 = .ok (.iand, 1) := by decide +kernel
theorem own_d11_41 : decode prog_72_method_4_code 41 = .ok (.iload 5, 2) := by decide +kernel
theorem own_d11_43 : decode prog_72_method_4_code 43 = .ok (.i2c, 1) := by decide +kernel
theorem own_d11_44 : decode prog_72_method_4_code 44 = .ok (.castore, 1) := by decide +kernel
theorem own_d11_45 : decode prog_72_method_4_code 45 = .ok (.return_, 1) := by decide +kernel
set_option maxRecDepth 65536 in
set_option maxHeartbeats 40000000 in
theorem rm110 (l : Launch) (Z : State) (a0 : Array Value) (hw : ∀ d ∈ tables_1, d.before a0 Z = true) (ws : List Jvm.Cond) (u0 : Addr) (dd : UInt64) (n : Int32) (x0 : UInt64) (x1 : UInt64) (x2 : UInt64) (B : Nat) (h0 : Heap) (n0 : Nat) (O0 : Old Z n0 h0) (hD : OwnD Z h0 n0 u0 n x0 x1 x2 B) (hB3 : B ≤ 3) :
    MetFree l (⟨"com/example/vows_to_moves/vowstomoves/model/DoubleColumn", "set", "(ID)V"⟩ : MethodName) (head1 (Jvm.Cond.code (⟨"com/example/vows_to_moves/vowstomoves/model/DoubleColumn", "set", "(ID)V"⟩ : MethodName) prog_72_method_4_code 6 none :: ws) ({ frames := 4, cells := 0, slots := 0, locals := 84 } : Room)) (fun a U => a = #[(.ref u0), (.int (0 : Int32)), (.double dd)] ∧ Z.Warmed39 U.vm ∧ U.heap = h0) (fun _ _ _ _ _ => True) (fun _ U o U' => ∃ v L, o = .returned v ∧ Q110 Z u0 dd n x0 x1 x2 B h0 n0 v U'.heap L ∧ FrameEnd U o U' L ({ frames := 4, cells := 0, slots := 0, locals := 84 } : Room).cells ({ frames := 4, cells := 0, slots := 0, locals := 84 } : Room).slots) := by
  refine MetFree.of_bodySF (plainFor_of_name own_pn_com_example_vows_to_moves_vowstomoves_model_DoubleColumn) hisR ?_
  intro p e s m args below meth c s₁ Bd hml0 hP hK
  obtain ⟨rfl, hZ, hh⟩ := hP
  have hx := Bd.exec
  have hby := Bd.bytes
  have hml : c.maxLocals = 6 := hml0
  have hown : s.vm.findClass "com/example/vows_to_moves/vowstomoves/model/DoubleColumn" = some m.cls := findClass_of_methodNamed Bd.named
  have hnm := (name_of_methodNamed Bd.named Bd.method).1
  have X0 : Stand p l e ({ frames := 4, cells := 0, slots := 0, locals := 84 } : Room) s m #[(.ref u0), (.int (0 : Int32)), (.double dd)] below meth c s₁ [] 0 0 := Stand.of_body Bd
  have e0 : s₁.heap = h0 := by rw [← hh, Bd.state]; rfl
  have N0 := Fr.nil n0
  change Go p.tables e below _ _
  refine own_on (B := s₁.setTop (mkF m 0 #[rv u0, iv 0, dw dd, sn, un, un] [])) (fun tz kz => castTop (own_ef_110 m u0 (0 : Int32) dd) kz) ?_
  obtain ⟨ln, lc, ja, sa, va, ca, cc, jc, kj, ks, kv, kc, kk, kl, vs, S, v0, v1, v2, v3, f0, f1, f2, mm, ⟨h1_, hB_⟩, ⟨m0_, m1_, m2_⟩, ⟨y0_, y1_, y2_⟩, o1, g_u0, E_u0, Fd, Fv, Fo, Fp, Fn, Eln, Fk, Fsl, El, Fc, Fs, Vj, Vs, Vv, Va, Ve, Vl, hT, hS⟩ := hD
  have ne_u0_ln : u0 ≠ ln := Nat.ne_of_lt (show @LT.lt Nat _ u0 ln by omega)
  have ne_u0_lc : u0 ≠ lc := Nat.ne_of_lt (show @LT.lt Nat _ u0 lc by omega)
  have ne_u0_ja : u0 ≠ ja := Nat.ne_of_lt (show @LT.lt Nat _ u0 ja by omega)
  have ne_u0_sa : u0 ≠ sa := Nat.ne_of_lt (show @LT.lt Nat _ u0 sa by omega)
  have ne_u0_va : u0 ≠ va := Nat.ne_of_lt (show @LT.lt Nat _ u0 va by omega)
  have ne_u0_ca : u0 ≠ ca := Nat.ne_of_lt (show @LT.lt Nat _ u0 ca by omega)
  have ne_u0_cc : u0 ≠ cc := Nat.ne_of_lt (show @LT.lt Nat _ u0 cc by omega)
  have ne_u0_jc : u0 ≠ jc := Nat.ne_of_lt (show @LT.lt Nat _ u0 jc by omega)
  have ne_ln_lc : ln ≠ lc := Nat.ne_of_lt (show @LT.lt Nat _ ln lc by omega)
  have ne_ln_ja : ln ≠ ja := Nat.ne_of_lt (show @LT.lt Nat _ ln ja by omega)
  have ne_ln_sa : ln ≠ sa := Nat.ne_of_lt (show @LT.lt Nat _ ln sa by omega)
  have ne_ln_va : ln ≠ va := Nat.ne_of_lt (show @LT.lt Nat _ ln va by omega)
  have ne_ln_ca : ln ≠ ca := Nat.ne_of_lt (show @LT.lt Nat _ ln ca by omega)
  have ne_ln_cc : ln ≠ cc := Nat.ne_of_lt (show @LT.lt Nat _ ln cc by omega)
  have ne_ln_jc : ln ≠ jc := Nat.ne_of_lt (show @LT.lt Nat _ ln jc by omega)
  have ne_lc_ja : lc ≠ ja := Nat.ne_of_lt (show @LT.lt Nat _ lc ja by omega)
  have ne_lc_sa : lc ≠ sa := Nat.ne_of_lt (show @LT.lt Nat _ lc sa by omega)
  have ne_lc_va : lc ≠ va := Nat.ne_of_lt (show @LT.lt Nat _ lc va by omega)
  have ne_lc_ca : lc ≠ ca := Nat.ne_of_lt (show @LT.lt Nat _ lc ca by omega)
  have ne_lc_cc : lc ≠ cc := Nat.ne_of_lt (show @LT.lt Nat _ lc cc by omega)
  have ne_lc_jc : lc ≠ jc := Nat.ne_of_lt (show @LT.lt Nat _ lc jc by omega)
  have ne_ja_sa : ja ≠ sa := Nat.ne_of_lt (show @LT.lt Nat _ ja sa by omega)
  have ne_ja_va : ja ≠ va := Nat.ne_of_lt (show @LT.lt Nat _ ja va by omega)
  have ne_ja_ca : ja ≠ ca := Nat.ne_of_lt (show @LT.lt Nat _ ja ca by omega)
  have ne_ja_cc : ja ≠ cc := Nat.ne_of_lt (show @LT.lt Nat _ ja cc by omega)
  have ne_ja_jc : ja ≠ jc := Nat.ne_of_lt (show @LT.lt Nat _ ja jc by omega)
  have ne_sa_va : sa ≠ va := Nat.ne_of_lt (show @LT.lt Nat _ sa va by omega)
  have ne_sa_ca : sa ≠ ca := Nat.ne_of_lt (show @LT.lt Nat _ sa ca by omega)
  have ne_sa_cc : sa ≠ cc := Nat.ne_of_lt (show @LT.lt Nat _ sa cc by omega)
  have ne_sa_jc : sa ≠ jc := Nat.ne_of_lt (show @LT.lt Nat _ sa jc by omega)
  have ne_va_ca : va ≠ ca := Nat.ne_of_lt (show @LT.lt Nat _ va ca by omega)
  have ne_va_cc : va ≠ cc := Nat.ne_of_lt (show @LT.lt Nat _ va cc by omega)
  have ne_va_jc : va ≠ jc := Nat.ne_of_lt (show @LT.lt Nat _ va jc by omega)
  have ne_ca_cc : ca ≠ cc := Nat.ne_of_lt (show @LT.lt Nat _ ca cc by omega)
  have ne_ca_jc : ca ≠ jc := Nat.ne_of_lt (show @LT.lt Nat _ ca jc by omega)
  have ne_cc_jc : cc ≠ jc := Nat.ne_of_lt (show @LT.lt Nat _ cc jc by omega)
  have g_ln : n0 ≤ ln := (show @LE.le Nat _ n0 ln by omega)
  have g_lc : n0 ≤ lc := (show @LE.le Nat _ n0 lc by omega)
  have g_ja : n0 ≤ ja := (show @LE.le Nat _ n0 ja by omega)
  have g_sa : n0 ≤ sa := (show @LE.le Nat _ n0 sa by omega)
  have g_va : n0 ≤ va := (show @LE.le Nat _ n0 va by omega)
  have g_ca : n0 ≤ ca := (show @LE.le Nat _ n0 ca by omega)
  have g_cc : n0 ≤ cc := (show @LE.le Nat _ n0 cc by omega)
  have g_jc : n0 ≤ jc := (show @LE.le Nat _ n0 jc by omega)
  refine own_on (B := s₁.setTop (mkF m 7 #[rv u0, iv 0, dw dd, sn, iv 0, un] [(.ref u0)])) (fun tz kz => ?_) ?_
  · show sT p e below s₁ (mkF m 0 #[rv u0, iv 0, dw dd, sn, un, un] []) tz
    refine XS.iloadN X0.here hx rfl (hb hby own_d11_0) rfl ?_
    show sT p e below s₁ (mkF m 1 #[rv u0, iv 0, dw dd, sn, un, un] [(.int 0)]) tz
    refine XS.bipush X0.here hx rfl (hb hby own_d11_1) ?_
    show sT p e below s₁ (mkF m 3 #[rv u0, iv 0, dw dd, sn, un, un] [(.int 15), (.int 0)]) tz
    refine XS.iushr X0.here hx rfl (hb hby own_d11_3) rfl ?_
    show sT p e below s₁ (mkF m 4 #[rv u0, iv 0, dw dd, sn, un, un] [(.int 0)]) tz
    refine XS.istore X0.here hx rfl (hb hby own_d11_4) rfl (l' := #[rv u0, iv 0, dw dd, sn, iv 0, un]) rfl ?_
    show sT p e below s₁ (mkF m 6 #[rv u0, iv 0, dw dd, sn, iv 0, un] []) tz
    refine XS.aloadN X0.here hx rfl (hb hby own_d11_6) rfl rfl ?_
    exact kz
  obtain ⟨T21, X21, e21, st21⟩ := getF X0 hx hZ hown (host := "") (Or.inl (own_w hw 68 rfl)) Via.refl e0 Fp (g := (mkF m 7 #[rv u0, iv 0, dw dd, sn, iv 0, un] [(.ref u0)])) rfl rfl (hb hby own_d11_7)
  refine own_on (B := T21.setTop (mkF m 10 #[rv u0, iv 0, dw dd, sn, iv 0, un] [.null])) (fun tz kz => st21 _ kz) ?_
  refine own_on (B := T21.setTop (mkF m 15 #[rv u0, iv 0, dw dd, sn, iv 0, un] [(.double dd), (.ref u0)])) (fun tz kz => ?_) ?_
  · show sT p e below T21 (mkF m 10 #[rv u0, iv 0, dw dd, sn, iv 0, un] [.null]) tz
    refine XS.ifnonnullNo X21.here hx rfl (hb hby own_d11_10) rfl ?_
    show sT p e below T21 (mkF m 13 #[rv u0, iv 0, dw dd, sn, iv 0, un] []) tz
    refine XS.aloadN X21.here hx rfl (hb hby own_d11_13) rfl rfl ?_
    show sT p e below T21 (mkF m 14 #[rv u0, iv 0, dw dd, sn, iv 0, un] [(.ref u0)]) tz
    refine XS.dloadN X21.here hx rfl (hb hby own_d11_14) rfl ?_
    exact kz
  obtain ⟨cq22, q22, q22'⟩ := E_u0.cell
  obtain ⟨_, _, ⟨T22, L22, k22, n22⟩, -, X22, ⟨Lc22, hQ22, l22, y22, z22⟩, st22⟩ := X21.privateBack hx (y := (⟨"com/example/vows_to_moves/vowstomoves/model/DoubleColumn", "code", "(D)I"⟩ : MethodName)) hown (mvT hZ (own_w hw 78 rfl)) (mvT hZ (own_w hw 79 rfl)) (mvT hZ (own_psel (y := (⟨"com/example/vows_to_moves/vowstomoves/model/DoubleColumn", "code", "(D)I"⟩ : MethodName)) (C := "com/example/vows_to_moves/vowstomoves/model/DoubleColumn") rfl (own_w hw 1 rfl) (own_w hw 80 rfl) (own_w hw 79 rfl) (by decide))) (Cond.privateMethod_at (mvP hZ (own_w hw 80 rfl) (args := #[]))) (mvT hZ (own_w hw 81 rfl)) (by decide) (backOf (W := 0) (rm12j l Z a0 hw [] u0 dd ln lc ja sa va kj ks kv vs S jc kl v0 v1 v2 v3 mm h0 n0 O0 E_u0 g_u0 Fd Fv Eln Fk Fsl El Fc Fs Vj Vs Vv Vl hT hS (by omega) h1_ (Nat.le_trans hB_ hB3)) hZ (own_w hw 81 rfl) (own_w hw 2 rfl) (by decide) (by decide)) (g := (mkF m 15 #[rv u0, iv 0, dw dd, sn, iv 0, un] [(.double dd), (.ref u0)])) rfl (by rw [hml]; rfl) (Steps.refl _) (a := u0) (by rw [e21]; exact q22) q22' (argsL := [(.double dd)]) (rest := []) (lenOf own_pd11 rfl) rfl (by show 2 * 0 + _ ≤ _; exact Nat.le_of_eq rfl) (hb hby own_d11_15) (fun _ _ => ⟨rfl, e21, (by decide : 0 + 0 ≤ _), (by decide : 0 + 0 ≤ _)⟩)
  dsimp only [Pt.U, Pt.locs, Pt.cells, Pt.slots] at X22 l22 y22 z22 st22 hQ22
  subst l22 y22 z22
  obtain ⟨mq, iq, w0, w1, w2, w3, vsq, Sq, rfl, Nq22, Kq22, iq1, iq2, iq3, iq4, iq5, hTq, hSq, Fs22, Fc22, Vs22, Vv22, Vl22⟩ := hQ22
  have N22 := Fr.app N0 Nq22
  have O23 := O0.keep Kq22 (allS g_lc (allS g_jc (allS g_sa (allS g_va all0))))
  have K23 : Keep h0 T22.heap [lc, jc, sa, va, cc] := (Keep.refl h0 [lc, jc, sa, va, cc]).trans Kq22 (allS (Or.inl (List.mem_of_getElem? (i := 0) rfl)) (allS (Or.inl (List.mem_of_getElem? (i := 1) rfl)) (allS (Or.inl (List.mem_of_getElem? (i := 2) rfl)) (allS (Or.inl (List.mem_of_getElem? (i := 3) rfl)) all0))))
  refine own_on (B := T22.setTop (mkF m 18 #[rv u0, iv 0, dw dd, sn, iv 0, un] [(.int iq.toInt32)])) (fun tz kz => st22.trans kz) ?_
  have hq4 : mq ≤ 4 := by omega
  refine own_on (B := T22.setTop (mkF m 30 #[rv u0, iv 0, dw dd, sn, iv 0, iv iq.toInt32] [(.ref u0)])) (fun tz kz => ?_) ?_
  · show sT p e below T22 (mkF m 18 #[rv u0, iv 0, dw dd, sn, iv 0, un] [(.int iq.toInt32)]) tz
    refine XS.goto X22.here hx rfl (pc0 := 18) (pc' := 22) rfl (hb hby own_d11_18) (by decide) (by decide) ?_
    show sT p e below T22 (mkF m 22 #[rv u0, iv 0, dw dd, sn, iv 0, un] [(.int iq.toInt32)]) tz
    refine XS.istore X22.here hx rfl (hb hby own_d11_22) rfl (l' := #[rv u0, iv 0, dw dd, sn, iv 0, iv iq.toInt32]) rfl ?_
    show sT p e below T22 (mkF m 24 #[rv u0, iv 0, dw dd, sn, iv 0, iv iq.toInt32] []) tz
    refine XS.iload X22.here hx rfl (hb hby own_d11_24) rfl ?_
    show sT p e below T22 (mkF m 26 #[rv u0, iv 0, dw dd, sn, iv 0, iv iq.toInt32] [(.int iq.toInt32)]) tz
    refine XS.ifNo X22.here hx rfl (hb hby own_d11_26) rfl ((if0 _ _).trans (flt (own_ix iq1 hq4).1).1) ?_
    show sT p e below T22 (mkF m 29 #[rv u0, iv 0, dw dd, sn, iv 0, iv iq.toInt32] []) tz
    refine XS.aloadN X22.here hx rfl (hb hby own_d11_29) rfl rfl ?_
    exact kz
  have f_24 := (Fo.keep Kq22 (ninS ne_u0_lc (ninS ne_u0_jc (ninS ne_u0_sa (ninS ne_u0_va nin0)))))
  obtain ⟨T25, X25, e25, st25⟩ := getF X22 hx hZ hown (host := "") (Or.inl (own_w hw 59 rfl)) Via.refl rfl f_24 (g := (mkF m 30 #[rv u0, iv 0, dw dd, sn, iv 0, iv iq.toInt32] [(.ref u0)])) rfl rfl (hb hby own_d11_30)
  refine own_on (B := T25.setTop (mkF m 33 #[rv u0, iv 0, dw dd, sn, iv 0, iv iq.toInt32] [(.ref ca)])) (fun tz kz => st25 _ kz) ?_
  refine own_on (B := T25.setTop (mkF m 35 #[rv u0, iv 0, dw dd, sn, iv 0, iv iq.toInt32] [(.int 0), (.ref ca)])) (fun tz kz => ?_) ?_
  · show sT p e below T25 (mkF m 33 #[rv u0, iv 0, dw dd, sn, iv 0, iv iq.toInt32] [(.ref ca)]) tz
    refine XS.iload X25.here hx rfl (hb hby own_d11_33) rfl ?_
    exact kz
  have f_26 := (Va.keep Kq22 (ninS (Ne.symm ne_lc_ca) (ninS ne_ca_jc (ninS (Ne.symm ne_sa_ca) (ninS (Ne.symm ne_va_ca) nin0)))))
  obtain ⟨cl27, Ar27, q27, S27, M27, H27, G27⟩ := id f_26
  have hin28 : ¬ ((0 : Int32) < 0 ∨ cl27.slots.size ≤ ((0 : Int32)).toNatClampNeg) := inb_of S27 ⟨by decide, by decide⟩
  have hat28 : cl27.slots[((0 : Int32)).toNatClampNeg]? = some (.ref cc) := Has.at H27 hin28 rfl
  refine own_on (B := T25.setTop (mkF m 44 #[rv u0, iv 0, dw dd, sn, iv 0, iv iq.toInt32] [(.int (iq.toInt32.toUInt32.toUInt16.toUInt32.toInt32)), (.int 0), (.ref cc)])) (fun tz kz => ?_) ?_
  · show sT p e below T25 (mkF m 35 #[rv u0, iv 0, dw dd, sn, iv 0, iv iq.toInt32] [(.int 0), (.ref ca)]) tz
    refine X25.aaload hx (j := (0 : Int32)) (v := (.ref cc)) (by rw [e25]; exact Ar27.1) (State.isArrayOf_alike hZ.alike Ar27.2.1) rfl Ar27.2.2 hin28 hat28 (g := (mkF m 35 #[rv u0, iv 0, dw dd, sn, iv 0, iv iq.toInt32] [(.int 0), (.ref ca)])) rfl rfl (hb hby own_d11_35) _ ?_
    show sT p e below T25 (mkF m 36 #[rv u0, iv 0, dw dd, sn, iv 0, iv iq.toInt32] [(.ref cc)]) tz
    refine XS.iloadN X25.here hx rfl (hb hby own_d11_36) rfl ?_
    show sT p e below T25 (mkF m 37 #[rv u0, iv 0, dw dd, sn, iv 0, iv iq.toInt32] [(.int 0), (.ref cc)]) tz
    refine XS.sipush X25.here hx rfl (hb hby own_d11_37) ?_
    show sT p e below T25 (mkF m 40 #[rv u0, iv 0, dw dd, sn, iv 0, iv iq.toInt32] [(.int 32767), (.int 0), (.ref cc)]) tz
    refine XS.iand X25.here hx rfl (hb hby own_d11_40) rfl ?_
    show sT p e below T25 (mkF m 41 #[rv u0, iv 0, dw dd, sn, iv 0, iv iq.toInt32] [(.int 0), (.ref cc)]) tz
    refine XS.iload X25.here hx rfl (hb hby own_d11_41) rfl ?_
    show sT p e below T25 (mkF m 43 #[rv u0, iv 0, dw dd, sn, iv 0, iv iq.toInt32] [(.int iq.toInt32), (.int 0), (.ref cc)]) tz
    refine XS.i2c X25.here hx rfl (hb hby own_d11_43) rfl ?_
    exact kz
  rw [(own_i2c iq1 hq4).1]
  have f_29 := (Ve.keep Kq22 (ninS (Ne.symm ne_lc_cc) (ninS ne_cc_jc (ninS (Ne.symm ne_sa_cc) (ninS (Ne.symm ne_va_cc) nin0)))))
  obtain ⟨cl30, Ar30, q30, S30, M30, H30, G30⟩ := id f_29
  have hin31 : ¬ ((0 : Int32) < 0 ∨ cl30.slots.size ≤ ((0 : Int32)).toNatClampNeg) := inb_of S30 ⟨by decide, by decide⟩
  obtain ⟨T31, h31, X31, e31, W31, st31⟩ := stC X25 hx hZ e25 Ar30 (j := (0 : Int32)) hin31 (g := (mkF m 44 #[rv u0, iv 0, dw dd, sn, iv 0, iv iq.toInt32] [(.int iq.toInt32), (.int 0), (.ref cc)])) rfl rfl (hb hby own_d11_44)
  have V31 : Arv Z h31 cc kk .char (32768 : Int32) [(.int (nar .char iq.toInt32)), (.int f1.toInt32), (.int f2.toInt32)] (.int 0) := Arv.set Ar30 q30 S30 M30 H30 G30 (fits_nar_char _) W31 0 rfl (Nat.le_of_ble_eq_true rfl)
  have N31 := Fr.snoc X31 N22 g_cc
  have O32 := O23.wr W31 g_cc
  have K32 : Keep h0 h31 [lc, jc, sa, va, cc] := K23.wr W31 (Or.inl (List.mem_of_getElem? (i := 4) rfl))
  refine own_on (B := T31.setTop (mkF m 45 #[rv u0, iv 0, dw dd, sn, iv 0, iv iq.toInt32] [])) (fun tz kz => st31 _ kz) ?_
  have Vz : Arv Z h31 cc kk .char (32768 : Int32) [(.int iq.toInt32), (.int f1.toInt32), (.int f2.toInt32)] (.int 0) := by have z := V31; rw [(own_i2c iq1 hq4).2] at z; exact z
  have f_33 := ((E_u0.keep Kq22).wr W31)
  have f_34 := ((Fd.keep Kq22 (ninS ne_u0_lc (ninS ne_u0_jc (ninS ne_u0_sa (ninS ne_u0_va nin0))))).other W31 (Or.inl ne_u0_cc))
  have f_35 := ((Fv.keep Kq22 (ninS ne_u0_lc (ninS ne_u0_jc (ninS ne_u0_sa (ninS ne_u0_va nin0))))).other W31 (Or.inl ne_u0_cc))
  have f_36 := (f_24.other W31 (Or.inl ne_u0_cc))
  have f_37 := ((Fp.keep Kq22 (ninS ne_u0_lc (ninS ne_u0_jc (ninS ne_u0_sa (ninS ne_u0_va nin0))))).other W31 (Or.inl ne_u0_cc))
  have f_38 := ((Fn.keep Kq22 (ninS ne_u0_lc (ninS ne_u0_jc (ninS ne_u0_sa (ninS ne_u0_va nin0))))).other W31 (Or.inl ne_u0_cc))
  have f_39 := ((Eln.keep Kq22).wr W31)
  have f_40 := ((Fk.keep Kq22 (ninS ne_ln_lc (ninS ne_ln_jc (ninS ne_ln_sa (ninS ne_ln_va nin0))))).other W31 (Or.inl ne_ln_cc))
  have f_41 := ((Fsl.keep Kq22 (ninS ne_ln_lc (ninS ne_ln_jc (ninS ne_ln_sa (ninS ne_ln_va nin0))))).other W31 (Or.inl ne_ln_cc))
  have f_42 := ((El.keep Kq22).wr W31)
  have f_43 := (Fc22.other W31 (Or.inl ne_lc_cc))
  have f_44 := (Fs22.other W31 (Or.inl ne_lc_cc))
  have f_45 := ((Vj.keep Kq22 (ninS (Ne.symm ne_lc_ja) (ninS ne_ja_jc (ninS ne_ja_sa (ninS ne_ja_va nin0))))).other W31 ne_ja_cc)
  have f_46 := (Vs22.other W31 ne_sa_cc)
  have f_47 := (Vv22.other W31 ne_va_cc)
  have f_48 := (f_26.other W31 ne_ca_cc)
  have f_49 := (Vl22.other W31 (Ne.symm ne_cc_jc))
  obtain ⟨fs, hr, hrun, hended, hW, hsame⟩ := X31.leave (v := none) (fun _ => rfl)
  refine own_of ⟨_, _, ?_, hrun, hended, _, _, rfl, ?_, ⟨_, rfl⟩, hW, hsame.mono (by decide) (by decide)⟩
  · show sT p e below T31 (mkF m 45 #[rv u0, iv 0, dw dd, sn, iv 0, iv iq.toInt32] []) _
    exact X31.returnOut hx Bd.returns (hb hby own_d11_45) hr
  · show Q110 Z u0 dd n x0 x1 x2 B h0 n0 _ T31.heap _
    rw [e31]
    exact ⟨rfl, N31, O32, ln, lc, ja, sa, va, ca, cc, jc, kj, ks, kv, kc, kk, kl, vsq, Sq, w0, w1, w2, w3, iq, f1, f2, mq, ⟨Nat.le_trans h1_ iq2, Nat.le_trans iq3 (Nat.succ_le_succ hB_)⟩, ⟨iq1, (Nat.lt_of_lt_of_le m1_ iq2), (Nat.lt_of_lt_of_le m2_ iq2)⟩, ⟨iq4, ((iq5 _ m1_).trans y1_), ((iq5 _ m2_).trans y2_)⟩, o1, g_u0, f_33, f_34, f_35, f_36, f_37, f_38, f_39, f_40, f_41, f_42, f_43, f_44, f_45, f_46, f_47, f_48, Vz, f_49, hTq, hSq⟩
theorem own_ef_111 (m : MethodId) (x0 : Addr) (x1 : Int32) (x2 : UInt64) : entryFrame m #[(.ref x0), (.int x1), (.double x2)] 6 = mkF m 0 #[rv x0, iv x1, dw x2, .second, .unset, .unset] [] := by first | (simp [entryFrame, mkF, argsToLocals, Value.category]; done) | rfl
def Q111 (Z : State) (u0 : Addr) (dd : UInt64) (n : Int32) (x0 : UInt64) (x1 : UInt64) (x2 : UInt64) (B : Nat) (h0 : Heap) (n0 : Nat) (v : Option Value) (h : Heap) (L : List Loc) : Prop := v = none ∧ Fr n0 L ∧ Old Z n0 h ∧ OwnD Z h n0 u0 n x0 dd x2 (B + 1)
set_option maxRecDepth 65536 in
set_option maxHeartbeats 40000000 in
theorem rm111 (l : Launch) (Z : State) (a0 : Array Value) (hw : ∀ d ∈ tables_1, d.before a0 Z = true) (ws : List Jvm.Cond) (u0 : Addr) (dd : UInt64) (n : Int32) (x0 : UInt64) (x1 : UInt64) (x2 : UInt64) (B : Nat) (h0 : Heap) (n0 : Nat) (O0 : Old Z n0 h0) (hD : OwnD Z h0 n0 u0 n x0 x1 x2 B) (hB3 : B ≤ 3) :
    MetFree l (⟨"com/example/vows_to_moves/vowstomoves/model/DoubleColumn", "set", "(ID)V"⟩ : MethodName) (head1 (Jvm.Cond.code (⟨"com/example/vows_to_moves/vowstomoves/model/DoubleColumn", "set", "(ID)V"⟩ : MethodName) prog_72_method_4_code 6 none :: ws) ({ frames := 4, cells := 0, slots := 0, locals := 84 } : Room)) (fun a U => a = #[(.ref u0), (.int (1 : Int32)), (.double dd)] ∧ Z.Warmed39 U.vm ∧ U.heap = h0) (fun _ _ _ _ _ => True) (fun _ U o U' => ∃ v L, o = .returned v ∧ Q111 Z u0 dd n x0 x1 x2 B h0 n0 v U'.heap L ∧ FrameEnd U o U' L ({ frames := 4, cells := 0, slots := 0, locals := 84 } : Room).cells ({ frames := 4, cells := 0, slots := 0, locals := 84 } : Room).slots) := by
  refine MetFree.of_bodySF (plainFor_of_name own_pn_com_example_vows_to_moves_vowstomoves_model_DoubleColumn) hisR ?_
  intro p e s m args below meth c s₁ Bd hml0 hP hK
  obtain ⟨rfl, hZ, hh⟩ := hP
  have hx := Bd.exec
  have hby := Bd.bytes
  have hml : c.maxLocals = 6 := hml0
  have hown : s.vm.findClass "com/example/vows_to_moves/vowstomoves/model/DoubleColumn" = some m.cls := findClass_of_methodNamed Bd.named
  have hnm := (name_of_methodNamed Bd.named Bd.method).1
  have X0 : Stand p l e ({ frames := 4, cells := 0, slots := 0, locals := 84 } : Room) s m #[(.ref u0), (.int (1 : Int32)), (.double dd)] below meth c s₁ [] 0 0 := Stand.of_body Bd
  have e0 : s₁.heap = h0 := by rw [← hh, Bd.state]; rfl
  have N0 := Fr.nil n0
  change Go p.tables e below _ _
  refine own_on (B := s₁.setTop (mkF m 0 #[rv u0, iv 1, dw dd, sn, un, un] [])) (fun tz kz => castTop (own_ef_111 m u0 (1 : Int32) dd) kz) ?_
  obtain ⟨ln, lc, ja, sa, va, ca, cc, jc, kj, ks, kv, kc, kk, kl, vs, S, v0, v1, v2, v3, f0, f1, f2, mm, ⟨h1_, hB_⟩, ⟨m0_, m1_, m2_⟩, ⟨y0_, y1_, y2_⟩, o1, g_u0, E_u0, Fd, Fv, Fo, Fp, Fn, Eln, Fk, Fsl, El, Fc, Fs, Vj, Vs, Vv, Va, Ve, Vl, hT, hS⟩ := hD
  have ne_u0_ln : u0 ≠ ln := Nat.ne_of_lt (show @LT.lt Nat _ u0 ln by omega)
  have ne_u0_lc : u0 ≠ lc := Nat.ne_of_lt (show @LT.lt Nat _ u0 lc by omega)
  have ne_u0_ja : u0 ≠ ja := Nat.ne_of_lt (show @LT.lt Nat _ u0 ja by omega)
  have ne_u0_sa : u0 ≠ sa := Nat.ne_of_lt (show @LT.lt Nat _ u0 sa by omega)
  have ne_u0_va : u0 ≠ va := Nat.ne_of_lt (show @LT.lt Nat _ u0 va by omega)
  have ne_u0_ca : u0 ≠ ca := Nat.ne_of_lt (show @LT.lt Nat _ u0 ca by omega)
  have ne_u0_cc : u0 ≠ cc := Nat.ne_of_lt (show @LT.lt Nat _ u0 cc by omega)
  have ne_u0_jc : u0 ≠ jc := Nat.ne_of_lt (show @LT.lt Nat _ u0 jc by omega)
  have ne_ln_lc : ln ≠ lc := Nat.ne_of_lt (show @LT.lt Nat _ ln lc by omega)
  have ne_ln_ja : ln ≠ ja := Nat.ne_of_lt (show @LT.lt Nat _ ln ja by omega)
  have ne_ln_sa : ln ≠ sa := Nat.ne_of_lt (show @LT.lt Nat _ ln sa by omega)
  have ne_ln_va : ln ≠ va := Nat.ne_of_lt (show @LT.lt Nat _ ln va by omega)
  have ne_ln_ca : ln ≠ ca := Nat.ne_of_lt (show @LT.lt Nat _ ln ca by omega)
  have ne_ln_cc : ln ≠ cc := Nat.ne_of_lt (show @LT.lt Nat _ ln cc by omega)
  have ne_ln_jc : ln ≠ jc := Nat.ne_of_lt (show @LT.lt Nat _ ln jc by omega)
  have ne_lc_ja : lc ≠ ja := Nat.ne_of_lt (show @LT.lt Nat _ lc ja by omega)
  have ne_lc_sa : lc ≠ sa := Nat.ne_of_lt (show @LT.lt Nat _ lc sa by omega)
  have ne_lc_va : lc ≠ va := Nat.ne_of_lt (show @LT.lt Nat _ lc va by omega)
  have ne_lc_ca : lc ≠ ca := Nat.ne_of_lt (show @LT.lt Nat _ lc ca by omega)
  have ne_lc_cc : lc ≠ cc := Nat.ne_of_lt (show @LT.lt Nat _ lc cc by omega)
  have ne_lc_jc : lc ≠ jc := Nat.ne_of_lt (show @LT.lt Nat _ lc jc by omega)
  have ne_ja_sa : ja ≠ sa := Nat.ne_of_lt (show @LT.lt Nat _ ja sa by omega)
  have ne_ja_va : ja ≠ va := Nat.ne_of_lt (show @LT.lt Nat _ ja va by omega)
  have ne_ja_ca : ja ≠ ca := Nat.ne_of_lt (show @LT.lt Nat _ ja ca by omega)
  have ne_ja_cc : ja ≠ cc := Nat.ne_of_lt (show @LT.lt Nat _ ja cc by omega)
  have ne_ja_jc : ja ≠ jc := Nat.ne_of_lt (show @LT.lt Nat _ ja jc by omega)
  have ne_sa_va : sa ≠ va := Nat.ne_of_lt (show @LT.lt Nat _ sa va by omega)
  have ne_sa_ca : sa ≠ ca := Nat.ne_of_lt (show @LT.lt Nat _ sa ca by omega)
  have ne_sa_cc : sa ≠ cc := Nat.ne_of_lt (show @LT.lt Nat _ sa cc by omega)
  have ne_sa_jc : sa ≠ jc := Nat.ne_of_lt (show @LT.lt Nat _ sa jc by omega)
  have ne_va_ca : va ≠ ca := Nat.ne_of_lt (show @LT.lt Nat _ va ca by omega)
  have ne_va_cc : va ≠ cc := Nat.ne_of_lt (show @LT.lt Nat _ va cc by omega)
  have ne_va_jc : va ≠ jc := Nat.ne_of_lt (show @LT.lt Nat _ va jc by omega)
  have ne_ca_cc : ca ≠ cc := Nat.ne_of_lt (show @LT.lt Nat _ ca cc by omega)
  have ne_ca_jc : ca ≠ jc := Nat.ne_of_lt (show @LT.lt Nat _ ca jc by omega)
  have ne_cc_jc : cc ≠ jc := Nat.ne_of_lt (show @LT.lt Nat _ cc jc by omega)
  have g_ln : n0 ≤ ln := (show @LE.le Nat _ n0 ln by omega)
  have g_lc : n0 ≤ lc := (show @LE.le Nat _ n0 lc by omega)
  have g_ja : n0 ≤ ja := (show @LE.le Nat _ n0 ja by omega)
  have g_sa : n0 ≤ sa := (show @LE.le Nat _ n0 sa by omega)
  have g_va : n0 ≤ va := (show @LE.le Nat _ n0 va by omega)
  have g_ca : n0 ≤ ca := (show @LE.le Nat _ n0 ca by omega)
  have g_cc : n0 ≤ cc := (show @LE.le Nat _ n0 cc by omega)
  have g_jc : n0 ≤ jc := (show @LE.le Nat _ n0 jc by omega)
  refine own_on (B := s₁.setTop (mkF m 7 #[rv u0, iv 1, dw dd, sn, iv 0, un] [(.ref u0)])) (fun tz kz => ?_) ?_
  · show sT p e below s₁ (mkF m 0 #[rv u0, iv 1, dw dd, sn, un, un] []) tz
    refine XS.iloadN X0.here hx rfl (hb hby own_d11_0) rfl ?_
    show sT p e below s₁ (mkF m 1 #[rv u0, iv 1, dw dd, sn, un, un] [(.int 1)]) tz
    refine XS.bipush X0.here hx rfl (hb hby own_d11_1) ?_
    show sT p e below s₁ (mkF m 3 #[rv u0, iv 1, dw dd, sn, un, un] [(.int 15), (.int 1)]) tz
    refine XS.iushr X0.here hx rfl (hb hby own_d11_3) rfl ?_
    show sT p e below s₁ (mkF m 4 #[rv u0, iv 1, dw dd, sn, un, un] [(.int 0)]) tz
    refine XS.istore X0.here hx rfl (hb hby own_d11_4) rfl (l' := #[rv u0, iv 1, dw dd, sn, iv 0, un]) rfl ?_
    show sT p e below s₁ (mkF m 6 #[rv u0, iv 1, dw dd, sn, iv 0, un] []) tz
    refine XS.aloadN X0.here hx rfl (hb hby own_d11_6) rfl rfl ?_
    exact kz
  obtain ⟨T21, X21, e21, st21⟩ := getF X0 hx hZ hown (host := "") (Or.inl (own_w hw 68 rfl)) Via.refl e0 Fp (g := (mkF m 7 #[rv u0, iv 1, dw dd, sn, iv 0, un] [(.ref u0)])) rfl rfl (hb hby own_d11_7)
  refine own_on (B := T21.setTop (mkF m 10 #[rv u0, iv 1, dw dd, sn, iv 0, un] [.null])) (fun tz kz => st21 _ kz) ?_
  refine own_on (B := T21.setTop (mkF m 15 #[rv u0, iv 1, dw dd, sn, iv 0, un] [(.double dd), (.ref u0)])) (fun tz kz => ?_) ?_
  · show sT p e below T21 (mkF m 10 #[rv u0, iv 1, dw dd, sn, iv 0, un] [.null]) tz
    refine XS.ifnonnullNo X21.here hx rfl (hb hby own_d11_10) rfl ?_
    show sT p e below T21 (mkF m 13 #[rv u0, iv 1, dw dd, sn, iv 0, un] []) tz
    refine XS.aloadN X21.here hx rfl (hb hby own_d11_13) rfl rfl ?_
    show sT p e below T21 (mkF m 14 #[rv u0, iv 1, dw dd, sn, iv 0, un] [(.ref u0)]) tz
    refine XS.dloadN X21.here hx rfl (hb hby own_d11_14) rfl ?_
    exact kz
  obtain ⟨cq22, q22, q22'⟩ := E_u0.cell
  obtain ⟨_, _, ⟨T22, L22, k22, n22⟩, -, X22, ⟨Lc22, hQ22, l22, y22, z22⟩, st22⟩ := X21.privateBack hx (y := (⟨"com/example/vows_to_moves/vowstomoves/model/DoubleColumn", "code", "(D)I"⟩ : MethodName)) hown (mvT hZ (own_w hw 78 rfl)) (mvT hZ (own_w hw 79 rfl)) (mvT hZ (own_psel (y := (⟨"com/example/vows_to_moves/vowstomoves/model/DoubleColumn", "code", "(D)I"⟩ : MethodName)) (C := "com/example/vows_to_moves/vowstomoves/model/DoubleColumn") rfl (own_w hw 1 rfl) (own_w hw 80 rfl) (own_w hw 79 rfl) (by decide))) (Cond.privateMethod_at (mvP hZ (own_w hw 80 rfl) (args := #[]))) (mvT hZ (own_w hw 81 rfl)) (by decide) (backOf (W := 0) (rm12j l Z a0 hw [] u0 dd ln lc ja sa va kj ks kv vs S jc kl v0 v1 v2 v3 mm h0 n0 O0 E_u0 g_u0 Fd Fv Eln Fk Fsl El Fc Fs Vj Vs Vv Vl hT hS (by omega) h1_ (Nat.le_trans hB_ hB3)) hZ (own_w hw 81 rfl) (own_w hw 2 rfl) (by decide) (by decide)) (g := (mkF m 15 #[rv u0, iv 1, dw dd, sn, iv 0, un] [(.double dd), (.ref u0)])) rfl (by rw [hml]; rfl) (Steps.refl _) (a := u0) (by rw [e21]; exact q22) q22' (argsL := [(.double dd)]) (rest := []) (lenOf own_pd11 rfl) rfl (by show 2 * 0 + _ ≤ _; exact Nat.le_of_eq rfl) (hb hby own_d11_15) (fun _ _ => ⟨rfl, e21, (by decide : 0 + 0 ≤ _), (by decide : 0 + 0 ≤ _)⟩)
  dsimp only [Pt.U, Pt.locs, Pt.cells, Pt.slots] at X22 l22 y22 z22 st22 hQ22
  subst l22 y22 z22
  obtain ⟨mq, iq, w0, w1, w2, w3, vsq, Sq, rfl, Nq22, Kq22, iq1, iq2, iq3, iq4, iq5, hTq, hSq, Fs22, Fc22, Vs22, Vv22, Vl22⟩ := hQ22
  have N22 := Fr.app N0 Nq22
  have O23 := O0.keep Kq22 (allS g_lc (allS g_jc (allS g_sa (allS g_va all0))))
  have K23 : Keep h0 T22.heap [lc, jc, sa, va, cc] := (Keep.refl h0 [lc, jc, sa, va, cc]).trans Kq22 (allS (Or.inl (List.mem_of_getElem? (i := 0) rfl)) (allS (Or.inl (List.mem_of_getElem? (i := 1) rfl)) (allS (Or.inl (List.mem_of_getElem? (i := 2) rfl)) (allS (Or.inl (List.mem_of_getElem? (i := 3) rfl)) all0))))
  refine own_on (B := T22.setTop (mkF m 18 #[rv u0, iv 1, dw dd, sn, iv 0, un] [(.int iq.toInt32)])) (fun tz kz => st22.trans kz) ?_
  have hq4 : mq ≤ 4 := by omega
  refine own_on (B := T22.setTop (mkF m 30 #[rv u0, iv 1, dw dd, sn, iv 0, iv iq.toInt32] [(.ref u0)])) (fun tz kz => ?_) ?_
  · show sT p e below T22 (mkF m 18 #[rv u0, iv 1, dw dd, sn, iv 0, un] [(.int iq.toInt32)]) tz
    refine XS.goto X22.here hx rfl (pc0 := 18) (pc' := 22) rfl (hb hby own_d11_18) (by decide) (by decide) ?_
    show sT p e below T22 (mkF m 22 #[rv u0, iv 1, dw dd, sn, iv 0, un] [(.int iq.toInt32)]) tz
    refine XS.istore X22.here hx rfl (hb hby own_d11_22) rfl (l' := #[rv u0, iv 1, dw dd, sn, iv 0, iv iq.toInt32]) rfl ?_
    show sT p e below T22 (mkF m 24 #[rv u0, iv 1, dw dd, sn, iv 0, iv iq.toInt32] []) tz
    refine XS.iload X22.here hx rfl (hb hby own_d11_24) rfl ?_
    show sT p e below T22 (mkF m 26 #[rv u0, iv 1, dw dd, sn, iv 0, iv iq.toInt32] [(.int iq.toInt32)]) tz
    refine XS.ifNo X22.here hx rfl (hb hby own_d11_26) rfl ((if0 _ _).trans (flt (own_ix iq1 hq4).1).1) ?_
    show sT p e below T22 (mkF m 29 #[rv u0, iv 1, dw dd, sn, iv 0, iv iq.toInt32] []) tz
    refine XS.aloadN X22.here hx rfl (hb hby own_d11_29) rfl rfl ?_
    exact kz
  have f_24 := (Fo.keep Kq22 (ninS ne_u0_lc (ninS ne_u0_jc (ninS ne_u0_sa (ninS ne_u0_va nin0)))))
  obtain ⟨T25, X25, e25, st25⟩ := getF X22 hx hZ hown (host := "") (Or.inl (own_w hw 59 rfl)) Via.refl rfl f_24 (g := (mkF m 30 #[rv u0, iv 1, dw dd, sn, iv 0, iv iq.toInt32] [(.ref u0)])) rfl rfl (hb hby own_d11_30)
  refine own_on (B := T25.setTop (mkF m 33 #[rv u0, iv 1, dw dd, sn, iv 0, iv iq.toInt32] [(.ref ca)])) (fun tz kz => st25 _ kz) ?_
  refine own_on (B := T25.setTop (mkF m 35 #[rv u0, iv 1, dw dd, sn, iv 0, iv iq.toInt32] [(.int 0), (.ref ca)])) (fun tz kz => ?_) ?_
  · show sT p e below T25 (mkF m 33 #[rv u0, iv 1, dw dd, sn, iv 0, iv iq.toInt32] [(.ref ca)]) tz
    refine XS.iload X25.here hx rfl (hb hby own_d11_33) rfl ?_
    exact kz
  have f_26 := (Va.keep Kq22 (ninS (Ne.symm ne_lc_ca) (ninS ne_ca_jc (ninS (Ne.symm ne_sa_ca) (ninS (Ne.symm ne_va_ca) nin0)))))
  obtain ⟨cl27, Ar27, q27, S27, M27, H27, G27⟩ := id f_26
  have hin28 : ¬ ((0 : Int32) < 0 ∨ cl27.slots.size ≤ ((0 : Int32)).toNatClampNeg) := inb_of S27 ⟨by decide, by decide⟩
  have hat28 : cl27.slots[((0 : Int32)).toNatClampNeg]? = some (.ref cc) := Has.at H27 hin28 rfl
  refine own_on (B := T25.setTop (mkF m 44 #[rv u0, iv 1, dw dd, sn, iv 0, iv iq.toInt32] [(.int (iq.toInt32.toUInt32.toUInt16.toUInt32.toInt32)), (.int 1), (.ref cc)])) (fun tz kz => ?_) ?_
  · show sT p e below T25 (mkF m 35 #[rv u0, iv 1, dw dd, sn, iv 0, iv iq.toInt32] [(.int 0), (.ref ca)]) tz
    refine X25.aaload hx (j := (0 : Int32)) (v := (.ref cc)) (by rw [e25]; exact Ar27.1) (State.isArrayOf_alike hZ.alike Ar27.2.1) rfl Ar27.2.2 hin28 hat28 (g := (mkF m 35 #[rv u0, iv 1, dw dd, sn, iv 0, iv iq.toInt32] [(.int 0), (.ref ca)])) rfl rfl (hb hby own_d11_35) _ ?_
    show sT p e below T25 (mkF m 36 #[rv u0, iv 1, dw dd, sn, iv 0, iv iq.toInt32] [(.ref cc)]) tz
    refine XS.iloadN X25.here hx rfl (hb hby own_d11_36) rfl ?_
    show sT p e below T25 (mkF m 37 #[rv u0, iv 1, dw dd, sn, iv 0, iv iq.toInt32] [(.int 1), (.ref cc)]) tz
    refine XS.sipush X25.here hx rfl (hb hby own_d11_37) ?_
    show sT p e below T25 (mkF m 40 #[rv u0, iv 1, dw dd, sn, iv 0, iv iq.toInt32] [(.int 32767), (.int 1), (.ref cc)]) tz
    refine XS.iand X25.here hx rfl (hb hby own_d11_40) rfl ?_
    show sT p e below T25 (mkF m 41 #[rv u0, iv 1, dw dd, sn, iv 0, iv iq.toInt32] [(.int 1), (.ref cc)]) tz
    refine XS.iload X25.here hx rfl (hb hby own_d11_41) rfl ?_
    show sT p e below T25 (mkF m 43 #[rv u0, iv 1, dw dd, sn, iv 0, iv iq.toInt32] [(.int iq.toInt32), (.int 1), (.ref cc)]) tz
    refine XS.i2c X25.here hx rfl (hb hby own_d11_43) rfl ?_
    exact kz
  rw [(own_i2c iq1 hq4).1]
  have f_29 := (Ve.keep Kq22 (ninS (Ne.symm ne_lc_cc) (ninS ne_cc_jc (ninS (Ne.symm ne_sa_cc) (ninS (Ne.symm ne_va_cc) nin0)))))
  obtain ⟨cl30, Ar30, q30, S30, M30, H30, G30⟩ := id f_29
  have hin31 : ¬ ((1 : Int32) < 0 ∨ cl30.slots.size ≤ ((1 : Int32)).toNatClampNeg) := inb_of S30 ⟨by decide, by decide⟩
  obtain ⟨T31, h31, X31, e31, W31, st31⟩ := stC X25 hx hZ e25 Ar30 (j := (1 : Int32)) hin31 (g := (mkF m 44 #[rv u0, iv 1, dw dd, sn, iv 0, iv iq.toInt32] [(.int iq.toInt32), (.int 1), (.ref cc)])) rfl rfl (hb hby own_d11_44)
  have V31 : Arv Z h31 cc kk .char (32768 : Int32) [(.int f0.toInt32), (.int (nar .char iq.toInt32)), (.int f2.toInt32)] (.int 0) := Arv.set Ar30 q30 S30 M30 H30 G30 (fits_nar_char _) W31 1 rfl (Nat.le_of_ble_eq_true rfl)
  have N31 := Fr.snoc X31 N22 g_cc
  have O32 := O23.wr W31 g_cc
  have K32 : Keep h0 h31 [lc, jc, sa, va, cc] := K23.wr W31 (Or.inl (List.mem_of_getElem? (i := 4) rfl))
  refine own_on (B := T31.setTop (mkF m 45 #[rv u0, iv 1, dw dd, sn, iv 0, iv iq.toInt32] [])) (fun tz kz => st31 _ kz) ?_
  have Vz : Arv Z h31 cc kk .char (32768 : Int32) [(.int f0.toInt32), (.int iq.toInt32), (.int f2.toInt32)] (.int 0) := by have z := V31; rw [(own_i2c iq1 hq4).2] at z; exact z
  have f_33 := ((E_u0.keep Kq22).wr W31)
  have f_34 := ((Fd.keep Kq22 (ninS ne_u0_lc (ninS ne_u0_jc (ninS ne_u0_sa (ninS ne_u0_va nin0))))).other W31 (Or.inl ne_u0_cc))
  have f_35 := ((Fv.keep Kq22 (ninS ne_u0_lc (ninS ne_u0_jc (ninS ne_u0_sa (ninS ne_u0_va nin0))))).other W31 (Or.inl ne_u0_cc))
  have f_36 := (f_24.other W31 (Or.inl ne_u0_cc))
  have f_37 := ((Fp.keep Kq22 (ninS ne_u0_lc (ninS ne_u0_jc (ninS ne_u0_sa (ninS ne_u0_va nin0))))).other W31 (Or.inl ne_u0_cc))
  have f_38 := ((Fn.keep Kq22 (ninS ne_u0_lc (ninS ne_u0_jc (ninS ne_u0_sa (ninS ne_u0_va nin0))))).other W31 (Or.inl ne_u0_cc))
  have f_39 := ((Eln.keep Kq22).wr W31)
  have f_40 := ((Fk.keep Kq22 (ninS ne_ln_lc (ninS ne_ln_jc (ninS ne_ln_sa (ninS ne_ln_va nin0))))).other W31 (Or.inl ne_ln_cc))
  have f_41 := ((Fsl.keep Kq22 (ninS ne_ln_lc (ninS ne_ln_jc (ninS ne_ln_sa (ninS ne_ln_va nin0))))).other W31 (Or.inl ne_ln_cc))
  have f_42 := ((El.keep Kq22).wr W31)
  have f_43 := (Fc22.other W31 (Or.inl ne_lc_cc))
  have f_44 := (Fs22.other W31 (Or.inl ne_lc_cc))
  have f_45 := ((Vj.keep Kq22 (ninS (Ne.symm ne_lc_ja) (ninS ne_ja_jc (ninS ne_ja_sa (ninS ne_ja_va nin0))))).other W31 ne_ja_cc)
  have f_46 := (Vs22.other W31 ne_sa_cc)
  have f_47 := (Vv22.other W31 ne_va_cc)
  have f_48 := (f_26.other W31 ne_ca_cc)
  have f_49 := (Vl22.other W31 (Ne.symm ne_cc_jc))
  obtain ⟨fs, hr, hrun, hended, hW, hsame⟩ := X31.leave (v := none) (fun _ => rfl)
  refine own_of ⟨_, _, ?_, hrun, hended, _, _, rfl, ?_, ⟨_, rfl⟩, hW, hsame.mono (by decide) (by decide)⟩
  · show sT p e below T31 (mkF m 45 #[rv u0, iv 1, dw dd, sn, iv 0, iv iq.toInt32] []) _
    exact X31.returnOut hx Bd.returns (hb hby own_d11_45) hr
  · show Q111 Z u0 dd n x0 x1 x2 B h0 n0 _ T31.heap _
    rw [e31]
    exact ⟨rfl, N31, O32, ln, lc, ja, sa, va, ca, cc, jc, kj, ks, kv, kc, kk, kl, vsq, Sq, w0, w1, w2, w3, f0, iq, f2, mq, ⟨Nat.le_trans h1_ iq2, Nat.le_trans iq3 (Nat.succ_le_succ hB_)⟩, ⟨(Nat.lt_of_lt_of_le m0_ iq2), iq1, (Nat.lt_of_lt_of_le m2_ iq2)⟩, ⟨((iq5 _ m0_).trans y0_), iq4, ((iq5 _ m2_).trans y2_)⟩, o1, g_u0, f_33, f_34, f_35, f_36, f_37, f_38, f_39, f_40, f_41, f_42, f_43, f_44, f_45, f_46, f_47, f_48, Vz, f_49, hTq, hSq⟩
theorem own_ef_112 (m : MethodId) (x0 : Addr) (x1 : Int32) (x2 : UInt64) : entryFrame m #[(.ref x0), (.int x1), (.double x2)] 6 = mkF m 0 #[rv x0, iv x1, dw x2, .second, .unset, .unset] [] := by first | (simp [entryFrame, mkF, argsToLocals, Value.category]; done) | rfl
def Q112 (Z : State) (u0 : Addr) (dd : UInt64) (n : Int32) (x0 : UInt64) (x1 : UInt64) (x2 : UInt64) (B : Nat) (h0 : Heap) (n0 : Nat) (v : Option Value) (h : Heap) (L : List Loc) : Prop := v = none ∧ Fr n0 L ∧ Old Z n0 h ∧ OwnD Z h n0 u0 n x0 x1 dd (B + 1)
set_option maxRecDepth 65536 in
set_option maxHeartbeats 40000000 in
theorem rm112 (l : Launch) (Z : State) (a0 : Array Value) (hw : ∀ d ∈ tables_1, d.before a0 Z = true) (ws : List Jvm.Cond) (u0 : Addr) (dd : UInt64) (n : Int32) (x0 : UInt64) (x1 : UInt64) (x2 : UInt64) (B : Nat) (h0 : Heap) (n0 : Nat) (O0 : Old Z n0 h0) (hD : OwnD Z h0 n0 u0 n x0 x1 x2 B) (hB3 : B ≤ 3) :
    MetFree l (⟨"com/example/vows_to_moves/vowstomoves/model/DoubleColumn", "set", "(ID)V"⟩ : MethodName) (head1 (Jvm.Cond.code (⟨"com/example/vows_to_moves/vowstomoves/model/DoubleColumn", "set", "(ID)V"⟩ : MethodName) prog_72_method_4_code 6 none :: ws) ({ frames := 4, cells := 0, slots := 0, locals := 84 } : Room)) (fun a U => a = #[(.ref u0), (.int (2 : Int32)), (.double dd)] ∧ Z.Warmed39 U.vm ∧ U.heap = h0) (fun _ _ _ _ _ => True) (fun _ U o U' => ∃ v L, o = .returned v ∧ Q112 Z u0 dd n x0 x1 x2 B h0 n0 v U'.heap L ∧ FrameEnd U o U' L ({ frames := 4, cells := 0, slots := 0, locals := 84 } : Room).cells ({ frames := 4, cells := 0, slots := 0, locals := 84 } : Room).slots) := by
  refine MetFree.of_bodySF (plainFor_of_name own_pn_com_example_vows_to_moves_vowstomoves_model_DoubleColumn) hisR ?_
  intro p e s m args below meth c s₁ Bd hml0 hP hK
  obtain ⟨rfl, hZ, hh⟩ := hP
  have hx := Bd.exec
  have hby := Bd.bytes
  have hml : c.maxLocals = 6 := hml0
  have hown : s.vm.findClass "com/example/vows_to_moves/vowstomoves/model/DoubleColumn" = some m.cls := findClass_of_methodNamed Bd.named
  have hnm := (name_of_methodNamed Bd.named Bd.method).1
  have X0 : Stand p l e ({ frames := 4, cells := 0, slots := 0, locals := 84 } : Room) s m #[(.ref u0), (.int (2 : Int32)), (.double dd)] below meth c s₁ [] 0 0 := Stand.of_body Bd
  have e0 : s₁.heap = h0 := by rw [← hh, Bd.state]; rfl
  have N0 := Fr.nil n0
  change Go p.tables e below _ _
  refine own_on (B := s₁.setTop (mkF m 0 #[rv u0, iv 2, dw dd, sn, un, un] [])) (fun tz kz => castTop (own_ef_112 m u0 (2 : Int32) dd) kz) ?_
  obtain ⟨ln, lc, ja, sa, va, ca, cc, jc, kj, ks, kv, kc, kk, kl, vs, S, v0, v1, v2, v3, f0, f1, f2, mm, ⟨h1_, hB_⟩, ⟨m0_, m1_, m2_⟩, ⟨y0_, y1_, y2_⟩, o1, g_u0, E_u0, Fd, Fv, Fo, Fp, Fn, Eln, Fk, Fsl, El, Fc, Fs, Vj, Vs, Vv, Va, Ve, Vl, hT, hS⟩ := hD
  have ne_u0_ln : u0 ≠ ln := Nat.ne_of_lt (show @LT.lt Nat _ u0 ln by omega)
  have ne_u0_lc : u0 ≠ lc := Nat.ne_of_lt (show @LT.lt Nat _ u0 lc by omega)
  have ne_u0_ja : u0 ≠ ja := Nat.ne_of_lt (show @LT.lt Nat _ u0 ja by omega)
  have ne_u0_sa : u0 ≠ sa := Nat.ne_of_lt (show @LT.lt Nat _ u0 sa by omega)
  have ne_u0_va : u0 ≠ va := Nat.ne_of_lt (show @LT.lt Nat _ u0 va by omega)
  have ne_u0_ca : u0 ≠ ca := Nat.ne_of_lt (show @LT.lt Nat _ u0 ca by omega)
  have ne_u0_cc : u0 ≠ cc := Nat.ne_of_lt (show @LT.lt Nat _ u0 cc by omega)
  have ne_u0_jc : u0 ≠ jc := Nat.ne_of_lt (show @LT.lt Nat _ u0 jc by omega)
  have ne_ln_lc : ln ≠ lc := Nat.ne_of_lt (show @LT.lt Nat _ ln lc by omega)
  have ne_ln_ja : ln ≠ ja := Nat.ne_of_lt (show @LT.lt Nat _ ln ja by omega)
  have ne_ln_sa : ln ≠ sa := Nat.ne_of_lt (show @LT.lt Nat _ ln sa by omega)
  have ne_ln_va : ln ≠ va := Nat.ne_of_lt (show @LT.lt Nat _ ln va by omega)
  have ne_ln_ca : ln ≠ ca := Nat.ne_of_lt (show @LT.lt Nat _ ln ca by omega)
  have ne_ln_cc : ln ≠ cc := Nat.ne_of_lt (show @LT.lt Nat _ ln cc by omega)
  have ne_ln_jc : ln ≠ jc := Nat.ne_of_lt (show @LT.lt Nat _ ln jc by omega)
  have ne_lc_ja : lc ≠ ja := Nat.ne_of_lt (show @LT.lt Nat _ lc ja by omega)
  have ne_lc_sa : lc ≠ sa := Nat.ne_of_lt (show @LT.lt Nat _ lc sa by omega)
  have ne_lc_va : lc ≠ va := Nat.ne_of_lt (show @LT.lt Nat _ lc va by omega)
  have ne_lc_ca : lc ≠ ca := Nat.ne_of_lt (show @LT.lt Nat _ lc ca by omega)
  have ne_lc_cc : lc ≠ cc := Nat.ne_of_lt (show @LT.lt Nat _ lc cc by omega)
  have ne_lc_jc : lc ≠ jc := Nat.ne_of_lt (show @LT.lt Nat _ lc jc by omega)
  have ne_ja_sa : ja ≠ sa := Nat.ne_of_lt (show @LT.lt Nat _ ja sa by omega)
  have ne_ja_va : ja ≠ va := Nat.ne_of_lt (show @LT.lt Nat _ ja va by omega)
  have ne_ja_ca : ja ≠ ca := Nat.ne_of_lt (show @LT.lt Nat _ ja ca by omega)
  have ne_ja_cc : ja ≠ cc := Nat.ne_of_lt (show @LT.lt Nat _ ja cc by omega)
  have ne_ja_jc : ja ≠ jc := Nat.ne_of_lt (show @LT.lt Nat _ ja jc by omega)
  have ne_sa_va : sa ≠ va := Nat.ne_of_lt (show @LT.lt Nat _ sa va by omega)
  have ne_sa_ca : sa ≠ ca := Nat.ne_of_lt (show @LT.lt Nat _ sa ca by omega)
  have ne_sa_cc : sa ≠ cc := Nat.ne_of_lt (show @LT.lt Nat _ sa cc by omega)
  have ne_sa_jc : sa ≠ jc := Nat.ne_of_lt (show @LT.lt Nat _ sa jc by omega)
  have ne_va_ca : va ≠ ca := Nat.ne_of_lt (show @LT.lt Nat _ va ca by omega)
  have ne_va_cc : va ≠ cc := Nat.ne_of_lt (show @LT.lt Nat _ va cc by omega)
  have ne_va_jc : va ≠ jc := Nat.ne_of_lt (show @LT.lt Nat _ va jc by omega)
  have ne_ca_cc : ca ≠ cc := Nat.ne_of_lt (show @LT.lt Nat _ ca cc by omega)
  have ne_ca_jc : ca ≠ jc := Nat.ne_of_lt (show @LT.lt Nat _ ca jc by omega)
  have ne_cc_jc : cc ≠ jc := Nat.ne_of_lt (show @LT.lt Nat _ cc jc by omega)
  have g_ln : n0 ≤ ln := (show @LE.le Nat _ n0 ln by omega)
  have g_lc : n0 ≤ lc := (show @LE.le Nat _ n0 lc by omega)
  have g_ja : n0 ≤ ja := (show @LE.le Nat _ n0 ja by omega)
  have g_sa : n0 ≤ sa := (show @LE.le Nat _ n0 sa by omega)
  have g_va : n0 ≤ va := (show @LE.le Nat _ n0 va by omega)
  have g_ca : n0 ≤ ca := (show @LE.le Nat _ n0 ca by omega)
  have g_cc : n0 ≤ cc := (show @LE.le Nat _ n0 cc by omega)
  have g_jc : n0 ≤ jc := (show @LE.le Nat _ n0 jc by omega)
  refine own_on (B := s₁.setTop (mkF m 7 #[rv u0, iv 2, dw dd, sn, iv 0, un] [(.ref u0)])) (fun tz kz => ?_) ?_
  · show sT p e below s₁ (mkF m 0 #[rv u0, iv 2, dw dd, sn, un, un] []) tz
    refine XS.iloadN X0.here hx rfl (hb hby own_d11_0) rfl ?_
    show sT p e below s₁ (mkF m 1 #[rv u0, iv 2, dw dd, sn, un, un] [(.int 2)]) tz
    refine XS.bipush X0.here hx rfl (hb hby own_d11_1) ?_
    show sT p e below s₁ (mkF m 3 #[rv u0, iv 2, dw dd, sn, un, un] [(.int 15), (.int 2)]) tz
    refine XS.iushr X0.here hx rfl (hb hby own_d11_3) rfl ?_
    show sT p e below s₁ (mkF m 4 #[rv u0, iv 2, dw dd, sn, un, un] [(.int 0)]) tz
    refine XS.istore X0.here hx rfl (hb hby own_d11_4) rfl (l' := #[rv u0, iv 2, dw dd, sn, iv 0, un]) rfl ?_
    show sT p e below s₁ (mkF m 6 #[rv u0, iv 2, dw dd, sn, iv 0, un] []) tz
    refine XS.aloadN X0.here hx rfl (hb hby own_d11_6) rfl rfl ?_
    exact kz
  obtain ⟨T21, X21, e21, st21⟩ := getF X0 hx hZ hown (host := "") (Or.inl (own_w hw 68 rfl)) Via.refl e0 Fp (g := (mkF m 7 #[rv u0, iv 2, dw dd, sn, iv 0, un] [(.ref u0)])) rfl rfl (hb hby own_d11_7)
  refine own_on (B := T21.setTop (mkF m 10 #[rv u0, iv 2, dw dd, sn, iv 0, un] [.null])) (fun tz kz => st21 _ kz) ?_
  refine own_on (B := T21.setTop (mkF m 15 #[rv u0, iv 2, dw dd, sn, iv 0, un] [(.double dd), (.ref u0)])) (fun tz kz => ?_) ?_
  · show sT p e below T21 (mkF m 10 #[rv u0, iv 2, dw dd, sn, iv 0, un] [.null]) tz
    refine XS.ifnonnullNo X21.here hx rfl (hb hby own_d11_10) rfl ?_
    show sT p e below T21 (mkF m 13 #[rv u0, iv 2, dw dd, sn, iv 0, un] []) tz
    refine XS.aloadN X21.here hx rfl (hb hby own_d11_13) rfl rfl ?_
    show sT p e below T21 (mkF m 14 #[rv u0, iv 2, dw dd, sn, iv 0, un] [(.ref u0)]) tz
    refine XS.dloadN X21.here hx rfl (hb hby own_d11_14) rfl ?_
    exact kz
  obtain ⟨cq22, q22, q22'⟩ := E_u0.cell
  obtain ⟨_, _, ⟨T22, L22, k22, n22⟩, -, X22, ⟨Lc22, hQ22, l22, y22, z22⟩, st22⟩ := X21.privateBack hx (y := (⟨"com/example/vows_to_moves/vowstomoves/model/DoubleColumn", "code", "(D)I"⟩ : MethodName)) hown (mvT hZ (own_w hw 78 rfl)) (mvT hZ (own_w hw 79 rfl)) (mvT hZ (own_psel (y := (⟨"com/example/vows_to_moves/vowstomoves/model/DoubleColumn", "code", "(D)I"⟩ : MethodName)) (C := "com/example/vows_to_moves/vowstomoves/model/DoubleColumn") rfl (own_w hw 1 rfl) (own_w hw 80 rfl) (own_w hw 79 rfl) (by decide))) (Cond.privateMethod_at (mvP hZ (own_w hw 80 rfl) (args := #[]))) (mvT hZ (own_w hw 81 rfl)) (by decide) (backOf (W := 0) (rm12j l Z a0 hw [] u0 dd ln lc ja sa va kj ks kv vs S jc kl v0 v1 v2 v3 mm h0 n0 O0 E_u0 g_u0 Fd Fv Eln Fk Fsl El Fc Fs Vj Vs Vv Vl hT hS (by omega) h1_ (Nat.le_trans hB_ hB3)) hZ (own_w hw 81 rfl) (own_w hw 2 rfl) (by decide) (by decide)) (g := (mkF m 15 #[rv u0, iv 2, dw dd, sn, iv 0, un] [(.double dd), (.ref u0)])) rfl (by rw [hml]; rfl) (Steps.refl _) (a := u0) (by rw [e21]; exact q22) q22' (argsL := [(.double dd)]) (rest := []) (lenOf own_pd11 rfl) rfl (by show 2 * 0 + _ ≤ _; exact Nat.le_of_eq rfl) (hb hby own_d11_15) (fun _ _ => ⟨rfl, e21, (by decide : 0 + 0 ≤ _), (by decide : 0 + 0 ≤ _)⟩)
  dsimp only [Pt.U, Pt.locs, Pt.cells, Pt.slots] at X22 l22 y22 z22 st22 hQ22
  subst l22 y22 z22
  obtain ⟨mq, iq, w0, w1, w2, w3, vsq, Sq, rfl, Nq22, Kq22, iq1, iq2, iq3, iq4, iq5, hTq, hSq, Fs22, Fc22, Vs22, Vv22, Vl22⟩ := hQ22
  have N22 := Fr.app N0 Nq22
  have O23 := O0.keep Kq22 (allS g_lc (allS g_jc (allS g_sa (allS g_va all0))))
  have K23 : Keep h0 T22.heap [lc, jc, sa, va, cc] := (Keep.refl h0 [lc, jc, sa, va, cc]).trans Kq22 (allS (Or.inl (List.mem_of_getElem? (i := 0) rfl)) (allS (Or.inl (List.mem_of_getElem? (i := 1) rfl)) (allS (Or.inl (List.mem_of_getElem? (i := 2) rfl)) (allS (Or.inl (List.mem_of_getElem? (i := 3) rfl)) all0))))
  refine own_on (B := T22.setTop (mkF m 18 #[rv u0, iv 2, dw dd, sn, iv 0, un] [(.int iq.toInt32)])) (fun tz kz => st22.trans kz) ?_
  have hq4 : mq ≤ 4 := by omega
  refine own_on (B := T22.setTop (mkF m 30 #[rv u0, iv 2, dw dd, sn, iv 0, iv iq.toInt32] [(.ref u0)])) (fun tz kz => ?_) ?_
  · show sT p e below T22 (mkF m 18 #[rv u0, iv 2, dw dd, sn, iv 0, un] [(.int iq.toInt32)]) tz
    refine XS.goto X22.here hx rfl (pc0 := 18) (pc' := 22) rfl (hb hby own_d11_18) (by decide) (by decide) ?_
    show sT p e below T22 (mkF m 22 #[rv u0, iv 2, dw dd, sn, iv 0, un] [(.int iq.toInt32)]) tz
    refine XS.istore X22.here hx rfl (hb hby own_d11_22) rfl (l' := #[rv u0, iv 2, dw dd, sn, iv 0, iv iq.toInt32]) rfl ?_
    show sT p e below T22 (mkF m 24 #[rv u0, iv 2, dw dd, sn, iv 0, iv iq.toInt32] []) tz
    refine XS.iload X22.here hx rfl (hb hby own_d11_24) rfl ?_
    show sT p e below T22 (mkF m 26 #[rv u0, iv 2, dw dd, sn, iv 0, iv iq.toInt32] [(.int iq.toInt32)]) tz
    refine XS.ifNo X22.here hx rfl (hb hby own_d11_26) rfl ((if0 _ _).trans (flt (own_ix iq1 hq4).1).1) ?_
    show sT p e below T22 (mkF m 29 #[rv u0, iv 2, dw dd, sn, iv 0, iv iq.toInt32] []) tz
    refine XS.aloadN X22.here hx rfl (hb hby own_d11_29) rfl rfl ?_
    exact kz
  have f_24 := (Fo.keep Kq22 (ninS ne_u0_lc (ninS ne_u0_jc (ninS ne_u0_sa (ninS ne_u0_va nin0)))))
  obtain ⟨T25, X25, e25, st25⟩ := getF X22 hx hZ hown (host := "") (Or.inl (own_w hw 59 rfl)) Via.refl rfl f_24 (g := (mkF m 30 #[rv u0, iv 2, dw dd, sn, iv 0, iv iq.toInt32] [(.ref u0)])) rfl rfl (hb hby own_d11_30)
  refine own_on (B := T25.setTop (mkF m 33 #[rv u0, iv 2, dw dd, sn, iv 0, iv iq.toInt32] [(.ref ca)])) (fun tz kz => st25 _ kz) ?_
  refine own_on (B := T25.setTop (mkF m 35 #[rv u0, iv 2, dw dd, sn, iv 0, iv iq.toInt32] [(.int 0), (.ref ca)])) (fun tz kz => ?_) ?_
  · show sT p e below T25 (mkF m 33 #[rv u0, iv 2, dw dd, sn, iv 0, iv iq.toInt32] [(.ref ca)]) tz
    refine XS.iload X25.here hx rfl (hb hby own_d11_33) rfl ?_
    exact kz
  have f_26 := (Va.keep Kq22 (ninS (Ne.symm ne_lc_ca) (ninS ne_ca_jc (ninS (Ne.symm ne_sa_ca) (ninS (Ne.symm ne_va_ca) nin0)))))
  obtain ⟨cl27, Ar27, q27, S27, M27, H27, G27⟩ := id f_26
  have hin28 : ¬ ((0 : Int32) < 0 ∨ cl27.slots.size ≤ ((0 : Int32)).toNatClampNeg) := inb_of S27 ⟨by decide, by decide⟩
  have hat28 : cl27.slots[((0 : Int32)).toNatClampNeg]? = some (.ref cc) := Has.at H27 hin28 rfl
  refine own_on (B := T25.setTop (mkF m 44 #[rv u0, iv 2, dw dd, sn, iv 0, iv iq.toInt32] [(.int (iq.toInt32.toUInt32.toUInt16.toUInt32.toInt32)), (.int 2), (.ref cc)])) (fun tz kz => ?_) ?_
  · show sT p e below T25 (mkF m 35 #[rv u0, iv 2, dw dd, sn, iv 0, iv iq.toInt32] [(.int 0), (.ref ca)]) tz
    refine X25.aaload hx (j := (0 : Int32)) (v := (.ref cc)) (by rw [e25]; exact Ar27.1) (State.isArrayOf_alike hZ.alike Ar27.2.1) rfl Ar27.2.2 hin28 hat28 (g := (mkF m 35 #[rv u0, iv 2, dw dd, sn, iv 0, iv iq.toInt32] [(.int 0), (.ref ca)])) rfl rfl (hb hby own_d11_35) _ ?_
    show sT p e below T25 (mkF m 36 #[rv u0, iv 2, dw dd, sn, iv 0, iv iq.toInt32] [(.ref cc)]) tz
    refine XS.iloadN X25.here hx rfl (hb hby own_d11_36) rfl ?_
    show sT p e below T25 (mkF m 37 #[rv u0, iv 2, dw dd, sn, iv 0, iv iq.toInt32] [(.int 2), (.ref cc)]) tz
    refine XS.sipush X25.here hx rfl (hb hby own_d11_37) ?_
    show sT p e below T25 (mkF m 40 #[rv u0, iv 2, dw dd, sn, iv 0, iv iq.toInt32] [(.int 32767), (.int 2), (.ref cc)]) tz
    refine XS.iand X25.here hx rfl (hb hby own_d11_40) rfl ?_
    show sT p e below T25 (mkF m 41 #[rv u0, iv 2, dw dd, sn, iv 0, iv iq.toInt32] [(.int 2), (.ref cc)]) tz
    refine XS.iload X25.here hx rfl (hb hby own_d11_41) rfl ?_
    show sT p e below T25 (mkF m 43 #[rv u0, iv 2, dw dd, sn, iv 0, iv iq.toInt32] [(.int iq.toInt32), (.int 2), (.ref cc)]) tz
    refine XS.i2c X25.here hx rfl (hb hby own_d11_43) rfl ?_
    exact kz
  rw [(own_i2c iq1 hq4).1]
  have f_29 := (Ve.keep Kq22 (ninS (Ne.symm ne_lc_cc) (ninS ne_cc_jc (ninS (Ne.symm ne_sa_cc) (ninS (Ne.symm ne_va_cc) nin0)))))
  obtain ⟨cl30, Ar30, q30, S30, M30, H30, G30⟩ := id f_29
  have hin31 : ¬ ((2 : Int32) < 0 ∨ cl30.slots.size ≤ ((2 : Int32)).toNatClampNeg) := inb_of S30 ⟨by decide, by decide⟩
  obtain ⟨T31, h31, X31, e31, W31, st31⟩ := stC X25 hx hZ e25 Ar30 (j := (2 : Int32)) hin31 (g := (mkF m 44 #[rv u0, iv 2, dw dd, sn, iv 0, iv iq.toInt32] [(.int iq.toInt32), (.int 2), (.ref cc)])) rfl rfl (hb hby own_d11_44)
  have V31 : Arv Z h31 cc kk .char (32768 : Int32) [(.int f0.toInt32), (.int f1.toInt32), (.int (nar .char iq.toInt32))] (.int 0) := Arv.set Ar30 q30 S30 M30 H30 G30 (fits_nar_char _) W31 2 rfl (Nat.le_of_ble_eq_true rfl)
  have N31 := Fr.snoc X31 N22 g_cc
  have O32 := O23.wr W31 g_cc
  have K32 : Keep h0 h31 [lc, jc, sa, va, cc] := K23.wr W31 (Or.inl (List.mem_of_getElem? (i := 4) rfl))
  refine own_on (B := T31.setTop (mkF m 45 #[rv u0, iv 2, dw dd, sn, iv 0, iv iq.toInt32] [])) (fun tz kz => st31 _ kz) ?_
  have Vz : Arv Z h31 cc kk .char (32768 : Int32) [(.int f0.toInt32), (.int f1.toInt32), (.int iq.toInt32)] (.int 0) := by have z := V31; rw [(own_i2c iq1 hq4).2] at z; exact z
  have f_33 := ((E_u0.keep Kq22).wr W31)
  have f_34 := ((Fd.keep Kq22 (ninS ne_u0_lc (ninS ne_u0_jc (ninS ne_u0_sa (ninS ne_u0_va nin0))))).other W31 (Or.inl ne_u0_cc))
  have f_35 := ((Fv.keep Kq22 (ninS ne_u0_lc (ninS ne_u0_jc (ninS ne_u0_sa (ninS ne_u0_va nin0))))).other W31 (Or.inl ne_u0_cc))
  have f_36 := (f_24.other W31 (Or.inl ne_u0_cc))
  have f_37 := ((Fp.keep Kq22 (ninS ne_u0_lc (ninS ne_u0_jc (ninS ne_u0_sa (ninS ne_u0_va nin0))))).other W31 (Or.inl ne_u0_cc))
  have f_38 := ((Fn.keep Kq22 (ninS ne_u0_lc (ninS ne_u0_jc (ninS ne_u0_sa (ninS ne_u0_va nin0))))).other W31 (Or.inl ne_u0_cc))
  have f_39 := ((Eln.keep Kq22).wr W31)
  have f_40 := ((Fk.keep Kq22 (ninS ne_ln_lc (ninS ne_ln_jc (ninS ne_ln_sa (ninS ne_ln_va nin0))))).other W31 (Or.inl ne_ln_cc))
  have f_41 := ((Fsl.keep Kq22 (ninS ne_ln_lc (ninS ne_ln_jc (ninS ne_ln_sa (ninS ne_ln_va nin0))))).other W31 (Or.inl ne_ln_cc))
  have f_42 := ((El.keep Kq22).wr W31)
  have f_43 := (Fc22.other W31 (Or.inl ne_lc_cc))
  have f_44 := (Fs22.other W31 (Or.inl ne_lc_cc))
  have f_45 := ((Vj.keep Kq22 (ninS (Ne.symm ne_lc_ja) (ninS ne_ja_jc (ninS ne_ja_sa (ninS ne_ja_va nin0))))).other W31 ne_ja_cc)
  have f_46 := (Vs22.other W31 ne_sa_cc)
  have f_47 := (Vv22.other W31 ne_va_cc)
  have f_48 := (f_26.other W31 ne_ca_cc)
  have f_49 := (Vl22.other W31 (Ne.symm ne_cc_jc))
  obtain ⟨fs, hr, hrun, hended, hW, hsame⟩ := X31.leave (v := none) (fun _ => rfl)
  refine own_of ⟨_, _, ?_, hrun, hended, _, _, rfl, ?_, ⟨_, rfl⟩, hW, hsame.mono (by decide) (by decide)⟩
  · show sT p e below T31 (mkF m 45 #[rv u0, iv 2, dw dd, sn, iv 0, iv iq.toInt32] []) _
    exact X31.returnOut hx Bd.returns (hb hby own_d11_45) hr
  · show Q112 Z u0 dd n x0 x1 x2 B h0 n0 _ T31.heap _
    rw [e31]
    exact ⟨rfl, N31, O32, ln, lc, ja, sa, va, ca, cc, jc, kj, ks, kv, kc, kk, kl, vsq, Sq, w0, w1, w2, w3, f0, f1, iq, mq, ⟨Nat.le_trans h1_ iq2, Nat.le_trans iq3 (Nat.succ_le_succ hB_)⟩, ⟨(Nat.lt_of_lt_of_le m0_ iq2), (Nat.lt_of_lt_of_le m1_ iq2), iq1⟩, ⟨((iq5 _ m0_).trans y0_), ((iq5 _ m1_).trans y1_), iq4⟩, o1, g_u0, f_33, f_34, f_35, f_36, f_37, f_38, f_39, f_40, f_41, f_42, f_43, f_44, f_45, f_46, f_47, f_48, Vz, f_49, hTq, hSq⟩
theorem own_ef_11z (m : MethodId) (x0 : Addr) (x1 : Int32) (x2 : UInt64) : entryFrame m #[(.ref x0), (.int x1), (.double x2)] 6 = mkF m 0 #[rv x0, iv x1, dw x2, .second, .unset, .unset] [] := by first | (simp [entryFrame, mkF, argsToLocals, Value.category]; done) | rfl
def Q11z (Z : State) (u0 : Addr) (dd : UInt64) (ln : Addr) (lc : Addr) (ja : Addr) (sa : Addr) (va : Addr) (ca : Addr) (cc : Addr) (kj : ClassId) (ks : ClassId) (kv : ClassId) (kc : ClassId) (kk : ClassId) (h0 : Heap) (n0 : Nat) (v : Option Value) (h : Heap) (L : List Loc) : Prop := v = none ∧ Fr n0 L ∧ Old Z n0 h ∧ OwnD Z h n0 u0 1 dd dd dd 1
set_option maxRecDepth 65536 in
set_option maxHeartbeats 40000000 in
theorem rm11z (l : Launch) (Z : State) (a0 : Array Value) (hw : ∀ d ∈ tables_1, d.before a0 Z = true) (ws : List Jvm.Cond) (u0 : Addr) (dd : UInt64) (ln : Addr) (lc : Addr) (ja : Addr) (sa : Addr) (va : Addr) (ca : Addr) (cc : Addr) (kj : ClassId) (ks : ClassId) (kv : ClassId) (kc : ClassId) (kk : ClassId) (h0 : Heap) (n0 : Nat) (O0 : Old Z n0 h0) (E_u0 : Exa Z h0 u0 "com/example/vows_to_moves/vowstomoves/model/DoubleColumn") (Fd : Fld Z h0 u0 "com/example/vows_to_moves/vowstomoves/model/DoubleColumn" "distinct" "Lcom/example/vows_to_moves/vowstomoves/model/LongNumbering;" (.ref ln)) (Fv : Fld Z h0 u0 "com/example/vows_to_moves/vowstomoves/model/DoubleColumn" "values" "[D" (.ref va)) (Fo : Fld Z h0 u0 "com/example/vows_to_moves/vowstomoves/model/DoubleColumn" "codes" "[[C" (.ref ca)) (Fp : Fld Z h0 u0 "com/example/vows_to_moves/vowstomoves/model/DoubleColumn" "plain" "[[D" .null) (Fn : Fld Z h0 u0 "com/example/vows_to_moves/vowstomoves/model/DoubleColumn" "size" "I" (.int (1 : Int32))) (Eln : Exa Z h0 ln "com/example/vows_to_moves/vowstomoves/model/LongNumbering") (Fk : Fld Z h0 ln "com/example/vows_to_moves/vowstomoves/model/LongNumbering" "keys" "Lcom/example/vows_to_moves/vowstomoves/model/LongColumn;" (.ref lc)) (Fsl : Fld Z h0 ln "com/example/vows_to_moves/vowstomoves/model/LongNumbering" "slots" "[I" (.ref sa)) (El : Exa Z h0 lc "com/example/vows_to_moves/vowstomoves/model/LongColumn") (Fc : Fld Z h0 lc "com/example/vows_to_moves/vowstomoves/model/LongColumn" "chunks" "[[J" (.ref ja)) (Fs : Fld Z h0 lc "com/example/vows_to_moves/vowstomoves/model/LongColumn" "size" "I" (.int (0 : Int32))) (Vj : Arv Z h0 ja kj (.array .long) (4 : Int32) [.null, .null, .null, .null] .null) (Vs : Arv Z h0 sa ks .int (32 : Int32) (List.replicate 32 (.int (-1 : Int32))) (.int 0)) (Vv : Arv Z h0 va kv .double (16 : Int32) [.double 0, .double 0, .double 0, .double 0] (.double 0)) (Va : Arv Z h0 ca kc (.array .char) (4 : Int32) [(.ref cc), .null, .null, .null] .null) (Ve : Arv Z h0 cc kk .char (32768 : Int32) [(.int 0), (.int 0), (.int 0)] (.int 0)) (Oa : OvrA Z kj .long "[J") (g_u0 : n0 ≤ u0) (o1 : @LT.lt Nat _ u0 ln ∧ @LT.lt Nat _ ln lc ∧ @LT.lt Nat _ lc ja ∧ @LT.lt Nat _ ja sa ∧ @LT.lt Nat _ sa va ∧ @LT.lt Nat _ va ca ∧ @LT.lt Nat _ ca cc) :
    MetFree l (⟨"com/example/vows_to_moves/vowstomoves/model/DoubleColumn", "set", "(ID)V"⟩ : MethodName) (head1 (Jvm.Cond.code (⟨"com/example/vows_to_moves/vowstomoves/model/DoubleColumn", "set", "(ID)V"⟩ : MethodName) prog_72_method_4_code 6 none :: ws) ({ frames := 4, cells := 1, slots := 32768, locals := 84 } : Room)) (fun a U => a = #[(.ref u0), (.int (0 : Int32)), (.double dd)] ∧ Z.Warmed39 U.vm ∧ U.heap = h0) (fun _ _ _ _ _ => True) (fun _ U o U' => ∃ v L, o = .returned v ∧ Q11z Z u0 dd ln lc ja sa va ca cc kj ks kv kc kk h0 n0 v U'.heap L ∧ FrameEnd U o U' L ({ frames := 4, cells := 1, slots := 32768, locals := 84 } : Room).cells ({ frames := 4, cells := 1, slots := 32768, locals := 84 } : Room).slots) := by
  refine MetFree.of_bodySF (plainFor_of_name own_pn_com_example_vows_to_moves_vowstomoves_model_DoubleColumn) hisR ?_
  intro p e s m args below meth c s₁ Bd hml0 hP hK
  obtain ⟨rfl, hZ, hh⟩ := hP
  have hx := Bd.exec
  have hby := Bd.bytes
  have hml : c.maxLocals = 6 := hml0
  have hown : s.vm.findClass "com/example/vows_to_moves/vowstomoves/model/DoubleColumn" = some m.cls := findClass_of_methodNamed Bd.named
  have hnm := (name_of_methodNamed Bd.named Bd.method).1
  have X0 : Stand p l e ({ frames := 4, cells := 1, slots := 32768, locals := 84 } : Room) s m #[(.ref u0), (.int (0 : Int32)), (.double dd)] below meth c s₁ [] 0 0 := Stand.of_body Bd
  have e0 : s₁.heap = h0 := by rw [← hh, Bd.state]; rfl
  have N0 := Fr.nil n0
  change Go p.tables e below _ _
  refine own_on (B := s₁.setTop (mkF m 0 #[rv u0, iv 0, dw dd, sn, un, un] [])) (fun tz kz => castTop (own_ef_11z m u0 (0 : Int32) dd) kz) ?_
  have ne_u0_ln : u0 ≠ ln := Nat.ne_of_lt (show @LT.lt Nat _ u0 ln by omega)
  have ne_u0_lc : u0 ≠ lc := Nat.ne_of_lt (show @LT.lt Nat _ u0 lc by omega)
  have ne_u0_ja : u0 ≠ ja := Nat.ne_of_lt (show @LT.lt Nat _ u0 ja by omega)
  have ne_u0_sa : u0 ≠ sa := Nat.ne_of_lt (show @LT.lt Nat _ u0 sa by omega)
  have ne_u0_va : u0 ≠ va := Nat.ne_of_lt (show @LT.lt Nat _ u0 va by omega)
  have ne_u0_ca : u0 ≠ ca := Nat.ne_of_lt (show @LT.lt Nat _ u0 ca by omega)
  have ne_u0_cc : u0 ≠ cc := Nat.ne_of_lt (show @LT.lt Nat _ u0 cc by omega)
  have ne_ln_lc : ln ≠ lc := Nat.ne_of_lt (show @LT.lt Nat _ ln lc by omega)
  have ne_ln_ja : ln ≠ ja := Nat.ne_of_lt (show @LT.lt Nat _ ln ja by omega)
  have ne_ln_sa : ln ≠ sa := Nat.ne_of_lt (show @LT.lt Nat _ ln sa by omega)
  have ne_ln_va : ln ≠ va := Nat.ne_of_lt (show @LT.lt Nat _ ln va by omega)
  have ne_ln_ca : ln ≠ ca := Nat.ne_of_lt (show @LT.lt Nat _ ln ca by omega)
  have ne_ln_cc : ln ≠ cc := Nat.ne_of_lt (show @LT.lt Nat _ ln cc by omega)
  have ne_lc_ja : lc ≠ ja := Nat.ne_of_lt (show @LT.lt Nat _ lc ja by omega)
  have ne_lc_sa : lc ≠ sa := Nat.ne_of_lt (show @LT.lt Nat _ lc sa by omega)
  have ne_lc_va : lc ≠ va := Nat.ne_of_lt (show @LT.lt Nat _ lc va by omega)
  have ne_lc_ca : lc ≠ ca := Nat.ne_of_lt (show @LT.lt Nat _ lc ca by omega)
  have ne_lc_cc : lc ≠ cc := Nat.ne_of_lt (show @LT.lt Nat _ lc cc by omega)
  have ne_ja_sa : ja ≠ sa := Nat.ne_of_lt (show @LT.lt Nat _ ja sa by omega)
  have ne_ja_va : ja ≠ va := Nat.ne_of_lt (show @LT.lt Nat _ ja va by omega)
  have ne_ja_ca : ja ≠ ca := Nat.ne_of_lt (show @LT.lt Nat _ ja ca by omega)
  have ne_ja_cc : ja ≠ cc := Nat.ne_of_lt (show @LT.lt Nat _ ja cc by omega)
  have ne_sa_va : sa ≠ va := Nat.ne_of_lt (show @LT.lt Nat _ sa va by omega)
  have ne_sa_ca : sa ≠ ca := Nat.ne_of_lt (show @LT.lt Nat _ sa ca by omega)
  have ne_sa_cc : sa ≠ cc := Nat.ne_of_lt (show @LT.lt Nat _ sa cc by omega)
  have ne_va_ca : va ≠ ca := Nat.ne_of_lt (show @LT.lt Nat _ va ca by omega)
  have ne_va_cc : va ≠ cc := Nat.ne_of_lt (show @LT.lt Nat _ va cc by omega)
  have ne_ca_cc : ca ≠ cc := Nat.ne_of_lt (show @LT.lt Nat _ ca cc by omega)
  have g_ln : n0 ≤ ln := (show @LE.le Nat _ n0 ln by omega)
  have g_lc : n0 ≤ lc := (show @LE.le Nat _ n0 lc by omega)
  have g_ja : n0 ≤ ja := (show @LE.le Nat _ n0 ja by omega)
  have g_sa : n0 ≤ sa := (show @LE.le Nat _ n0 sa by omega)
  have g_va : n0 ≤ va := (show @LE.le Nat _ n0 va by omega)
  have g_ca : n0 ≤ ca := (show @LE.le Nat _ n0 ca by omega)
  have g_cc : n0 ≤ cc := (show @LE.le Nat _ n0 cc by omega)
  refine own_on (B := s₁.setTop (mkF m 7 #[rv u0, iv 0, dw dd, sn, iv 0, un] [(.ref u0)])) (fun tz kz => ?_) ?_
  · show sT p e below s₁ (mkF m 0 #[rv u0, iv 0, dw dd, sn, un, un] []) tz
    refine XS.iloadN X0.here hx rfl (hb hby own_d11_0) rfl ?_
    show sT p e below s₁ (mkF m 1 #[rv u0, iv 0, dw dd, sn, un, un] [(.int 0)]) tz
    refine XS.bipush X0.here hx rfl (hb hby own_d11_1) ?_
    show sT p e below s₁ (mkF m 3 #[rv u0, iv 0, dw dd, sn, un, un] [(.int 15), (.int 0)]) tz
    refine XS.iushr X0.here hx rfl (hb hby own_d11_3) rfl ?_
    show sT p e below s₁ (mkF m 4 #[rv u0, iv 0, dw dd, sn, un, un] [(.int 0)]) tz
    refine XS.istore X0.here hx rfl (hb hby own_d11_4) rfl (l' := #[rv u0, iv 0, dw dd, sn, iv 0, un]) rfl ?_
    show sT p e below s₁ (mkF m 6 #[rv u0, iv 0, dw dd, sn, iv 0, un] []) tz
    refine XS.aloadN X0.here hx rfl (hb hby own_d11_6) rfl rfl ?_
    exact kz
  obtain ⟨T21, X21, e21, st21⟩ := getF X0 hx hZ hown (host := "") (Or.inl (own_w hw 68 rfl)) Via.refl e0 Fp (g := (mkF m 7 #[rv u0, iv 0, dw dd, sn, iv 0, un] [(.ref u0)])) rfl rfl (hb hby own_d11_7)
  refine own_on (B := T21.setTop (mkF m 10 #[rv u0, iv 0, dw dd, sn, iv 0, un] [.null])) (fun tz kz => st21 _ kz) ?_
  refine own_on (B := T21.setTop (mkF m 15 #[rv u0, iv 0, dw dd, sn, iv 0, un] [(.double dd), (.ref u0)])) (fun tz kz => ?_) ?_
  · show sT p e below T21 (mkF m 10 #[rv u0, iv 0, dw dd, sn, iv 0, un] [.null]) tz
    refine XS.ifnonnullNo X21.here hx rfl (hb hby own_d11_10) rfl ?_
    show sT p e below T21 (mkF m 13 #[rv u0, iv 0, dw dd, sn, iv 0, un] []) tz
    refine XS.aloadN X21.here hx rfl (hb hby own_d11_13) rfl rfl ?_
    show sT p e below T21 (mkF m 14 #[rv u0, iv 0, dw dd, sn, iv 0, un] [(.ref u0)]) tz
    refine XS.dloadN X21.here hx rfl (hb hby own_d11_14) rfl ?_
    exact kz
  obtain ⟨cq22, q22, q22'⟩ := E_u0.cell
  obtain ⟨_, _, ⟨T22, L22, k22, n22⟩, -, X22, ⟨Lc22, hQ22, l22, y22, z22⟩, st22⟩ := X21.privateBack hx (y := (⟨"com/example/vows_to_moves/vowstomoves/model/DoubleColumn", "code", "(D)I"⟩ : MethodName)) hown (mvT hZ (own_w hw 78 rfl)) (mvT hZ (own_w hw 79 rfl)) (mvT hZ (own_psel (y := (⟨"com/example/vows_to_moves/vowstomoves/model/DoubleColumn", "code", "(D)I"⟩ : MethodName)) (C := "com/example/vows_to_moves/vowstomoves/model/DoubleColumn") rfl (own_w hw 1 rfl) (own_w hw 80 rfl) (own_w hw 79 rfl) (by decide))) (Cond.privateMethod_at (mvP hZ (own_w hw 80 rfl) (args := #[]))) (mvT hZ (own_w hw 81 rfl)) (by decide) (backOf (W := 0) (rm120 l Z a0 hw [] u0 dd ln lc ja sa va kj ks kv (List.replicate 32 (.int (-1 : Int32))) [] h0 n0 O0 E_u0 g_u0 Fd Fv Eln Fk Fsl El Fc Fs Vj Vs Vv own_tab0 (Nat.le_refl _) Oa (by omega)) hZ (own_w hw 81 rfl) (own_w hw 2 rfl) (by decide) (by decide)) (g := (mkF m 15 #[rv u0, iv 0, dw dd, sn, iv 0, un] [(.double dd), (.ref u0)])) rfl (by rw [hml]; rfl) (Steps.refl _) (a := u0) (by rw [e21]; exact q22) q22' (argsL := [(.double dd)]) (rest := []) (lenOf own_pd11 rfl) rfl (by show 2 * 0 + _ ≤ _; exact Nat.le_of_eq rfl) (hb hby own_d11_15) (fun _ _ => ⟨rfl, e21, (by decide : 0 + 1 ≤ _), (by decide : 0 + 32768 ≤ _)⟩)
  dsimp only [Pt.U, Pt.locs, Pt.cells, Pt.slots] at X22 l22 y22 z22 st22 hQ22
  subst l22 y22 z22
  obtain ⟨jc22, kl22, vsq, Sq, rfl, Nq22, Kq22, zq22, hTq, hSq, Fs22, Fc22, Vs22, Vv22, Vj22, Vl22⟩ := hQ22
  have N22 := Fr.app N0 Nq22
  have ne_u0_jc22 : u0 ≠ jc22 := Nat.ne_of_lt (Nat.lt_of_lt_of_le (E_u0).lt zq22)
  have lne_u0_jc22 : @LT.lt Nat _ u0 jc22 := Nat.lt_of_lt_of_le (E_u0).lt zq22
  have ne_ln_jc22 : ln ≠ jc22 := Nat.ne_of_lt (Nat.lt_of_lt_of_le (Eln).lt zq22)
  have lne_ln_jc22 : @LT.lt Nat _ ln jc22 := Nat.lt_of_lt_of_le (Eln).lt zq22
  have ne_lc_jc22 : lc ≠ jc22 := Nat.ne_of_lt (Nat.lt_of_lt_of_le (El).lt zq22)
  have lne_lc_jc22 : @LT.lt Nat _ lc jc22 := Nat.lt_of_lt_of_le (El).lt zq22
  have ne_ja_jc22 : ja ≠ jc22 := Nat.ne_of_lt (Nat.lt_of_lt_of_le (Vj).lt zq22)
  have lne_ja_jc22 : @LT.lt Nat _ ja jc22 := Nat.lt_of_lt_of_le (Vj).lt zq22
  have ne_sa_jc22 : sa ≠ jc22 := Nat.ne_of_lt (Nat.lt_of_lt_of_le (Vs).lt zq22)
  have lne_sa_jc22 : @LT.lt Nat _ sa jc22 := Nat.lt_of_lt_of_le (Vs).lt zq22
  have ne_va_jc22 : va ≠ jc22 := Nat.ne_of_lt (Nat.lt_of_lt_of_le (Vv).lt zq22)
  have lne_va_jc22 : @LT.lt Nat _ va jc22 := Nat.lt_of_lt_of_le (Vv).lt zq22
  have ne_ca_jc22 : ca ≠ jc22 := Nat.ne_of_lt (Nat.lt_of_lt_of_le (Va).lt zq22)
  have lne_ca_jc22 : @LT.lt Nat _ ca jc22 := Nat.lt_of_lt_of_le (Va).lt zq22
  have ne_cc_jc22 : cc ≠ jc22 := Nat.ne_of_lt (Nat.lt_of_lt_of_le (Ve).lt zq22)
  have lne_cc_jc22 : @LT.lt Nat _ cc jc22 := Nat.lt_of_lt_of_le (Ve).lt zq22
  have g_jc22 : n0 ≤ jc22 := Nat.le_trans (own_old O0) zq22
  have sz_jc22 : h0.size ≤ jc22 := Nat.le_trans (Keep.refl h0 [lc, ja, sa, va, cc]).1 zq22
  have O23 := O0.keep Kq22 (allS g_lc (allS g_ja (allS g_sa (allS g_va all0))))
  have K23 : Keep h0 T22.heap [lc, ja, sa, va, cc] := (Keep.refl h0 [lc, ja, sa, va, cc]).trans Kq22 (allS (Or.inl (List.mem_of_getElem? (i := 0) rfl)) (allS (Or.inl (List.mem_of_getElem? (i := 1) rfl)) (allS (Or.inl (List.mem_of_getElem? (i := 2) rfl)) (allS (Or.inl (List.mem_of_getElem? (i := 3) rfl)) all0))))
  refine own_on (B := T22.setTop (mkF m 18 #[rv u0, iv 0, dw dd, sn, iv 0, un] [(.int 0)])) (fun tz kz => st22.trans kz) ?_
  refine own_on (B := T22.setTop (mkF m 30 #[rv u0, iv 0, dw dd, sn, iv 0, iv 0] [(.ref u0)])) (fun tz kz => ?_) ?_
  · show sT p e below T22 (mkF m 18 #[rv u0, iv 0, dw dd, sn, iv 0, un] [(.int 0)]) tz
    refine XS.goto X22.here hx rfl (pc0 := 18) (pc' := 22) rfl (hb hby own_d11_18) (by decide) (by decide) ?_
    show sT p e below T22 (mkF m 22 #[rv u0, iv 0, dw dd, sn, iv 0, un] [(.int 0)]) tz
    refine XS.istore X22.here hx rfl (hb hby own_d11_22) rfl (l' := #[rv u0, iv 0, dw dd, sn, iv 0, iv 0]) rfl ?_
    show sT p e below T22 (mkF m 24 #[rv u0, iv 0, dw dd, sn, iv 0, iv 0] []) tz
    refine XS.iload X22.here hx rfl (hb hby own_d11_24) rfl ?_
    show sT p e below T22 (mkF m 26 #[rv u0, iv 0, dw dd, sn, iv 0, iv 0] [(.int 0)]) tz
    refine XS.ifNo X22.here hx rfl (hb hby own_d11_26) rfl ((if0 _ _).trans (flt Int32.lt_irrefl).1) ?_
    show sT p e below T22 (mkF m 29 #[rv u0, iv 0, dw dd, sn, iv 0, iv 0] []) tz
    refine XS.aloadN X22.here hx rfl (hb hby own_d11_29) rfl rfl ?_
    exact kz
  have f_24 := (Fo.keep Kq22 (ninS ne_u0_lc (ninS ne_u0_ja (ninS ne_u0_sa (ninS ne_u0_va nin0)))))
  obtain ⟨T25, X25, e25, st25⟩ := getF X22 hx hZ hown (host := "") (Or.inl (own_w hw 59 rfl)) Via.refl rfl f_24 (g := (mkF m 30 #[rv u0, iv 0, dw dd, sn, iv 0, iv 0] [(.ref u0)])) rfl rfl (hb hby own_d11_30)
  refine own_on (B := T25.setTop (mkF m 33 #[rv u0, iv 0, dw dd, sn, iv 0, iv 0] [(.ref ca)])) (fun tz kz => st25 _ kz) ?_
  refine own_on (B := T25.setTop (mkF m 35 #[rv u0, iv 0, dw dd, sn, iv 0, iv 0] [(.int 0), (.ref ca)])) (fun tz kz => ?_) ?_
  · show sT p e below T25 (mkF m 33 #[rv u0, iv 0, dw dd, sn, iv 0, iv 0] [(.ref ca)]) tz
    refine XS.iload X25.here hx rfl (hb hby own_d11_33) rfl ?_
    exact kz
  have f_26 := (Va.keep Kq22 (ninS (Ne.symm ne_lc_ca) (ninS (Ne.symm ne_ja_ca) (ninS (Ne.symm ne_sa_ca) (ninS (Ne.symm ne_va_ca) nin0)))))
  obtain ⟨cl27, Ar27, q27, S27, M27, H27, G27⟩ := id f_26
  have hin28 : ¬ ((0 : Int32) < 0 ∨ cl27.slots.size ≤ ((0 : Int32)).toNatClampNeg) := inb_of S27 ⟨by decide, by decide⟩
  have hat28 : cl27.slots[((0 : Int32)).toNatClampNeg]? = some (.ref cc) := Has.at H27 hin28 rfl
  refine own_on (B := T25.setTop (mkF m 44 #[rv u0, iv 0, dw dd, sn, iv 0, iv 0] [(.int 0), (.int 0), (.ref cc)])) (fun tz kz => ?_) ?_
  · show sT p e below T25 (mkF m 35 #[rv u0, iv 0, dw dd, sn, iv 0, iv 0] [(.int 0), (.ref ca)]) tz
    refine X25.aaload hx (j := (0 : Int32)) (v := (.ref cc)) (by rw [e25]; exact Ar27.1) (State.isArrayOf_alike hZ.alike Ar27.2.1) rfl Ar27.2.2 hin28 hat28 (g := (mkF m 35 #[rv u0, iv 0, dw dd, sn, iv 0, iv 0] [(.int 0), (.ref ca)])) rfl rfl (hb hby own_d11_35) _ ?_
    show sT p e below T25 (mkF m 36 #[rv u0, iv 0, dw dd, sn, iv 0, iv 0] [(.ref cc)]) tz
    refine XS.iloadN X25.here hx rfl (hb hby own_d11_36) rfl ?_
    show sT p e below T25 (mkF m 37 #[rv u0, iv 0, dw dd, sn, iv 0, iv 0] [(.int 0), (.ref cc)]) tz
    refine XS.sipush X25.here hx rfl (hb hby own_d11_37) ?_
    show sT p e below T25 (mkF m 40 #[rv u0, iv 0, dw dd, sn, iv 0, iv 0] [(.int 32767), (.int 0), (.ref cc)]) tz
    refine XS.iand X25.here hx rfl (hb hby own_d11_40) rfl ?_
    show sT p e below T25 (mkF m 41 #[rv u0, iv 0, dw dd, sn, iv 0, iv 0] [(.int 0), (.ref cc)]) tz
    refine XS.iload X25.here hx rfl (hb hby own_d11_41) rfl ?_
    show sT p e below T25 (mkF m 43 #[rv u0, iv 0, dw dd, sn, iv 0, iv 0] [(.int 0), (.int 0), (.ref cc)]) tz
    refine XS.i2c X25.here hx rfl (hb hby own_d11_43) rfl ?_
    exact kz
  have f_29 := (Ve.keep Kq22 (ninS (Ne.symm ne_lc_cc) (ninS (Ne.symm ne_ja_cc) (ninS (Ne.symm ne_sa_cc) (ninS (Ne.symm ne_va_cc) nin0)))))
  obtain ⟨cl30, Ar30, q30, S30, M30, H30, G30⟩ := id f_29
  have hin31 : ¬ ((0 : Int32) < 0 ∨ cl30.slots.size ≤ ((0 : Int32)).toNatClampNeg) := inb_of S30 ⟨by decide, by decide⟩
  obtain ⟨T31, h31, X31, e31, W31, st31⟩ := stC X25 hx hZ e25 Ar30 (j := (0 : Int32)) hin31 (g := (mkF m 44 #[rv u0, iv 0, dw dd, sn, iv 0, iv 0] [(.int 0), (.int 0), (.ref cc)])) rfl rfl (hb hby own_d11_44)
  have V31 : Arv Z h31 cc kk .char (32768 : Int32) [(.int (nar .char (0 : Int32))), (.int 0), (.int 0)] (.int 0) := Arv.set Ar30 q30 S30 M30 H30 G30 (fits_nar_char _) W31 0 rfl (Nat.le_of_ble_eq_true rfl)
  have N31 := Fr.snoc X31 N22 g_cc
  have O32 := O23.wr W31 g_cc
  have K32 : Keep h0 h31 [lc, ja, sa, va, cc] := K23.wr W31 (Or.inl (List.mem_of_getElem? (i := 4) rfl))
  refine own_on (B := T31.setTop (mkF m 45 #[rv u0, iv 0, dw dd, sn, iv 0, iv 0] [])) (fun tz kz => st31 _ kz) ?_
  have f_33 := ((E_u0.keep Kq22).wr W31)
  have f_34 := ((Fd.keep Kq22 (ninS ne_u0_lc (ninS ne_u0_ja (ninS ne_u0_sa (ninS ne_u0_va nin0))))).other W31 (Or.inl ne_u0_cc))
  have f_35 := ((Fv.keep Kq22 (ninS ne_u0_lc (ninS ne_u0_ja (ninS ne_u0_sa (ninS ne_u0_va nin0))))).other W31 (Or.inl ne_u0_cc))
  have f_36 := (f_24.other W31 (Or.inl ne_u0_cc))
  have f_37 := ((Fp.keep Kq22 (ninS ne_u0_lc (ninS ne_u0_ja (ninS ne_u0_sa (ninS ne_u0_va nin0))))).other W31 (Or.inl ne_u0_cc))
  have f_38 := ((Fn.keep Kq22 (ninS ne_u0_lc (ninS ne_u0_ja (ninS ne_u0_sa (ninS ne_u0_va nin0))))).other W31 (Or.inl ne_u0_cc))
  have f_39 := ((Eln.keep Kq22).wr W31)
  have f_40 := ((Fk.keep Kq22 (ninS ne_ln_lc (ninS ne_ln_ja (ninS ne_ln_sa (ninS ne_ln_va nin0))))).other W31 (Or.inl ne_ln_cc))
  have f_41 := ((Fsl.keep Kq22 (ninS ne_ln_lc (ninS ne_ln_ja (ninS ne_ln_sa (ninS ne_ln_va nin0))))).other W31 (Or.inl ne_ln_cc))
  have f_42 := ((El.keep Kq22).wr W31)
  have f_43 := (Fc22.other W31 (Or.inl ne_lc_cc))
  have f_44 := (Fs22.other W31 (Or.inl ne_lc_cc))
  have f_45 := (Vj22.other W31 ne_ja_cc)
  have f_46 := (Vs22.other W31 ne_sa_cc)
  have f_47 := (Vv22.other W31 ne_va_cc)
  have f_48 := (f_26.other W31 ne_ca_cc)
  have f_49 := (Vl22.other W31 (Ne.symm ne_cc_jc22))
  obtain ⟨fs, hr, hrun, hended, hW, hsame⟩ := X31.leave (v := none) (fun _ => rfl)
  refine own_of ⟨_, _, ?_, hrun, hended, _, _, rfl, ?_, ⟨_, rfl⟩, hW, hsame.mono (by decide) (by decide)⟩
  · show sT p e below T31 (mkF m 45 #[rv u0, iv 0, dw dd, sn, iv 0, iv 0] []) _
    exact X31.returnOut hx Bd.returns (hb hby own_d11_45) hr
  · show Q11z Z u0 dd ln lc ja sa va ca cc kj ks kv kc kk h0 n0 _ T31.heap _
    rw [e31]
    exact ⟨rfl, N31, O32, ln, lc, ja, sa, va, ca, cc, jc22, kj, ks, kv, kc, kk, kl22, vsq, Sq, dd, 0, 0, 0, 0, 0, 0, 1, ⟨Nat.le_refl _, Nat.le_refl _⟩, ⟨by decide, by decide, by decide⟩, ⟨rfl, rfl, rfl⟩, (by omega), g_u0, f_33, f_34, f_35, f_36, f_37, f_38, f_39, f_40, f_41, f_42, f_43, f_44, f_45, f_46, f_47, f_48, V31, f_49, hTq, hSq⟩
theorem own_ef_100 (m : MethodId) (x0 : Addr) (x1 : UInt64) : entryFrame m #[(.ref x0), (.double x1)] 4 = mkF m 0 #[rv x0, dw x1, .second, .unset] [] := by first | (simp [entryFrame, mkF, argsToLocals, Value.category]; done) | rfl
def Q100 (Z : State) (u0 : Addr) (dd : UInt64) (ln : Addr) (lc : Addr) (ja : Addr) (sa : Addr) (va : Addr) (ca : Addr) (kj : ClassId) (ks : ClassId) (kv : ClassId) (kc : ClassId) (h0 : Heap) (n0 : Nat) (v : Option Value) (h : Heap) (L : List Loc) : Prop := v = none ∧ Fr n0 L ∧ Old Z n0 h ∧ OwnD Z h n0 u0 1 dd dd dd 1
theorem own_d10_0 : decode prog_72_method_5_code 0 = .ok (.aload_n 0, 1) := by decide +kernel
theorem own_d10_1 : decode prog_72_method_5_code 1 = .ok (.getfield 30, 3) := by decide +kernel
theorem own_d10_4 : decode prog_72_method_5_code 4 = .ok (.bipush 15, 2) := by decide +kernel
theorem own_d10_6 : decode prog_72_method_5_code 6 = .ok (.iushr, 1) := by decide +kernel
theorem own_d10_7 : decode prog_72_method_5_code 7 = .ok (.istore_n 3, 1) := by decide +kernel
theorem own_d10_8 : decode prog_72_method_5_code 8 = .ok (.aload_n 0, 1) := by decide +kernel
theorem own_d10_9 : decode prog_72_method_5_code 9 = .ok (.getfield 36, 3) := by decide +kernel
theorem own_d10_12 : decode prog_72_method_5_code 12 = .ok (.ifnonnull 51, 3) := by decide +kernel
theorem own_d10_15 : decode prog_72_method_5_code 15 = .ok (.iload_n 3, 1) := by decide +kernel
theorem own_d10_16 : decode prog_72_method_5_code 16 = .ok (.aload_n 0, 1) := by decide +kernel
theorem own_d10_17 : decode prog_72_method_5_code 17 = .ok (.getfield 26, 3) := by decide +kernel
theorem own_d10_20 : decode prog_72_method_5_code 20 = .ok (.arraylength, 1) := by decide +kernel
theorem own_d10_21 : decode prog_72_method_5_code 21 = .ok (.if_icmp .ne 20, 3) := by decide +kernel
theorem own_d10_41 : decode prog_72_method_5_code 41 = .ok (.aload_n 0, 1) := by decide +kernel
theorem own_d10_42 : decode prog_72_method_5_code 42 = .ok (.getfield 26, 3) := by decide +kernel
theorem own_d10_45 : decode prog_72_method_5_code 45 = .ok (.iload_n 3, 1) := by decide +kernel
theorem own_d10_46 : decode prog_72_method_5_code 46 = .ok (.aaload, 1) := by decide +kernel
theorem own_d10_47 : decode prog_72_method_5_code 47 = .ok (.ifnonnull 61, 3) := by decide +kernel
theorem own_d10_50 : decode prog_72_method_5_code 50 = .ok (.aload_n 0, 1) := by decide +kernel
theorem own_d10_51 : decode prog_72_method_5_code 51 = .ok (.getfield 26, 3) := by decide +kernel
theorem own_d10_54 : decode prog_72_method_5_code 54 = .ok (.iload_n 3, 1) := by decide +kernel
theorem own_d10_55 : decode prog_72_method_5_code 55 = .ok (.ldc 54, 2) := by decide +kernel
theorem own_d10_57 : decode prog_72_method_5_code 57 = .ok (.newarray .char, 2) := by decide +kernel
theorem own_d10_59 : decode prog_72_method_5_code 59 = .ok (.aastore, 1) := by decide +kernel
theorem own_d10_60 : decode prog_72_method_5_code 60 = .ok (.goto 48, 3) := by decide +kernel
theorem own_d10_108 : decode prog_72_method_5_code 108 = .ok (.aload_n 0, 1) := by decide +kernel
theorem own_d10_109 : decode prog_72_method_5_code 109 = .ok (.dup, 1) := by decide +kernel
theorem own_d10_110 : decode prog_72_method_5_code 110 = .ok (.getfield 30, 3) := by decide +kernel
theorem own_d10_113 : decode prog_72_method_5_code 113 = .ok (.iconst 1, 1) := by decide +kernel
theorem own_d10_114 : decode prog_72_method_5_code 114 = .ok (.iadd, 1) := by decide +kernel
theorem own_d10_115 : decode prog_72_method_5_code 115 = .ok (.putfield 30, 3) := by decide +kernel
theorem own_d10_118 : decode prog_72_method_5_code 118 = .ok (.aload_n 0, 1) := by decide +kernel
theorem own_d10_119 : decode prog_72_method_5_code 119 = .ok (.aload_n 0, 1) := by decide +kernel
theorem own_d10_120 : decode prog_72_method_5_code 120 = .ok (.getfield 30, 3) := by decide +kernel
theorem own_d10_123 : decode prog_72_method_5_code 123 = .ok (.iconst 1, 1) := by decide +kernel
theorem own_d10_124 : decode prog_72_method_5_code 124 = .ok (.isub, 1) := by decide +kernel
theorem own_d10_125 : decode prog_72_method_5_code 125 = .ok (.dload_n 1, 1) := by decide +kernel
theorem own_pd12 : parseMethodDescriptor "(ID)V" = some ⟨[.int, .double], none⟩ := by decide +kernel
theorem own_d10_126 : decode prog_72_method_5_code 126 = .ok (.invokevirtual 56, 3) := by decide +kernel
theorem own_d10_129 : decode prog_72_method_5_code 129 = .ok (.return_, 1) := by decide +kernel
set_option maxRecDepth 65536 in
set_option maxHeartbeats 40000000 in
theorem rm100 (l : Launch) (Z : State) (a0 : Array Value) (hw : ∀ d ∈ tables_1, d.before a0 Z = true) (ws : List Jvm.Cond) (u0 : Addr) (dd : UInt64) (ln : Addr) (lc : Addr) (ja : Addr) (sa : Addr) (va : Addr) (ca : Addr) (kj : ClassId) (ks : ClassId) (kv : ClassId) (kc : ClassId) (h0 : Heap) (n0 : Nat) (O0 : Old Z n0 h0) (E_u0 : Exa Z h0 u0 "com/example/vows_to_moves/vowstomoves/model/DoubleColumn") (Fd : Fld Z h0 u0 "com/example/vows_to_moves/vowstomoves/model/DoubleColumn" "distinct" "Lcom/example/vows_to_moves/vowstomoves/model/LongNumbering;" (.ref ln)) (Fv : Fld Z h0 u0 "com/example/vows_to_moves/vowstomoves/model/DoubleColumn" "values" "[D" (.ref va)) (Fo : Fld Z h0 u0 "com/example/vows_to_moves/vowstomoves/model/DoubleColumn" "codes" "[[C" (.ref ca)) (Fp : Fld Z h0 u0 "com/example/vows_to_moves/vowstomoves/model/DoubleColumn" "plain" "[[D" .null) (Fn : Fld Z h0 u0 "com/example/vows_to_moves/vowstomoves/model/DoubleColumn" "size" "I" (.int (0 : Int32))) (Eln : Exa Z h0 ln "com/example/vows_to_moves/vowstomoves/model/LongNumbering") (Fk : Fld Z h0 ln "com/example/vows_to_moves/vowstomoves/model/LongNumbering" "keys" "Lcom/example/vows_to_moves/vowstomoves/model/LongColumn;" (.ref lc)) (Fsl : Fld Z h0 ln "com/example/vows_to_moves/vowstomoves/model/LongNumbering" "slots" "[I" (.ref sa)) (El : Exa Z h0 lc "com/example/vows_to_moves/vowstomoves/model/LongColumn") (Fc : Fld Z h0 lc "com/example/vows_to_moves/vowstomoves/model/LongColumn" "chunks" "[[J" (.ref ja)) (Fs : Fld Z h0 lc "com/example/vows_to_moves/vowstomoves/model/LongColumn" "size" "I" (.int (0 : Int32))) (Vj : Arv Z h0 ja kj (.array .long) (4 : Int32) [.null, .null, .null, .null] .null) (Vs : Arv Z h0 sa ks .int (32 : Int32) (List.replicate 32 (.int (-1 : Int32))) (.int 0)) (Vv : Arv Z h0 va kv .double (16 : Int32) [.double 0, .double 0, .double 0, .double 0] (.double 0)) (Va : Arv Z h0 ca kc (.array .char) (4 : Int32) [.null, .null, .null, .null] .null) (Oa : OvrA Z kj .long "[J") (Ob : OvrA Z kc .char "[C") (g_u0 : n0 ≤ u0) (o1 : @LT.lt Nat _ u0 ln ∧ @LT.lt Nat _ ln lc ∧ @LT.lt Nat _ lc ja ∧ @LT.lt Nat _ ja sa ∧ @LT.lt Nat _ sa va ∧ @LT.lt Nat _ va ca) :
    MetFree l (⟨"com/example/vows_to_moves/vowstomoves/model/DoubleColumn", "add", "(D)V"⟩ : MethodName) (head1 (Jvm.Cond.code (⟨"com/example/vows_to_moves/vowstomoves/model/DoubleColumn", "add", "(D)V"⟩ : MethodName) prog_72_method_5_code 4 none :: ws) ({ frames := 5, cells := 2, slots := 65536, locals := 108 } : Room)) (fun a U => a = #[(.ref u0), (.double dd)] ∧ Z.Warmed39 U.vm ∧ U.heap = h0) (fun _ _ _ _ _ => True) (fun _ U o U' => ∃ v L, o = .returned v ∧ Q100 Z u0 dd ln lc ja sa va ca kj ks kv kc h0 n0 v U'.heap L ∧ FrameEnd U o U' L ({ frames := 5, cells := 2, slots := 65536, locals := 108 } : Room).cells ({ frames := 5, cells := 2, slots := 65536, locals := 108 } : Room).slots) := by
  refine MetFree.of_bodySF (plainFor_of_name own_pn_com_example_vows_to_moves_vowstomoves_model_DoubleColumn) hisR ?_
  intro p e s m args below meth c s₁ Bd hml0 hP hK
  obtain ⟨rfl, hZ, hh⟩ := hP
  have hx := Bd.exec
  have hby := Bd.bytes
  have hml : c.maxLocals = 4 := hml0
  have hown : s.vm.findClass "com/example/vows_to_moves/vowstomoves/model/DoubleColumn" = some m.cls := findClass_of_methodNamed Bd.named
  have hnm := (name_of_methodNamed Bd.named Bd.method).1
  have X0 : Stand p l e ({ frames := 5, cells := 2, slots := 65536, locals := 108 } : Room) s m #[(.ref u0), (.double dd)] below meth c s₁ [] 0 0 := Stand.of_body Bd
  have e0 : s₁.heap = h0 := by rw [← hh, Bd.state]; rfl
  have N0 := Fr.nil n0
  change Go p.tables e below _ _
  refine own_on (B := s₁.setTop (mkF m 0 #[rv u0, dw dd, sn, un] [])) (fun tz kz => castTop (own_ef_100 m u0 dd) kz) ?_
  have ne_u0_ln : u0 ≠ ln := Nat.ne_of_lt (show @LT.lt Nat _ u0 ln by omega)
  have ne_u0_lc : u0 ≠ lc := Nat.ne_of_lt (show @LT.lt Nat _ u0 lc by omega)
  have ne_u0_ja : u0 ≠ ja := Nat.ne_of_lt (show @LT.lt Nat _ u0 ja by omega)
  have ne_u0_sa : u0 ≠ sa := Nat.ne_of_lt (show @LT.lt Nat _ u0 sa by omega)
  have ne_u0_va : u0 ≠ va := Nat.ne_of_lt (show @LT.lt Nat _ u0 va by omega)
  have ne_u0_ca : u0 ≠ ca := Nat.ne_of_lt (show @LT.lt Nat _ u0 ca by omega)
  have ne_ln_lc : ln ≠ lc := Nat.ne_of_lt (show @LT.lt Nat _ ln lc by omega)
  have ne_ln_ja : ln ≠ ja := Nat.ne_of_lt (show @LT.lt Nat _ ln ja by omega)
  have ne_ln_sa : ln ≠ sa := Nat.ne_of_lt (show @LT.lt Nat _ ln sa by omega)
  have ne_ln_va : ln ≠ va := Nat.ne_of_lt (show @LT.lt Nat _ ln va by omega)
  have ne_ln_ca : ln ≠ ca := Nat.ne_of_lt (show @LT.lt Nat _ ln ca by omega)
  have ne_lc_ja : lc ≠ ja := Nat.ne_of_lt (show @LT.lt Nat _ lc ja by omega)
  have ne_lc_sa : lc ≠ sa := Nat.ne_of_lt (show @LT.lt Nat _ lc sa by omega)
  have ne_lc_va : lc ≠ va := Nat.ne_of_lt (show @LT.lt Nat _ lc va by omega)
  have ne_lc_ca : lc ≠ ca := Nat.ne_of_lt (show @LT.lt Nat _ lc ca by omega)
  have ne_ja_sa : ja ≠ sa := Nat.ne_of_lt (show @LT.lt Nat _ ja sa by omega)
  have ne_ja_va : ja ≠ va := Nat.ne_of_lt (show @LT.lt Nat _ ja va by omega)
  have ne_ja_ca : ja ≠ ca := Nat.ne_of_lt (show @LT.lt Nat _ ja ca by omega)
  have ne_sa_va : sa ≠ va := Nat.ne_of_lt (show @LT.lt Nat _ sa va by omega)
  have ne_sa_ca : sa ≠ ca := Nat.ne_of_lt (show @LT.lt Nat _ sa ca by omega)
  have ne_va_ca : va ≠ ca := Nat.ne_of_lt (show @LT.lt Nat _ va ca by omega)
  have g_ln : n0 ≤ ln := (show @LE.le Nat _ n0 ln by omega)
  have g_lc : n0 ≤ lc := (show @LE.le Nat _ n0 lc by omega)
  have g_ja : n0 ≤ ja := (show @LE.le Nat _ n0 ja by omega)
  have g_sa : n0 ≤ sa := (show @LE.le Nat _ n0 sa by omega)
  have g_va : n0 ≤ va := (show @LE.le Nat _ n0 va by omega)
  have g_ca : n0 ≤ ca := (show @LE.le Nat _ n0 ca by omega)
  refine own_on (B := s₁.setTop (mkF m 1 #[rv u0, dw dd, sn, un] [(.ref u0)])) (fun tz kz => ?_) ?_
  · show sT p e below s₁ (mkF m 0 #[rv u0, dw dd, sn, un] []) tz
    refine XS.aloadN X0.here hx rfl (hb hby own_d10_0) rfl rfl ?_
    exact kz
  obtain ⟨T21, X21, e21, st21⟩ := getF X0 hx hZ hown (host := "") (Or.inl (own_w hw 66 rfl)) Via.refl e0 Fn (g := (mkF m 1 #[rv u0, dw dd, sn, un] [(.ref u0)])) rfl rfl (hb hby own_d10_1)
  refine own_on (B := T21.setTop (mkF m 4 #[rv u0, dw dd, sn, un] [(.int 0)])) (fun tz kz => st21 _ kz) ?_
  refine own_on (B := T21.setTop (mkF m 9 #[rv u0, dw dd, sn, iv 0] [(.ref u0)])) (fun tz kz => ?_) ?_
  · show sT p e below T21 (mkF m 4 #[rv u0, dw dd, sn, un] [(.int 0)]) tz
    refine XS.bipush X21.here hx rfl (hb hby own_d10_4) ?_
    show sT p e below T21 (mkF m 6 #[rv u0, dw dd, sn, un] [(.int 15), (.int 0)]) tz
    refine XS.iushr X21.here hx rfl (hb hby own_d10_6) rfl ?_
    show sT p e below T21 (mkF m 7 #[rv u0, dw dd, sn, un] [(.int 0)]) tz
    refine XS.istoreN X21.here hx rfl (hb hby own_d10_7) rfl (l' := #[rv u0, dw dd, sn, iv 0]) rfl ?_
    show sT p e below T21 (mkF m 8 #[rv u0, dw dd, sn, iv 0] []) tz
    refine XS.aloadN X21.here hx rfl (hb hby own_d10_8) rfl rfl ?_
    exact kz
  obtain ⟨T22, X22, e22, st22⟩ := getF X21 hx hZ hown (host := "") (Or.inl (own_w hw 68 rfl)) Via.refl e21 Fp (g := (mkF m 9 #[rv u0, dw dd, sn, iv 0] [(.ref u0)])) rfl rfl (hb hby own_d10_9)
  refine own_on (B := T22.setTop (mkF m 12 #[rv u0, dw dd, sn, iv 0] [.null])) (fun tz kz => st22 _ kz) ?_
  refine own_on (B := T22.setTop (mkF m 17 #[rv u0, dw dd, sn, iv 0] [(.ref u0), (.int 0)])) (fun tz kz => ?_) ?_
  · show sT p e below T22 (mkF m 12 #[rv u0, dw dd, sn, iv 0] [.null]) tz
    refine XS.ifnonnullNo X22.here hx rfl (hb hby own_d10_12) rfl ?_
    show sT p e below T22 (mkF m 15 #[rv u0, dw dd, sn, iv 0] []) tz
    refine XS.iloadN X22.here hx rfl (hb hby own_d10_15) rfl ?_
    show sT p e below T22 (mkF m 16 #[rv u0, dw dd, sn, iv 0] [(.int 0)]) tz
    refine XS.aloadN X22.here hx rfl (hb hby own_d10_16) rfl rfl ?_
    exact kz
  obtain ⟨T23, X23, e23, st23⟩ := getF X22 hx hZ hown (host := "") (Or.inl (own_w hw 59 rfl)) Via.refl e22 Fo (g := (mkF m 17 #[rv u0, dw dd, sn, iv 0] [(.ref u0), (.int 0)])) rfl rfl (hb hby own_d10_17)
  refine own_on (B := T23.setTop (mkF m 20 #[rv u0, dw dd, sn, iv 0] [(.ref ca), (.int 0)])) (fun tz kz => st23 _ kz) ?_
  obtain ⟨cl24, Ar24, q24, S24, M24, H24, G24⟩ := id Va
  refine own_on (B := T23.setTop (mkF m 42 #[rv u0, dw dd, sn, iv 0] [(.ref u0)])) (fun tz kz => ?_) ?_
  · show sT p e below T23 (mkF m 20 #[rv u0, dw dd, sn, iv 0] [(.ref ca), (.int 0)]) tz
    refine X23.arraylength hx (by rw [e23]; exact Ar24.1) (State.isArrayOf_alike hZ.alike Ar24.2.1) (g := (mkF m 20 #[rv u0, dw dd, sn, iv 0] [(.ref ca), (.int 0)])) rfl rfl (hb hby own_d10_20) _ ?_
    rw [len_of S24 M24]
    show sT p e below T23 (mkF m 21 #[rv u0, dw dd, sn, iv 0] [(.int 4), (.int 0)]) tz
    refine XS.icmpYes X23.here hx rfl (pc0 := 21) (pc' := 41) rfl (hb hby own_d10_21) rfl (feq (by decide : ¬ ((0 : Int32) = (4 : Int32)))).2 (by decide) (by decide) ?_
    show sT p e below T23 (mkF m 41 #[rv u0, dw dd, sn, iv 0] []) tz
    refine XS.aloadN X23.here hx rfl (hb hby own_d10_41) rfl rfl ?_
    exact kz
  obtain ⟨T25, X25, e25, st25⟩ := getF X23 hx hZ hown (host := "") (Or.inl (own_w hw 59 rfl)) Via.refl e23 Fo (g := (mkF m 42 #[rv u0, dw dd, sn, iv 0] [(.ref u0)])) rfl rfl (hb hby own_d10_42)
  refine own_on (B := T25.setTop (mkF m 45 #[rv u0, dw dd, sn, iv 0] [(.ref ca)])) (fun tz kz => st25 _ kz) ?_
  refine own_on (B := T25.setTop (mkF m 46 #[rv u0, dw dd, sn, iv 0] [(.int 0), (.ref ca)])) (fun tz kz => ?_) ?_
  · show sT p e below T25 (mkF m 45 #[rv u0, dw dd, sn, iv 0] [(.ref ca)]) tz
    refine XS.iloadN X25.here hx rfl (hb hby own_d10_45) rfl ?_
    exact kz
  obtain ⟨cl26, Ar26, q26, S26, M26, H26, G26⟩ := id Va
  have hin27 : ¬ ((0 : Int32) < 0 ∨ cl26.slots.size ≤ ((0 : Int32)).toNatClampNeg) := inb_of S26 ⟨by decide, by decide⟩
  have hat27 : cl26.slots[((0 : Int32)).toNatClampNeg]? = some .null := Has.at H26 hin27 rfl
  refine own_on (B := T25.setTop (mkF m 51 #[rv u0, dw dd, sn, iv 0] [(.ref u0)])) (fun tz kz => ?_) ?_
  · show sT p e below T25 (mkF m 46 #[rv u0, dw dd, sn, iv 0] [(.int 0), (.ref ca)]) tz
    refine X25.aaload hx (j := (0 : Int32)) (v := .null) (by rw [e25]; exact Ar26.1) (State.isArrayOf_alike hZ.alike Ar26.2.1) rfl Ar26.2.2 hin27 hat27 (g := (mkF m 46 #[rv u0, dw dd, sn, iv 0] [(.int 0), (.ref ca)])) rfl rfl (hb hby own_d10_46) _ ?_
    show sT p e below T25 (mkF m 47 #[rv u0, dw dd, sn, iv 0] [.null]) tz
    refine XS.ifnonnullNo X25.here hx rfl (hb hby own_d10_47) rfl ?_
    show sT p e below T25 (mkF m 50 #[rv u0, dw dd, sn, iv 0] []) tz
    refine XS.aloadN X25.here hx rfl (hb hby own_d10_50) rfl rfl ?_
    exact kz
  obtain ⟨T28, X28, e28, st28⟩ := getF X25 hx hZ hown (host := "") (Or.inl (own_w hw 59 rfl)) Via.refl e25 Fo (g := (mkF m 51 #[rv u0, dw dd, sn, iv 0] [(.ref u0)])) rfl rfl (hb hby own_d10_51)
  refine own_on (B := T28.setTop (mkF m 54 #[rv u0, dw dd, sn, iv 0] [(.ref ca)])) (fun tz kz => st28 _ kz) ?_
  refine own_on (B := T28.setTop (mkF m 57 #[rv u0, dw dd, sn, iv 0] [(.int 32768), (.int 0), (.ref ca)])) (fun tz kz => ?_) ?_
  · show sT p e below T28 (mkF m 54 #[rv u0, dw dd, sn, iv 0] [(.ref ca)]) tz
    refine XS.iloadN X28.here hx rfl (hb hby own_d10_54) rfl ?_
    show sT p e below T28 (mkF m 55 #[rv u0, dw dd, sn, iv 0] [(.int 0), (.ref ca)]) tz
    refine X28.ldcInt hx hown (mvT hZ (own_w hw 70 rfl)) (g := (mkF m 55 #[rv u0, dw dd, sn, iv 0] [(.int 0), (.ref ca)])) rfl (hb hby own_d10_55) _ ?_
    exact kz
  obtain ⟨T29, h29, k29, X29, e29, E29, A29, Ex29, st29⟩ := newPE X28 hx hZ (own_w hw 71 rfl) e28 (g := (mkF m 57 #[rv u0, dw dd, sn, iv 0] [(.int 32768), (.int 0), (.ref ca)])) rfl (hb hby own_d10_57) rfl (by decide) (cap := 32768) (by decide) (by decide) (by decide) (by decide) (ad := "[C") (by decide)
  obtain ⟨b29, g29⟩ : ∃ z, z = h0.size := ⟨_, rfl⟩
  rw [← g29] at A29 st29
  rw [← g29] at Ex29
  have ne_u0_b29 : u0 ≠ b29 := Nat.ne_of_lt (Nat.lt_of_lt_of_le (E_u0).lt (Nat.le_of_eq g29.symm))
  have lne_u0_b29 : @LT.lt Nat _ u0 b29 := Nat.lt_of_lt_of_le (E_u0).lt (Nat.le_of_eq g29.symm)
  have ne_ln_b29 : ln ≠ b29 := Nat.ne_of_lt (Nat.lt_of_lt_of_le (Eln).lt (Nat.le_of_eq g29.symm))
  have lne_ln_b29 : @LT.lt Nat _ ln b29 := Nat.lt_of_lt_of_le (Eln).lt (Nat.le_of_eq g29.symm)
  have ne_lc_b29 : lc ≠ b29 := Nat.ne_of_lt (Nat.lt_of_lt_of_le (El).lt (Nat.le_of_eq g29.symm))
  have lne_lc_b29 : @LT.lt Nat _ lc b29 := Nat.lt_of_lt_of_le (El).lt (Nat.le_of_eq g29.symm)
  have ne_ja_b29 : ja ≠ b29 := Nat.ne_of_lt (Nat.lt_of_lt_of_le (Vj).lt (Nat.le_of_eq g29.symm))
  have lne_ja_b29 : @LT.lt Nat _ ja b29 := Nat.lt_of_lt_of_le (Vj).lt (Nat.le_of_eq g29.symm)
  have ne_sa_b29 : sa ≠ b29 := Nat.ne_of_lt (Nat.lt_of_lt_of_le (Vs).lt (Nat.le_of_eq g29.symm))
  have lne_sa_b29 : @LT.lt Nat _ sa b29 := Nat.lt_of_lt_of_le (Vs).lt (Nat.le_of_eq g29.symm)
  have ne_va_b29 : va ≠ b29 := Nat.ne_of_lt (Nat.lt_of_lt_of_le (Vv).lt (Nat.le_of_eq g29.symm))
  have lne_va_b29 : @LT.lt Nat _ va b29 := Nat.lt_of_lt_of_le (Vv).lt (Nat.le_of_eq g29.symm)
  have ne_ca_b29 : ca ≠ b29 := Nat.ne_of_lt (Nat.lt_of_lt_of_le (Va).lt (Nat.le_of_eq g29.symm))
  have lne_ca_b29 : @LT.lt Nat _ ca b29 := Nat.lt_of_lt_of_le (Va).lt (Nat.le_of_eq g29.symm)
  have g_b29 : n0 ≤ b29 := Nat.le_trans (own_old O0) (Nat.le_of_eq g29.symm)
  have sz_b29 : h0.size ≤ b29 := Nat.le_trans (Keep.refl h0 [u0, ca]).1 (Nat.le_of_eq g29.symm)
  have O30 := O0.ext E29
  have K30 : Keep h0 h29 [u0, ca] := (Keep.refl h0 [u0, ca]).ext E29
  have V29 : Arv Z h29 b29 k29 .char (32768 : Int32) [] (.int (0 : Int32)) := Arv.new A29 (by decide)
  refine own_on (B := T29.setTop (mkF m 59 #[rv u0, dw dd, sn, iv 0] [(.ref b29), (.int 0), (.ref ca)])) (fun tz kz => st29 _ kz) ?_
  have Vp : Arv Z h29 b29 k29 .char (32768 : Int32) [(.int 0), (.int 0), (.int 0)] (.int 0) := Arv.pad V29 (pad_rep [] (.int 0) 3)
  have f_31 := (Va.ext E29)
  obtain ⟨cl32, Ar32, q32, S32, M32, H32, G32⟩ := id f_31
  have hin33 : ¬ ((0 : Int32) < 0 ∨ cl32.slots.size ≤ ((0 : Int32)).toNatClampNeg) := inb_of S32 ⟨by decide, by decide⟩
  obtain ⟨T33, h33, X33, e33, W33, st33⟩ := stR X29 hx hZ e29 Ar32 (j := (0 : Int32)) (v := (.ref b29)) hin33 rfl (Sto.ofVA Ar32 q32 Ob (Ins.self Ex29)) (g := (mkF m 59 #[rv u0, dw dd, sn, iv 0] [(.ref b29), (.int 0), (.ref ca)])) rfl rfl (hb hby own_d10_59)
  have V33 : Arv Z h33 ca kc (.array .char) (4 : Int32) [(.ref b29), .null, .null, .null] .null := Arv.set Ar32 q32 S32 M32 H32 G32 rfl W33 0 rfl (Nat.le_of_ble_eq_true rfl)
  have N33 := Fr.snoc X33 N0 g_ca
  have O34 := O30.wr W33 g_ca
  have K34 : Keep h0 h33 [u0, ca] := K30.wr W33 (Or.inl (List.mem_of_getElem? (i := 1) rfl))
  refine own_on (B := T33.setTop (mkF m 60 #[rv u0, dw dd, sn, iv 0] [])) (fun tz kz => st33 _ kz) ?_
  refine own_on (B := T33.setTop (mkF m 110 #[rv u0, dw dd, sn, iv 0] [(.ref u0), (.ref u0)])) (fun tz kz => ?_) ?_
  · show sT p e below T33 (mkF m 60 #[rv u0, dw dd, sn, iv 0] []) tz
    refine XS.goto X33.here hx rfl (pc0 := 60) (pc' := 108) rfl (hb hby own_d10_60) (by decide) (by decide) ?_
    show sT p e below T33 (mkF m 108 #[rv u0, dw dd, sn, iv 0] []) tz
    refine XS.aloadN X33.here hx rfl (hb hby own_d10_108) rfl rfl ?_
    show sT p e below T33 (mkF m 109 #[rv u0, dw dd, sn, iv 0] [(.ref u0)]) tz
    refine XS.dup X33.here hx rfl (hb hby own_d10_109) rfl rfl ?_
    exact kz
  have f_35 := ((Fn.ext E29).other W33 (Or.inl ne_u0_ca))
  obtain ⟨T36, X36, e36, st36⟩ := getF X33 hx hZ hown (host := "") (Or.inl (own_w hw 66 rfl)) Via.refl e33 f_35 (g := (mkF m 110 #[rv u0, dw dd, sn, iv 0] [(.ref u0), (.ref u0)])) rfl rfl (hb hby own_d10_110)
  refine own_on (B := T36.setTop (mkF m 113 #[rv u0, dw dd, sn, iv 0] [(.int 0), (.ref u0)])) (fun tz kz => st36 _ kz) ?_
  refine own_on (B := T36.setTop (mkF m 115 #[rv u0, dw dd, sn, iv 0] [(.int 1), (.ref u0)])) (fun tz kz => ?_) ?_
  · show sT p e below T36 (mkF m 113 #[rv u0, dw dd, sn, iv 0] [(.int 0), (.ref u0)]) tz
    refine XS.iconst X36.here hx rfl (hb hby own_d10_113) ?_
    show sT p e below T36 (mkF m 114 #[rv u0, dw dd, sn, iv 0] [(.int 1), (.int 0), (.ref u0)]) tz
    refine XS.iadd X36.here hx rfl (hb hby own_d10_114) rfl ?_
    exact kz
  have f_37 := ((E_u0.ext E29).wr W33)
  obtain ⟨T38, h38, X38, e38, W38, st38⟩ := putF X36 hx hZ hown (host := "") (Or.inl (own_w hw 66 rfl)) Via.refl e36 f_35 f_37 (Or.inl (own_w hw 67 rfl)) (own_w hw 1 rfl) (ty := .int) (by decide) rfl rfl (g := (mkF m 115 #[rv u0, dw dd, sn, iv 0] [(.int 1), (.ref u0)])) rfl rfl (hb hby own_d10_115)
  have Fw38 := f_35.same W38
  have N38 := Fr.snoc X38 N33 g_u0
  have O39 := O34.wr W38 g_u0
  have K39 : Keep h0 h38 [u0, ca] := K34.wr W38 (Or.inl (List.mem_of_getElem? (i := 0) rfl))
  refine own_on (B := T38.setTop (mkF m 118 #[rv u0, dw dd, sn, iv 0] [])) (fun tz kz => st38 _ kz) ?_
  refine own_on (B := T38.setTop (mkF m 120 #[rv u0, dw dd, sn, iv 0] [(.ref u0), (.ref u0)])) (fun tz kz => ?_) ?_
  · show sT p e below T38 (mkF m 118 #[rv u0, dw dd, sn, iv 0] []) tz
    refine XS.aloadN X38.here hx rfl (hb hby own_d10_118) rfl rfl ?_
    show sT p e below T38 (mkF m 119 #[rv u0, dw dd, sn, iv 0] [(.ref u0)]) tz
    refine XS.aloadN X38.here hx rfl (hb hby own_d10_119) rfl rfl ?_
    exact kz
  obtain ⟨T40, X40, e40, st40⟩ := getF X38 hx hZ hown (host := "") (Or.inl (own_w hw 66 rfl)) Via.refl e38 Fw38 (g := (mkF m 120 #[rv u0, dw dd, sn, iv 0] [(.ref u0), (.ref u0)])) rfl rfl (hb hby own_d10_120)
  refine own_on (B := T40.setTop (mkF m 123 #[rv u0, dw dd, sn, iv 0] [(.int 1), (.ref u0)])) (fun tz kz => st40 _ kz) ?_
  have f_41 := (f_37.wr W38)
  have f_42 := (((Fd.ext E29).other W33 (Or.inl ne_u0_ca)).other W38 (Or.inr (slot_ne (Or.inl (own_w hw 53 rfl)) (Or.inl (own_w hw 67 rfl)) (by decide) (t := (.object "com/example/vows_to_moves/vowstomoves/model/LongNumbering")) (t' := .int) (by decide) (by decide))))
  have f_43 := (((Fv.ext E29).other W33 (Or.inl ne_u0_ca)).other W38 (Or.inr (slot_ne (Or.inl (own_w hw 56 rfl)) (Or.inl (own_w hw 67 rfl)) (by decide) (t := (.array .double)) (t' := .int) (by decide) (by decide))))
  have f_44 := (((Fo.ext E29).other W33 (Or.inl ne_u0_ca)).other W38 (Or.inr (slot_ne (Or.inl (own_w hw 60 rfl)) (Or.inl (own_w hw 67 rfl)) (by decide) (t := (.array (.array .char))) (t' := .int) (by decide) (by decide))))
  have f_45 := (((Fp.ext E29).other W33 (Or.inl ne_u0_ca)).other W38 (Or.inr (slot_ne (Or.inl (own_w hw 69 rfl)) (Or.inl (own_w hw 67 rfl)) (by decide) (t := (.array (.array .double))) (t' := .int) (by decide) (by decide))))
  have f_46 := (((Eln.ext E29).wr W33).wr W38)
  have f_47 := (((Fk.ext E29).other W33 (Or.inl ne_ln_ca)).other W38 (Or.inl (Ne.symm ne_u0_ln)))
  have f_48 := (((Fsl.ext E29).other W33 (Or.inl ne_ln_ca)).other W38 (Or.inl (Ne.symm ne_u0_ln)))
  have f_49 := (((El.ext E29).wr W33).wr W38)
  have f_50 := (((Fc.ext E29).other W33 (Or.inl ne_lc_ca)).other W38 (Or.inl (Ne.symm ne_u0_lc)))
  have f_51 := (((Fs.ext E29).other W33 (Or.inl ne_lc_ca)).other W38 (Or.inl (Ne.symm ne_u0_lc)))
  have f_52 := (((Vj.ext E29).other W33 ne_ja_ca).other W38 (Ne.symm ne_u0_ja))
  have f_53 := (((Vs.ext E29).other W33 ne_sa_ca).other W38 (Ne.symm ne_u0_sa))
  have f_54 := (((Vv.ext E29).other W33 ne_va_ca).other W38 (Ne.symm ne_u0_va))
  have f_55 := (V33.other W38 (Ne.symm ne_u0_ca))
  have f_56 := ((Vp.other W33 (Ne.symm ne_ca_b29)).other W38 (Ne.symm ne_u0_b29))
  refine own_on (B := T40.setTop (mkF m 126 #[rv u0, dw dd, sn, iv 0] [(.double dd), (.int 0), (.ref u0)])) (fun tz kz => ?_) ?_
  · show sT p e below T40 (mkF m 123 #[rv u0, dw dd, sn, iv 0] [(.int 1), (.ref u0)]) tz
    refine XS.iconst X40.here hx rfl (hb hby own_d10_123) ?_
    show sT p e below T40 (mkF m 124 #[rv u0, dw dd, sn, iv 0] [(.int 1), (.int 1), (.ref u0)]) tz
    refine XS.isub X40.here hx rfl (hb hby own_d10_124) rfl ?_
    show sT p e below T40 (mkF m 125 #[rv u0, dw dd, sn, iv 0] [(.int 0), (.ref u0)]) tz
    refine XS.dloadN X40.here hx rfl (hb hby own_d10_125) rfl ?_
    exact kz
  obtain ⟨cq57, kq57, q57a, q57b, q57c⟩ := isOf hZ e40 f_41
  obtain ⟨_, _, ⟨T57, L57, k57, n57⟩, -, X57, ⟨Lc57, hQ57, l57, y57, z57⟩, st57⟩ := X40.virtualBack hx (y := (⟨"com/example/vows_to_moves/vowstomoves/model/DoubleColumn", "set", "(ID)V"⟩ : MethodName)) (z := (⟨"com/example/vows_to_moves/vowstomoves/model/DoubleColumn", "set", "(ID)V"⟩ : MethodName)) hown (mvT hZ (own_w hw 73 rfl)) (mvT hZ (own_w hw 74 rfl)) (notFace_of_selects (args := #[]) (mvT hZ (own_w hw 76 rfl))) (mvT hZ (own_w hw 76 rfl)) (mvT hZ (own_w hw 75 rfl)) (by decide) (backOf (W := 0) (rm11z l Z a0 hw [] u0 dd ln lc ja sa va ca b29 kj ks kv kc k29 h38 n0 O39 f_41 f_42 f_43 f_44 f_45 Fw38 f_46 f_47 f_48 f_49 f_50 f_51 f_52 f_53 f_54 f_55 f_56 Oa g_u0 (by omega)) hZ (own_w hw 77 rfl) (own_w hw 2 rfl) (by decide) (by decide)) q57a q57c (g := (mkF m 126 #[rv u0, dw dd, sn, iv 0] [(.double dd), (.int 0), (.ref u0)])) rfl (by rw [hml]; rfl) (Steps.refl _) (argsL := [(.int (0 : Int32)), (.double dd)]) (rest := []) (lenOf own_pd12 rfl) rfl (by show 2 * 0 + _ ≤ _; exact Nat.le_of_eq rfl) (hb hby own_d10_126) (fun _ _ => ⟨rfl, e40, (by decide : 1 + 1 ≤ _), (by decide : 32768 + 32768 ≤ _)⟩)
  dsimp only [Pt.U, Pt.locs, Pt.cells, Pt.slots] at X57 l57 y57 z57 st57 hQ57
  subst l57 y57 z57
  obtain ⟨rfl, Nq57, Oq57, D57⟩ := hQ57
  have N57 := Fr.app N38 Nq57
  refine own_on (B := T57.setTop (mkF m 129 #[rv u0, dw dd, sn, iv 0] [])) (fun tz kz => st57.trans kz) ?_
  obtain ⟨fs, hr, hrun, hended, hW, hsame⟩ := X57.leave (v := none) (fun _ => rfl)
  refine own_of ⟨_, _, ?_, hrun, hended, _, _, rfl, ?_, ⟨_, rfl⟩, hW, hsame.mono (by decide) (by decide)⟩
  · show sT p e below T57 (mkF m 129 #[rv u0, dw dd, sn, iv 0] []) _
    exact X57.returnOut hx Bd.returns (hb hby own_d10_129) hr
  · show Q100 Z u0 dd ln lc ja sa va ca kj ks kv kc h0 n0 _ T57.heap _
    exact ⟨rfl, N57, Oq57, D57⟩
theorem own_ef_101 (m : MethodId) (x0 : Addr) (x1 : UInt64) : entryFrame m #[(.ref x0), (.double x1)] 4 = mkF m 0 #[rv x0, dw x1, .second, .unset] [] := by first | (simp [entryFrame, mkF, argsToLocals, Value.category]; done) | rfl
def Q101 (Z : State) (u0 : Addr) (dd : UInt64) (x0 : UInt64) (x1 : UInt64) (x2 : UInt64) (B : Nat) (h0 : Heap) (n0 : Nat) (v : Option Value) (h : Heap) (L : List Loc) : Prop := v = none ∧ Fr n0 L ∧ Old Z n0 h ∧ OwnD Z h n0 u0 (2 : Int32) x0 dd x2 (B + 1)
set_option maxRecDepth 65536 in
set_option maxHeartbeats 40000000 in
theorem rm101 (l : Launch) (Z : State) (a0 : Array Value) (hw : ∀ d ∈ tables_1, d.before a0 Z = true) (ws : List Jvm.Cond) (u0 : Addr) (dd : UInt64) (x0 : UInt64) (x1 : UInt64) (x2 : UInt64) (B : Nat) (h0 : Heap) (n0 : Nat) (O0 : Old Z n0 h0) (hD : OwnD Z h0 n0 u0 (1 : Int32) x0 x1 x2 B) (hB3 : B ≤ 3) :
    MetFree l (⟨"com/example/vows_to_moves/vowstomoves/model/DoubleColumn", "add", "(D)V"⟩ : MethodName) (head1 (Jvm.Cond.code (⟨"com/example/vows_to_moves/vowstomoves/model/DoubleColumn", "add", "(D)V"⟩ : MethodName) prog_72_method_5_code 4 none :: ws) ({ frames := 5, cells := 0, slots := 0, locals := 108 } : Room)) (fun a U => a = #[(.ref u0), (.double dd)] ∧ Z.Warmed39 U.vm ∧ U.heap = h0) (fun _ _ _ _ _ => True) (fun _ U o U' => ∃ v L, o = .returned v ∧ Q101 Z u0 dd x0 x1 x2 B h0 n0 v U'.heap L ∧ FrameEnd U o U' L ({ frames := 5, cells := 0, slots := 0, locals := 108 } : Room).cells ({ frames := 5, cells := 0, slots := 0, locals := 108 } : Room).slots) := by
  refine MetFree.of_bodySF (plainFor_of_name own_pn_com_example_vows_to_moves_vowstomoves_model_DoubleColumn) hisR ?_
  intro p e s m args below meth c s₁ Bd hml0 hP hK
  obtain ⟨rfl, hZ, hh⟩ := hP
  have hx := Bd.exec
  have hby := Bd.bytes
  have hml : c.maxLocals = 4 := hml0
  have hown : s.vm.findClass "com/example/vows_to_moves/vowstomoves/model/DoubleColumn" = some m.cls := findClass_of_methodNamed Bd.named
  have hnm := (name_of_methodNamed Bd.named Bd.method).1
  have X0 : Stand p l e ({ frames := 5, cells := 0, slots := 0, locals := 108 } : Room) s m #[(.ref u0), (.double dd)] below meth c s₁ [] 0 0 := Stand.of_body Bd
  have e0 : s₁.heap = h0 := by rw [← hh, Bd.state]; rfl
  have N0 := Fr.nil n0
  change Go p.tables e below _ _
  refine own_on (B := s₁.setTop (mkF m 0 #[rv u0, dw dd, sn, un] [])) (fun tz kz => castTop (own_ef_101 m u0 dd) kz) ?_
  obtain ⟨ln, lc, ja, sa, va, ca, cc, jc, kj, ks, kv, kc, kk, kl, vs, S, v0, v1, v2, v3, f0, f1, f2, mm, ⟨h1_, hB_⟩, ⟨m0_, m1_, m2_⟩, ⟨y0_, y1_, y2_⟩, o1, g_u0, E_u0, Fd, Fv, Fo, Fp, Fn, Eln, Fk, Fsl, El, Fc, Fs, Vj, Vs, Vv, Va, Ve, Vl, hT, hS⟩ := hD
  have ne_u0_ln : u0 ≠ ln := Nat.ne_of_lt (show @LT.lt Nat _ u0 ln by omega)
  have ne_u0_lc : u0 ≠ lc := Nat.ne_of_lt (show @LT.lt Nat _ u0 lc by omega)
  have ne_u0_ja : u0 ≠ ja := Nat.ne_of_lt (show @LT.lt Nat _ u0 ja by omega)
  have ne_u0_sa : u0 ≠ sa := Nat.ne_of_lt (show @LT.lt Nat _ u0 sa by omega)
  have ne_u0_va : u0 ≠ va := Nat.ne_of_lt (show @LT.lt Nat _ u0 va by omega)
  have ne_u0_ca : u0 ≠ ca := Nat.ne_of_lt (show @LT.lt Nat _ u0 ca by omega)
  have ne_u0_cc : u0 ≠ cc := Nat.ne_of_lt (show @LT.lt Nat _ u0 cc by omega)
  have ne_u0_jc : u0 ≠ jc := Nat.ne_of_lt (show @LT.lt Nat _ u0 jc by omega)
  have ne_ln_lc : ln ≠ lc := Nat.ne_of_lt (show @LT.lt Nat _ ln lc by omega)
  have ne_ln_ja : ln ≠ ja := Nat.ne_of_lt (show @LT.lt Nat _ ln ja by omega)
  have ne_ln_sa : ln ≠ sa := Nat.ne_of_lt (show @LT.lt Nat _ ln sa by omega)
  have ne_ln_va : ln ≠ va := Nat.ne_of_lt (show @LT.lt Nat _ ln va by omega)
  have ne_ln_ca : ln ≠ ca := Nat.ne_of_lt (show @LT.lt Nat _ ln ca by omega)
  have ne_ln_cc : ln ≠ cc := Nat.ne_of_lt (show @LT.lt Nat _ ln cc by omega)
  have ne_ln_jc : ln ≠ jc := Nat.ne_of_lt (show @LT.lt Nat _ ln jc by omega)
  have ne_lc_ja : lc ≠ ja := Nat.ne_of_lt (show @LT.lt Nat _ lc ja by omega)
  have ne_lc_sa : lc ≠ sa := Nat.ne_of_lt (show @LT.lt Nat _ lc sa by omega)
  have ne_lc_va : lc ≠ va := Nat.ne_of_lt (show @LT.lt Nat _ lc va by omega)
  have ne_lc_ca : lc ≠ ca := Nat.ne_of_lt (show @LT.lt Nat _ lc ca by omega)
  have ne_lc_cc : lc ≠ cc := Nat.ne_of_lt (show @LT.lt Nat _ lc cc by omega)
  have ne_lc_jc : lc ≠ jc := Nat.ne_of_lt (show @LT.lt Nat _ lc jc by omega)
  have ne_ja_sa : ja ≠ sa := Nat.ne_of_lt (show @LT.lt Nat _ ja sa by omega)
  have ne_ja_va : ja ≠ va := Nat.ne_of_lt (show @LT.lt Nat _ ja va by omega)
  have ne_ja_ca : ja ≠ ca := Nat.ne_of_lt (show @LT.lt Nat _ ja ca by omega)
  have ne_ja_cc : ja ≠ cc := Nat.ne_of_lt (show @LT.lt Nat _ ja cc by omega)
  have ne_ja_jc : ja ≠ jc := Nat.ne_of_lt (show @LT.lt Nat _ ja jc by omega)
  have ne_sa_va : sa ≠ va := Nat.ne_of_lt (show @LT.lt Nat _ sa va by omega)
  have ne_sa_ca : sa ≠ ca := Nat.ne_of_lt (show @LT.lt Nat _ sa ca by omega)
  have ne_sa_cc : sa ≠ cc := Nat.ne_of_lt (show @LT.lt Nat _ sa cc by omega)
  have ne_sa_jc : sa ≠ jc := Nat.ne_of_lt (show @LT.lt Nat _ sa jc by omega)
  have ne_va_ca : va ≠ ca := Nat.ne_of_lt (show @LT.lt Nat _ va ca by omega)
  have ne_va_cc : va ≠ cc := Nat.ne_of_lt (show @LT.lt Nat _ va cc by omega)
  have ne_va_jc : va ≠ jc := Nat.ne_of_lt (show @LT.lt Nat _ va jc by omega)
  have ne_ca_cc : ca ≠ cc := Nat.ne_of_lt (show @LT.lt Nat _ ca cc by omega)
  have ne_ca_jc : ca ≠ jc := Nat.ne_of_lt (show @LT.lt Nat _ ca jc by omega)
  have ne_cc_jc : cc ≠ jc := Nat.ne_of_lt (show @LT.lt Nat _ cc jc by omega)
  have g_ln : n0 ≤ ln := (show @LE.le Nat _ n0 ln by omega)
  have g_lc : n0 ≤ lc := (show @LE.le Nat _ n0 lc by omega)
  have g_ja : n0 ≤ ja := (show @LE.le Nat _ n0 ja by omega)
  have g_sa : n0 ≤ sa := (show @LE.le Nat _ n0 sa by omega)
  have g_va : n0 ≤ va := (show @LE.le Nat _ n0 va by omega)
  have g_ca : n0 ≤ ca := (show @LE.le Nat _ n0 ca by omega)
  have g_cc : n0 ≤ cc := (show @LE.le Nat _ n0 cc by omega)
  have g_jc : n0 ≤ jc := (show @LE.le Nat _ n0 jc by omega)
  refine own_on (B := s₁.setTop (mkF m 1 #[rv u0, dw dd, sn, un] [(.ref u0)])) (fun tz kz => ?_) ?_
  · show sT p e below s₁ (mkF m 0 #[rv u0, dw dd, sn, un] []) tz
    refine XS.aloadN X0.here hx rfl (hb hby own_d10_0) rfl rfl ?_
    exact kz
  obtain ⟨T21, X21, e21, st21⟩ := getF X0 hx hZ hown (host := "") (Or.inl (own_w hw 66 rfl)) Via.refl e0 Fn (g := (mkF m 1 #[rv u0, dw dd, sn, un] [(.ref u0)])) rfl rfl (hb hby own_d10_1)
  refine own_on (B := T21.setTop (mkF m 4 #[rv u0, dw dd, sn, un] [(.int 1)])) (fun tz kz => st21 _ kz) ?_
  refine own_on (B := T21.setTop (mkF m 9 #[rv u0, dw dd, sn, iv 0] [(.ref u0)])) (fun tz kz => ?_) ?_
  · show sT p e below T21 (mkF m 4 #[rv u0, dw dd, sn, un] [(.int 1)]) tz
    refine XS.bipush X21.here hx rfl (hb hby own_d10_4) ?_
    show sT p e below T21 (mkF m 6 #[rv u0, dw dd, sn, un] [(.int 15), (.int 1)]) tz
    refine XS.iushr X21.here hx rfl (hb hby own_d10_6) rfl ?_
    show sT p e below T21 (mkF m 7 #[rv u0, dw dd, sn, un] [(.int 0)]) tz
    refine XS.istoreN X21.here hx rfl (hb hby own_d10_7) rfl (l' := #[rv u0, dw dd, sn, iv 0]) rfl ?_
    show sT p e below T21 (mkF m 8 #[rv u0, dw dd, sn, iv 0] []) tz
    refine XS.aloadN X21.here hx rfl (hb hby own_d10_8) rfl rfl ?_
    exact kz
  obtain ⟨T22, X22, e22, st22⟩ := getF X21 hx hZ hown (host := "") (Or.inl (own_w hw 68 rfl)) Via.refl e21 Fp (g := (mkF m 9 #[rv u0, dw dd, sn, iv 0] [(.ref u0)])) rfl rfl (hb hby own_d10_9)
  refine own_on (B := T22.setTop (mkF m 12 #[rv u0, dw dd, sn, iv 0] [.null])) (fun tz kz => st22 _ kz) ?_
  refine own_on (B := T22.setTop (mkF m 17 #[rv u0, dw dd, sn, iv 0] [(.ref u0), (.int 0)])) (fun tz kz => ?_) ?_
  · show sT p e below T22 (mkF m 12 #[rv u0, dw dd, sn, iv 0] [.null]) tz
    refine XS.ifnonnullNo X22.here hx rfl (hb hby own_d10_12) rfl ?_
    show sT p e below T22 (mkF m 15 #[rv u0, dw dd, sn, iv 0] []) tz
    refine XS.iloadN X22.here hx rfl (hb hby own_d10_15) rfl ?_
    show sT p e below T22 (mkF m 16 #[rv u0, dw dd, sn, iv 0] [(.int 0)]) tz
    refine XS.aloadN X22.here hx rfl (hb hby own_d10_16) rfl rfl ?_
    exact kz
  obtain ⟨T23, X23, e23, st23⟩ := getF X22 hx hZ hown (host := "") (Or.inl (own_w hw 59 rfl)) Via.refl e22 Fo (g := (mkF m 17 #[rv u0, dw dd, sn, iv 0] [(.ref u0), (.int 0)])) rfl rfl (hb hby own_d10_17)
  refine own_on (B := T23.setTop (mkF m 20 #[rv u0, dw dd, sn, iv 0] [(.ref ca), (.int 0)])) (fun tz kz => st23 _ kz) ?_
  obtain ⟨cl24, Ar24, q24, S24, M24, H24, G24⟩ := id Va
  refine own_on (B := T23.setTop (mkF m 42 #[rv u0, dw dd, sn, iv 0] [(.ref u0)])) (fun tz kz => ?_) ?_
  · show sT p e below T23 (mkF m 20 #[rv u0, dw dd, sn, iv 0] [(.ref ca), (.int 0)]) tz
    refine X23.arraylength hx (by rw [e23]; exact Ar24.1) (State.isArrayOf_alike hZ.alike Ar24.2.1) (g := (mkF m 20 #[rv u0, dw dd, sn, iv 0] [(.ref ca), (.int 0)])) rfl rfl (hb hby own_d10_20) _ ?_
    rw [len_of S24 M24]
    show sT p e below T23 (mkF m 21 #[rv u0, dw dd, sn, iv 0] [(.int 4), (.int 0)]) tz
    refine XS.icmpYes X23.here hx rfl (pc0 := 21) (pc' := 41) rfl (hb hby own_d10_21) rfl (feq (by decide : ¬ ((0 : Int32) = (4 : Int32)))).2 (by decide) (by decide) ?_
    show sT p e below T23 (mkF m 41 #[rv u0, dw dd, sn, iv 0] []) tz
    refine XS.aloadN X23.here hx rfl (hb hby own_d10_41) rfl rfl ?_
    exact kz
  obtain ⟨T25, X25, e25, st25⟩ := getF X23 hx hZ hown (host := "") (Or.inl (own_w hw 59 rfl)) Via.refl e23 Fo (g := (mkF m 42 #[rv u0, dw dd, sn, iv 0] [(.ref u0)])) rfl rfl (hb hby own_d10_42)
  refine own_on (B := T25.setTop (mkF m 45 #[rv u0, dw dd, sn, iv 0] [(.ref ca)])) (fun tz kz => st25 _ kz) ?_
  refine own_on (B := T25.setTop (mkF m 46 #[rv u0, dw dd, sn, iv 0] [(.int 0), (.ref ca)])) (fun tz kz => ?_) ?_
  · show sT p e below T25 (mkF m 45 #[rv u0, dw dd, sn, iv 0] [(.ref ca)]) tz
    refine XS.iloadN X25.here hx rfl (hb hby own_d10_45) rfl ?_
    exact kz
  obtain ⟨cl26, Ar26, q26, S26, M26, H26, G26⟩ := id Va
  have hin27 : ¬ ((0 : Int32) < 0 ∨ cl26.slots.size ≤ ((0 : Int32)).toNatClampNeg) := inb_of S26 ⟨by decide, by decide⟩
  have hat27 : cl26.slots[((0 : Int32)).toNatClampNeg]? = some (.ref cc) := Has.at H26 hin27 rfl
  refine own_on (B := T25.setTop (mkF m 110 #[rv u0, dw dd, sn, iv 0] [(.ref u0), (.ref u0)])) (fun tz kz => ?_) ?_
  · show sT p e below T25 (mkF m 46 #[rv u0, dw dd, sn, iv 0] [(.int 0), (.ref ca)]) tz
    refine X25.aaload hx (j := (0 : Int32)) (v := (.ref cc)) (by rw [e25]; exact Ar26.1) (State.isArrayOf_alike hZ.alike Ar26.2.1) rfl Ar26.2.2 hin27 hat27 (g := (mkF m 46 #[rv u0, dw dd, sn, iv 0] [(.int 0), (.ref ca)])) rfl rfl (hb hby own_d10_46) _ ?_
    show sT p e below T25 (mkF m 47 #[rv u0, dw dd, sn, iv 0] [(.ref cc)]) tz
    refine XS.ifnonnullYes X25.here hx rfl (pc0 := 47) (pc' := 108) rfl (hb hby own_d10_47) rfl (by decide) (by decide) ?_
    show sT p e below T25 (mkF m 108 #[rv u0, dw dd, sn, iv 0] []) tz
    refine XS.aloadN X25.here hx rfl (hb hby own_d10_108) rfl rfl ?_
    show sT p e below T25 (mkF m 109 #[rv u0, dw dd, sn, iv 0] [(.ref u0)]) tz
    refine XS.dup X25.here hx rfl (hb hby own_d10_109) rfl rfl ?_
    exact kz
  obtain ⟨T28, X28, e28, st28⟩ := getF X25 hx hZ hown (host := "") (Or.inl (own_w hw 66 rfl)) Via.refl e25 Fn (g := (mkF m 110 #[rv u0, dw dd, sn, iv 0] [(.ref u0), (.ref u0)])) rfl rfl (hb hby own_d10_110)
  refine own_on (B := T28.setTop (mkF m 113 #[rv u0, dw dd, sn, iv 0] [(.int 1), (.ref u0)])) (fun tz kz => st28 _ kz) ?_
  refine own_on (B := T28.setTop (mkF m 115 #[rv u0, dw dd, sn, iv 0] [(.int 2), (.ref u0)])) (fun tz kz => ?_) ?_
  · show sT p e below T28 (mkF m 113 #[rv u0, dw dd, sn, iv 0] [(.int 1), (.ref u0)]) tz
    refine XS.iconst X28.here hx rfl (hb hby own_d10_113) ?_
    show sT p e below T28 (mkF m 114 #[rv u0, dw dd, sn, iv 0] [(.int 1), (.int 1), (.ref u0)]) tz
    refine XS.iadd X28.here hx rfl (hb hby own_d10_114) rfl ?_
    exact kz
  obtain ⟨T29, h29, X29, e29, W29, st29⟩ := putF X28 hx hZ hown (host := "") (Or.inl (own_w hw 66 rfl)) Via.refl e28 Fn E_u0 (Or.inl (own_w hw 67 rfl)) (own_w hw 1 rfl) (ty := .int) (by decide) rfl rfl (g := (mkF m 115 #[rv u0, dw dd, sn, iv 0] [(.int 2), (.ref u0)])) rfl rfl (hb hby own_d10_115)
  have Fw29 := Fn.same W29
  have N29 := Fr.snoc X29 N0 g_u0
  have O30 := O0.wr W29 g_u0
  have K30 : Keep h0 h29 [u0] := (Keep.refl h0 [u0]).wr W29 (Or.inl (List.mem_of_getElem? (i := 0) rfl))
  refine own_on (B := T29.setTop (mkF m 118 #[rv u0, dw dd, sn, iv 0] [])) (fun tz kz => st29 _ kz) ?_
  refine own_on (B := T29.setTop (mkF m 120 #[rv u0, dw dd, sn, iv 0] [(.ref u0), (.ref u0)])) (fun tz kz => ?_) ?_
  · show sT p e below T29 (mkF m 118 #[rv u0, dw dd, sn, iv 0] []) tz
    refine XS.aloadN X29.here hx rfl (hb hby own_d10_118) rfl rfl ?_
    show sT p e below T29 (mkF m 119 #[rv u0, dw dd, sn, iv 0] [(.ref u0)]) tz
    refine XS.aloadN X29.here hx rfl (hb hby own_d10_119) rfl rfl ?_
    exact kz
  obtain ⟨T31, X31, e31, st31⟩ := getF X29 hx hZ hown (host := "") (Or.inl (own_w hw 66 rfl)) Via.refl e29 Fw29 (g := (mkF m 120 #[rv u0, dw dd, sn, iv 0] [(.ref u0), (.ref u0)])) rfl rfl (hb hby own_d10_120)
  refine own_on (B := T31.setTop (mkF m 123 #[rv u0, dw dd, sn, iv 0] [(.int 2), (.ref u0)])) (fun tz kz => st31 _ kz) ?_
  have f_32 := (E_u0.wr W29)
  have f_33 := (Fd.other W29 (Or.inr (slot_ne (Or.inl (own_w hw 53 rfl)) (Or.inl (own_w hw 67 rfl)) (by decide) (t := (.object "com/example/vows_to_moves/vowstomoves/model/LongNumbering")) (t' := .int) (by decide) (by decide))))
  have f_34 := (Fv.other W29 (Or.inr (slot_ne (Or.inl (own_w hw 56 rfl)) (Or.inl (own_w hw 67 rfl)) (by decide) (t := (.array .double)) (t' := .int) (by decide) (by decide))))
  have f_35 := (Fo.other W29 (Or.inr (slot_ne (Or.inl (own_w hw 60 rfl)) (Or.inl (own_w hw 67 rfl)) (by decide) (t := (.array (.array .char))) (t' := .int) (by decide) (by decide))))
  have f_36 := (Fp.other W29 (Or.inr (slot_ne (Or.inl (own_w hw 69 rfl)) (Or.inl (own_w hw 67 rfl)) (by decide) (t := (.array (.array .double))) (t' := .int) (by decide) (by decide))))
  have f_37 := (Eln.wr W29)
  have f_38 := (Fk.other W29 (Or.inl (Ne.symm ne_u0_ln)))
  have f_39 := (Fsl.other W29 (Or.inl (Ne.symm ne_u0_ln)))
  have f_40 := (El.wr W29)
  have f_41 := (Fc.other W29 (Or.inl (Ne.symm ne_u0_lc)))
  have f_42 := (Fs.other W29 (Or.inl (Ne.symm ne_u0_lc)))
  have f_43 := (Vj.other W29 (Ne.symm ne_u0_ja))
  have f_44 := (Vs.other W29 (Ne.symm ne_u0_sa))
  have f_45 := (Vv.other W29 (Ne.symm ne_u0_va))
  have f_46 := (Va.other W29 (Ne.symm ne_u0_ca))
  have f_47 := (Ve.other W29 (Ne.symm ne_u0_cc))
  have f_48 := (Vl.other W29 (Ne.symm ne_u0_jc))
  have hD2 : OwnD Z h29 n0 u0 (2 : Int32) x0 x1 x2 B := ⟨ln, lc, ja, sa, va, ca, cc, jc, kj, ks, kv, kc, kk, kl, vs, S, v0, v1, v2, v3, f0, f1, f2, mm, ⟨h1_, hB_⟩, ⟨m0_, m1_, m2_⟩, ⟨y0_, y1_, y2_⟩, o1, g_u0, f_32, f_33, f_34, f_35, f_36, Fw29, f_37, f_38, f_39, f_40, f_41, f_42, f_43, f_44, f_45, f_46, f_47, f_48, hT, hS⟩
  refine own_on (B := T31.setTop (mkF m 126 #[rv u0, dw dd, sn, iv 0] [(.double dd), (.int 1), (.ref u0)])) (fun tz kz => ?_) ?_
  · show sT p e below T31 (mkF m 123 #[rv u0, dw dd, sn, iv 0] [(.int 2), (.ref u0)]) tz
    refine XS.iconst X31.here hx rfl (hb hby own_d10_123) ?_
    show sT p e below T31 (mkF m 124 #[rv u0, dw dd, sn, iv 0] [(.int 1), (.int 2), (.ref u0)]) tz
    refine XS.isub X31.here hx rfl (hb hby own_d10_124) rfl ?_
    show sT p e below T31 (mkF m 125 #[rv u0, dw dd, sn, iv 0] [(.int 1), (.ref u0)]) tz
    refine XS.dloadN X31.here hx rfl (hb hby own_d10_125) rfl ?_
    exact kz
  obtain ⟨cq49, kq49, q49a, q49b, q49c⟩ := isOf hZ e31 f_32
  obtain ⟨_, _, ⟨T49, L49, k49, n49⟩, -, X49, ⟨Lc49, hQ49, l49, y49, z49⟩, st49⟩ := X31.virtualBack hx (y := (⟨"com/example/vows_to_moves/vowstomoves/model/DoubleColumn", "set", "(ID)V"⟩ : MethodName)) (z := (⟨"com/example/vows_to_moves/vowstomoves/model/DoubleColumn", "set", "(ID)V"⟩ : MethodName)) hown (mvT hZ (own_w hw 73 rfl)) (mvT hZ (own_w hw 74 rfl)) (notFace_of_selects (args := #[]) (mvT hZ (own_w hw 76 rfl))) (mvT hZ (own_w hw 76 rfl)) (mvT hZ (own_w hw 75 rfl)) (by decide) (backOf (W := 0) (rm111 l Z a0 hw [] u0 dd (2 : Int32) x0 x1 x2 B h29 n0 O30 hD2 hB3) hZ (own_w hw 77 rfl) (own_w hw 2 rfl) (by decide) (by decide)) q49a q49c (g := (mkF m 126 #[rv u0, dw dd, sn, iv 0] [(.double dd), (.int 1), (.ref u0)])) rfl (by rw [hml]; rfl) (Steps.refl _) (argsL := [(.int (1 : Int32)), (.double dd)]) (rest := []) (lenOf own_pd12 rfl) rfl (by show 2 * 0 + _ ≤ _; exact Nat.le_of_eq rfl) (hb hby own_d10_126) (fun _ _ => ⟨rfl, e31, (by decide : 0 + 0 ≤ _), (by decide : 0 + 0 ≤ _)⟩)
  dsimp only [Pt.U, Pt.locs, Pt.cells, Pt.slots] at X49 l49 y49 z49 st49 hQ49
  subst l49 y49 z49
  obtain ⟨rfl, Nq49, Oq49, D49⟩ := hQ49
  have N49 := Fr.app N29 Nq49
  refine own_on (B := T49.setTop (mkF m 129 #[rv u0, dw dd, sn, iv 0] [])) (fun tz kz => st49.trans kz) ?_
  obtain ⟨fs, hr, hrun, hended, hW, hsame⟩ := X49.leave (v := none) (fun _ => rfl)
  refine own_of ⟨_, _, ?_, hrun, hended, _, _, rfl, ?_, ⟨_, rfl⟩, hW, hsame.mono (by decide) (by decide)⟩
  · show sT p e below T49 (mkF m 129 #[rv u0, dw dd, sn, iv 0] []) _
    exact X49.returnOut hx Bd.returns (hb hby own_d10_129) hr
  · show Q101 Z u0 dd x0 x1 x2 B h0 n0 _ T49.heap _
    exact ⟨rfl, N49, Oq49, D49⟩
theorem own_ef_102 (m : MethodId) (x0 : Addr) (x1 : UInt64) : entryFrame m #[(.ref x0), (.double x1)] 4 = mkF m 0 #[rv x0, dw x1, .second, .unset] [] := by first | (simp [entryFrame, mkF, argsToLocals, Value.category]; done) | rfl
def Q102 (Z : State) (u0 : Addr) (dd : UInt64) (x0 : UInt64) (x1 : UInt64) (x2 : UInt64) (B : Nat) (h0 : Heap) (n0 : Nat) (v : Option Value) (h : Heap) (L : List Loc) : Prop := v = none ∧ Fr n0 L ∧ Old Z n0 h ∧ OwnD Z h n0 u0 (3 : Int32) x0 x1 dd (B + 1)
set_option maxRecDepth 65536 in
set_option maxHeartbeats 40000000 in
theorem rm102 (l : Launch) (Z : State) (a0 : Array Value) (hw : ∀ d ∈ tables_1, d.before a0 Z = true) (ws : List Jvm.Cond) (u0 : Addr) (dd : UInt64) (x0 : UInt64) (x1 : UInt64) (x2 : UInt64) (B : Nat) (h0 : Heap) (n0 : Nat) (O0 : Old Z n0 h0) (hD : OwnD Z h0 n0 u0 (2 : Int32) x0 x1 x2 B) (hB3 : B ≤ 3) :
    MetFree l (⟨"com/example/vows_to_moves/vowstomoves/model/DoubleColumn", "add", "(D)V"⟩ : MethodName) (head1 (Jvm.Cond.code (⟨"com/example/vows_to_moves/vowstomoves/model/DoubleColumn", "add", "(D)V"⟩ : MethodName) prog_72_method_5_code 4 none :: ws) ({ frames := 5, cells := 0, slots := 0, locals := 108 } : Room)) (fun a U => a = #[(.ref u0), (.double dd)] ∧ Z.Warmed39 U.vm ∧ U.heap = h0) (fun _ _ _ _ _ => True) (fun _ U o U' => ∃ v L, o = .returned v ∧ Q102 Z u0 dd x0 x1 x2 B h0 n0 v U'.heap L ∧ FrameEnd U o U' L ({ frames := 5, cells := 0, slots := 0, locals := 108 } : Room).cells ({ frames := 5, cells := 0, slots := 0, locals := 108 } : Room).slots) := by
  refine MetFree.of_bodySF (plainFor_of_name own_pn_com_example_vows_to_moves_vowstomoves_model_DoubleColumn) hisR ?_
  intro p e s m args below meth c s₁ Bd hml0 hP hK
  obtain ⟨rfl, hZ, hh⟩ := hP
  have hx := Bd.exec
  have hby := Bd.bytes
  have hml : c.maxLocals = 4 := hml0
  have hown : s.vm.findClass "com/example/vows_to_moves/vowstomoves/model/DoubleColumn" = some m.cls := findClass_of_methodNamed Bd.named
  have hnm := (name_of_methodNamed Bd.named Bd.method).1
  have X0 : Stand p l e ({ frames := 5, cells := 0, slots := 0, locals := 108 } : Room) s m #[(.ref u0), (.double dd)] below meth c s₁ [] 0 0 := Stand.of_body Bd
  have e0 : s₁.heap = h0 := by rw [← hh, Bd.state]; rfl
  have N0 := Fr.nil n0
  change Go p.tables e below _ _
  refine own_on (B := s₁.setTop (mkF m 0 #[rv u0, dw dd, sn, un] [])) (fun tz kz => castTop (own_ef_102 m u0 dd) kz) ?_
  obtain ⟨ln, lc, ja, sa, va, ca, cc, jc, kj, ks, kv, kc, kk, kl, vs, S, v0, v1, v2, v3, f0, f1, f2, mm, ⟨h1_, hB_⟩, ⟨m0_, m1_, m2_⟩, ⟨y0_, y1_, y2_⟩, o1, g_u0, E_u0, Fd, Fv, Fo, Fp, Fn, Eln, Fk, Fsl, El, Fc, Fs, Vj, Vs, Vv, Va, Ve, Vl, hT, hS⟩ := hD
  have ne_u0_ln : u0 ≠ ln := Nat.ne_of_lt (show @LT.lt Nat _ u0 ln by omega)
  have ne_u0_lc : u0 ≠ lc := Nat.ne_of_lt (show @LT.lt Nat _ u0 lc by omega)
  have ne_u0_ja : u0 ≠ ja := Nat.ne_of_lt (show @LT.lt Nat _ u0 ja by omega)
  have ne_u0_sa : u0 ≠ sa := Nat.ne_of_lt (show @LT.lt Nat _ u0 sa by omega)
  have ne_u0_va : u0 ≠ va := Nat.ne_of_lt (show @LT.lt Nat _ u0 va by omega)
  have ne_u0_ca : u0 ≠ ca := Nat.ne_of_lt (show @LT.lt Nat _ u0 ca by omega)
  have ne_u0_cc : u0 ≠ cc := Nat.ne_of_lt (show @LT.lt Nat _ u0 cc by omega)
  have ne_u0_jc : u0 ≠ jc := Nat.ne_of_lt (show @LT.lt Nat _ u0 jc by omega)
  have ne_ln_lc : ln ≠ lc := Nat.ne_of_lt (show @LT.lt Nat _ ln lc by omega)
  have ne_ln_ja : ln ≠ ja := Nat.ne_of_lt (show @LT.lt Nat _ ln ja by omega)
  have ne_ln_sa : ln ≠ sa := Nat.ne_of_lt (show @LT.lt Nat _ ln sa by omega)
  have ne_ln_va : ln ≠ va := Nat.ne_of_lt (show @LT.lt Nat _ ln va by omega)
  have ne_ln_ca : ln ≠ ca := Nat.ne_of_lt (show @LT.lt Nat _ ln ca by omega)
  have ne_ln_cc : ln ≠ cc := Nat.ne_of_lt (show @LT.lt Nat _ ln cc by omega)
  have ne_ln_jc : ln ≠ jc := Nat.ne_of_lt (show @LT.lt Nat _ ln jc by omega)
  have ne_lc_ja : lc ≠ ja := Nat.ne_of_lt (show @LT.lt Nat _ lc ja by omega)
  have ne_lc_sa : lc ≠ sa := Nat.ne_of_lt (show @LT.lt Nat _ lc sa by omega)
  have ne_lc_va : lc ≠ va := Nat.ne_of_lt (show @LT.lt Nat _ lc va by omega)
  have ne_lc_ca : lc ≠ ca := Nat.ne_of_lt (show @LT.lt Nat _ lc ca by omega)
  have ne_lc_cc : lc ≠ cc := Nat.ne_of_lt (show @LT.lt Nat _ lc cc by omega)
  have ne_lc_jc : lc ≠ jc := Nat.ne_of_lt (show @LT.lt Nat _ lc jc by omega)
  have ne_ja_sa : ja ≠ sa := Nat.ne_of_lt (show @LT.lt Nat _ ja sa by omega)
  have ne_ja_va : ja ≠ va := Nat.ne_of_lt (show @LT.lt Nat _ ja va by omega)
  have ne_ja_ca : ja ≠ ca := Nat.ne_of_lt (show @LT.lt Nat _ ja ca by omega)
  have ne_ja_cc : ja ≠ cc := Nat.ne_of_lt (show @LT.lt Nat _ ja cc by omega)
  have ne_ja_jc : ja ≠ jc := Nat.ne_of_lt (show @LT.lt Nat _ ja jc by omega)
  have ne_sa_va : sa ≠ va := Nat.ne_of_lt (show @LT.lt Nat _ sa va by omega)
  have ne_sa_ca : sa ≠ ca := Nat.ne_of_lt (show @LT.lt Nat _ sa ca by omega)
  have ne_sa_cc : sa ≠ cc := Nat.ne_of_lt (show @LT.lt Nat _ sa cc by omega)
  have ne_sa_jc : sa ≠ jc := Nat.ne_of_lt (show @LT.lt Nat _ sa jc by omega)
  have ne_va_ca : va ≠ ca := Nat.ne_of_lt (show @LT.lt Nat _ va ca by omega)
  have ne_va_cc : va ≠ cc := Nat.ne_of_lt (show @LT.lt Nat _ va cc by omega)
  have ne_va_jc : va ≠ jc := Nat.ne_of_lt (show @LT.lt Nat _ va jc by omega)
  have ne_ca_cc : ca ≠ cc := Nat.ne_of_lt (show @LT.lt Nat _ ca cc by omega)
  have ne_ca_jc : ca ≠ jc := Nat.ne_of_lt (show @LT.lt Nat _ ca jc by omega)
  have ne_cc_jc : cc ≠ jc := Nat.ne_of_lt (show @LT.lt Nat _ cc jc by omega)
  have g_ln : n0 ≤ ln := (show @LE.le Nat _ n0 ln by omega)
  have g_lc : n0 ≤ lc := (show @LE.le Nat _ n0 lc by omega)
  have g_ja : n0 ≤ ja := (show @LE.le Nat _ n0 ja by omega)
  have g_sa : n0 ≤ sa := (show @LE.le Nat _ n0 sa by omega)
  have g_va : n0 ≤ va := (show @LE.le Nat _ n0 va by omega)
  have g_ca : n0 ≤ ca := (show @LE.le Nat _ n0 ca by omega)
  have g_cc : n0 ≤ cc := (show @LE.le Nat _ n0 cc by omega)
  have g_jc : n0 ≤ jc := (show @LE.le Nat _ n0 jc by omega)
  refine own_on (B := s₁.setTop (mkF m 1 #[rv u0, dw dd, sn, un] [(.ref u0)])) (fun tz kz => ?_) ?_
  · show sT p e below s₁ (mkF m 0 #[rv u0, dw dd, sn, un] []) tz
    refine XS.aloadN X0.here hx rfl (hb hby own_d10_0) rfl rfl ?_
    exact kz
  obtain ⟨T21, X21, e21, st21⟩ := getF X0 hx hZ hown (host := "") (Or.inl (own_w hw 66 rfl)) Via.refl e0 Fn (g := (mkF m 1 #[rv u0, dw dd, sn, un] [(.ref u0)])) rfl rfl (hb hby own_d10_1)
  refine own_on (B := T21.setTop (mkF m 4 #[rv u0, dw dd, sn, un] [(.int 2)])) (fun tz kz => st21 _ kz) ?_
  refine own_on (B := T21.setTop (mkF m 9 #[rv u0, dw dd, sn, iv 0] [(.ref u0)])) (fun tz kz => ?_) ?_
  · show sT p e below T21 (mkF m 4 #[rv u0, dw dd, sn, un] [(.int 2)]) tz
    refine XS.bipush X21.here hx rfl (hb hby own_d10_4) ?_
    show sT p e below T21 (mkF m 6 #[rv u0, dw dd, sn, un] [(.int 15), (.int 2)]) tz
    refine XS.iushr X21.here hx rfl (hb hby own_d10_6) rfl ?_
    show sT p e below T21 (mkF m 7 #[rv u0, dw dd, sn, un] [(.int 0)]) tz
    refine XS.istoreN X21.here hx rfl (hb hby own_d10_7) rfl (l' := #[rv u0, dw dd, sn, iv 0]) rfl ?_
    show sT p e below T21 (mkF m 8 #[rv u0, dw dd, sn, iv 0] []) tz
    refine XS.aloadN X21.here hx rfl (hb hby own_d10_8) rfl rfl ?_
    exact kz
  obtain ⟨T22, X22, e22, st22⟩ := getF X21 hx hZ hown (host := "") (Or.inl (own_w hw 68 rfl)) Via.refl e21 Fp (g := (mkF m 9 #[rv u0, dw dd, sn, iv 0] [(.ref u0)])) rfl rfl (hb hby own_d10_9)
  refine own_on (B := T22.setTop (mkF m 12 #[rv u0, dw dd, sn, iv 0] [.null])) (fun tz kz => st22 _ kz) ?_
  refine own_on (B := T22.setTop (mkF m 17 #[rv u0, dw dd, sn, iv 0] [(.ref u0), (.int 0)])) (fun tz kz => ?_) ?_
  · show sT p e below T22 (mkF m 12 #[rv u0, dw dd, sn, iv 0] [.null]) tz
    refine XS.ifnonnullNo X22.here hx rfl (hb hby own_d10_12) rfl ?_
    show sT p e below T22 (mkF m 15 #[rv u0, dw dd, sn, iv 0] []) tz
    refine XS.iloadN X22.here hx rfl (hb hby own_d10_15) rfl ?_
    show sT p e below T22 (mkF m 16 #[rv u0, dw dd, sn, iv 0] [(.int 0)]) tz
    refine XS.aloadN X22.here hx rfl (hb hby own_d10_16) rfl rfl ?_
    exact kz
  obtain ⟨T23, X23, e23, st23⟩ := getF X22 hx hZ hown (host := "") (Or.inl (own_w hw 59 rfl)) Via.refl e22 Fo (g := (mkF m 17 #[rv u0, dw dd, sn, iv 0] [(.ref u0), (.int 0)])) rfl rfl (hb hby own_d10_17)
  refine own_on (B := T23.setTop (mkF m 20 #[rv u0, dw dd, sn, iv 0] [(.ref ca), (.int 0)])) (fun tz kz => st23 _ kz) ?_
  obtain ⟨cl24, Ar24, q24, S24, M24, H24, G24⟩ := id Va
  refine own_on (B := T23.setTop (mkF m 42 #[rv u0, dw dd, sn, iv 0] [(.ref u0)])) (fun tz kz => ?_) ?_
  · show sT p e below T23 (mkF m 20 #[rv u0, dw dd, sn, iv 0] [(.ref ca), (.int 0)]) tz
    refine X23.arraylength hx (by rw [e23]; exact Ar24.1) (State.isArrayOf_alike hZ.alike Ar24.2.1) (g := (mkF m 20 #[rv u0, dw dd, sn, iv 0] [(.ref ca), (.int 0)])) rfl rfl (hb hby own_d10_20) _ ?_
    rw [len_of S24 M24]
    show sT p e below T23 (mkF m 21 #[rv u0, dw dd, sn, iv 0] [(.int 4), (.int 0)]) tz
    refine XS.icmpYes X23.here hx rfl (pc0 := 21) (pc' := 41) rfl (hb hby own_d10_21) rfl (feq (by decide : ¬ ((0 : Int32) = (4 : Int32)))).2 (by decide) (by decide) ?_
    show sT p e below T23 (mkF m 41 #[rv u0, dw dd, sn, iv 0] []) tz
    refine XS.aloadN X23.here hx rfl (hb hby own_d10_41) rfl rfl ?_
    exact kz
  obtain ⟨T25, X25, e25, st25⟩ := getF X23 hx hZ hown (host := "") (Or.inl (own_w hw 59 rfl)) Via.refl e23 Fo (g := (mkF m 42 #[rv u0, dw dd, sn, iv 0] [(.ref u0)])) rfl rfl (hb hby own_d10_42)
  refine own_on (B := T25.setTop (mkF m 45 #[rv u0, dw dd, sn, iv 0] [(.ref ca)])) (fun tz kz => st25 _ kz) ?_
  refine own_on (B := T25.setTop (mkF m 46 #[rv u0, dw dd, sn, iv 0] [(.int 0), (.ref ca)])) (fun tz kz => ?_) ?_
  · show sT p e below T25 (mkF m 45 #[rv u0, dw dd, sn, iv 0] [(.ref ca)]) tz
    refine XS.iloadN X25.here hx rfl (hb hby own_d10_45) rfl ?_
    exact kz
  obtain ⟨cl26, Ar26, q26, S26, M26, H26, G26⟩ := id Va
  have hin27 : ¬ ((0 : Int32) < 0 ∨ cl26.slots.size ≤ ((0 : Int32)).toNatClampNeg) := inb_of S26 ⟨by decide, by decide⟩
  have hat27 : cl26.slots[((0 : Int32)).toNatClampNeg]? = some (.ref cc) := Has.at H26 hin27 rfl
  refine own_on (B := T25.setTop (mkF m 110 #[rv u0, dw dd, sn, iv 0] [(.ref u0), (.ref u0)])) (fun tz kz => ?_) ?_
  · show sT p e below T25 (mkF m 46 #[rv u0, dw dd, sn, iv 0] [(.int 0), (.ref ca)]) tz
    refine X25.aaload hx (j := (0 : Int32)) (v := (.ref cc)) (by rw [e25]; exact Ar26.1) (State.isArrayOf_alike hZ.alike Ar26.2.1) rfl Ar26.2.2 hin27 hat27 (g := (mkF m 46 #[rv u0, dw dd, sn, iv 0] [(.int 0), (.ref ca)])) rfl rfl (hb hby own_d10_46) _ ?_
    show sT p e below T25 (mkF m 47 #[rv u0, dw dd, sn, iv 0] [(.ref cc)]) tz
    refine XS.ifnonnullYes X25.here hx rfl (pc0 := 47) (pc' := 108) rfl (hb hby own_d10_47) rfl (by decide) (by decide) ?_
    show sT p e below T25 (mkF m 108 #[rv u0, dw dd, sn, iv 0] []) tz
    refine XS.aloadN X25.here hx rfl (hb hby own_d10_108) rfl rfl ?_
    show sT p e below T25 (mkF m 109 #[rv u0, dw dd, sn, iv 0] [(.ref u0)]) tz
    refine XS.dup X25.here hx rfl (hb hby own_d10_109) rfl rfl ?_
    exact kz
  obtain ⟨T28, X28, e28, st28⟩ := getF X25 hx hZ hown (host := "") (Or.inl (own_w hw 66 rfl)) Via.refl e25 Fn (g := (mkF m 110 #[rv u0, dw dd, sn, iv 0] [(.ref u0), (.ref u0)])) rfl rfl (hb hby own_d10_110)
  refine own_on (B := T28.setTop (mkF m 113 #[rv u0, dw dd, sn, iv 0] [(.int 2), (.ref u0)])) (fun tz kz => st28 _ kz) ?_
  refine own_on (B := T28.setTop (mkF m 115 #[rv u0, dw dd, sn, iv 0] [(.int 3), (.ref u0)])) (fun tz kz => ?_) ?_
  · show sT p e below T28 (mkF m 113 #[rv u0, dw dd, sn, iv 0] [(.int 2), (.ref u0)]) tz
    refine XS.iconst X28.here hx rfl (hb hby own_d10_113) ?_
    show sT p e below T28 (mkF m 114 #[rv u0, dw dd, sn, iv 0] [(.int 1), (.int 2), (.ref u0)]) tz
    refine XS.iadd X28.here hx rfl (hb hby own_d10_114) rfl ?_
    exact kz
  obtain ⟨T29, h29, X29, e29, W29, st29⟩ := putF X28 hx hZ hown (host := "") (Or.inl (own_w hw 66 rfl)) Via.refl e28 Fn E_u0 (Or.inl (own_w hw 67 rfl)) (own_w hw 1 rfl) (ty := .int) (by decide) rfl rfl (g := (mkF m 115 #[rv u0, dw dd, sn, iv 0] [(.int 3), (.ref u0)])) rfl rfl (hb hby own_d10_115)
  have Fw29 := Fn.same W29
  have N29 := Fr.snoc X29 N0 g_u0
  have O30 := O0.wr W29 g_u0
  have K30 : Keep h0 h29 [u0] := (Keep.refl h0 [u0]).wr W29 (Or.inl (List.mem_of_getElem? (i := 0) rfl))
  refine own_on (B := T29.setTop (mkF m 118 #[rv u0, dw dd, sn, iv 0] [])) (fun tz kz => st29 _ kz) ?_
  refine own_on (B := T29.setTop (mkF m 120 #[rv u0, dw dd, sn, iv 0] [(.ref u0), (.ref u0)])) (fun tz kz => ?_) ?_
  · show sT p e below T29 (mkF m 118 #[rv u0, dw dd, sn, iv 0] []) tz
    refine XS.aloadN X29.here hx rfl (hb hby own_d10_118) rfl rfl ?_
    show sT p e below T29 (mkF m 119 #[rv u0, dw dd, sn, iv 0] [(.ref u0)]) tz
    refine XS.aloadN X29.here hx rfl (hb hby own_d10_119) rfl rfl ?_
    exact kz
  obtain ⟨T31, X31, e31, st31⟩ := getF X29 hx hZ hown (host := "") (Or.inl (own_w hw 66 rfl)) Via.refl e29 Fw29 (g := (mkF m 120 #[rv u0, dw dd, sn, iv 0] [(.ref u0), (.ref u0)])) rfl rfl (hb hby own_d10_120)
  refine own_on (B := T31.setTop (mkF m 123 #[rv u0, dw dd, sn, iv 0] [(.int 3), (.ref u0)])) (fun tz kz => st31 _ kz) ?_
  have f_32 := (E_u0.wr W29)
  have f_33 := (Fd.other W29 (Or.inr (slot_ne (Or.inl (own_w hw 53 rfl)) (Or.inl (own_w hw 67 rfl)) (by decide) (t := (.object "com/example/vows_to_moves/vowstomoves/model/LongNumbering")) (t' := .int) (by decide) (by decide))))
  have f_34 := (Fv.other W29 (Or.inr (slot_ne (Or.inl (own_w hw 56 rfl)) (Or.inl (own_w hw 67 rfl)) (by decide) (t := (.array .double)) (t' := .int) (by decide) (by decide))))
  have f_35 := (Fo.other W29 (Or.inr (slot_ne (Or.inl (own_w hw 60 rfl)) (Or.inl (own_w hw 67 rfl)) (by decide) (t := (.array (.array .char))) (t' := .int) (by decide) (by decide))))
  have f_36 := (Fp.other W29 (Or.inr (slot_ne (Or.inl (own_w hw 69 rfl)) (Or.inl (own_w hw 67 rfl)) (by decide) (t := (.array (.array .double))) (t' := .int) (by decide) (by decide))))
  have f_37 := (Eln.wr W29)
  have f_38 := (Fk.other W29 (Or.inl (Ne.symm ne_u0_ln)))
  have f_39 := (Fsl.other W29 (Or.inl (Ne.symm ne_u0_ln)))
  have f_40 := (El.wr W29)
  have f_41 := (Fc.other W29 (Or.inl (Ne.symm ne_u0_lc)))
  have f_42 := (Fs.other W29 (Or.inl (Ne.symm ne_u0_lc)))
  have f_43 := (Vj.other W29 (Ne.symm ne_u0_ja))
  have f_44 := (Vs.other W29 (Ne.symm ne_u0_sa))
  have f_45 := (Vv.other W29 (Ne.symm ne_u0_va))
  have f_46 := (Va.other W29 (Ne.symm ne_u0_ca))
  have f_47 := (Ve.other W29 (Ne.symm ne_u0_cc))
  have f_48 := (Vl.other W29 (Ne.symm ne_u0_jc))
  have hD2 : OwnD Z h29 n0 u0 (3 : Int32) x0 x1 x2 B := ⟨ln, lc, ja, sa, va, ca, cc, jc, kj, ks, kv, kc, kk, kl, vs, S, v0, v1, v2, v3, f0, f1, f2, mm, ⟨h1_, hB_⟩, ⟨m0_, m1_, m2_⟩, ⟨y0_, y1_, y2_⟩, o1, g_u0, f_32, f_33, f_34, f_35, f_36, Fw29, f_37, f_38, f_39, f_40, f_41, f_42, f_43, f_44, f_45, f_46, f_47, f_48, hT, hS⟩
  refine own_on (B := T31.setTop (mkF m 126 #[rv u0, dw dd, sn, iv 0] [(.double dd), (.int 2), (.ref u0)])) (fun tz kz => ?_) ?_
  · show sT p e below T31 (mkF m 123 #[rv u0, dw dd, sn, iv 0] [(.int 3), (.ref u0)]) tz
    refine XS.iconst X31.here hx rfl (hb hby own_d10_123) ?_
    show sT p e below T31 (mkF m 124 #[rv u0, dw dd, sn, iv 0] [(.int 1), (.int 3), (.ref u0)]) tz
    refine XS.isub X31.here hx rfl (hb hby own_d10_124) rfl ?_
    show sT p e below T31 (mkF m 125 #[rv u0, dw dd, sn, iv 0] [(.int 2), (.ref u0)]) tz
    refine XS.dloadN X31.here hx rfl (hb hby own_d10_125) rfl ?_
    exact kz
  obtain ⟨cq49, kq49, q49a, q49b, q49c⟩ := isOf hZ e31 f_32
  obtain ⟨_, _, ⟨T49, L49, k49, n49⟩, -, X49, ⟨Lc49, hQ49, l49, y49, z49⟩, st49⟩ := X31.virtualBack hx (y := (⟨"com/example/vows_to_moves/vowstomoves/model/DoubleColumn", "set", "(ID)V"⟩ : MethodName)) (z := (⟨"com/example/vows_to_moves/vowstomoves/model/DoubleColumn", "set", "(ID)V"⟩ : MethodName)) hown (mvT hZ (own_w hw 73 rfl)) (mvT hZ (own_w hw 74 rfl)) (notFace_of_selects (args := #[]) (mvT hZ (own_w hw 76 rfl))) (mvT hZ (own_w hw 76 rfl)) (mvT hZ (own_w hw 75 rfl)) (by decide) (backOf (W := 0) (rm112 l Z a0 hw [] u0 dd (3 : Int32) x0 x1 x2 B h29 n0 O30 hD2 hB3) hZ (own_w hw 77 rfl) (own_w hw 2 rfl) (by decide) (by decide)) q49a q49c (g := (mkF m 126 #[rv u0, dw dd, sn, iv 0] [(.double dd), (.int 2), (.ref u0)])) rfl (by rw [hml]; rfl) (Steps.refl _) (argsL := [(.int (2 : Int32)), (.double dd)]) (rest := []) (lenOf own_pd12 rfl) rfl (by show 2 * 0 + _ ≤ _; exact Nat.le_of_eq rfl) (hb hby own_d10_126) (fun _ _ => ⟨rfl, e31, (by decide : 0 + 0 ≤ _), (by decide : 0 + 0 ≤ _)⟩)
  dsimp only [Pt.U, Pt.locs, Pt.cells, Pt.slots] at X49 l49 y49 z49 st49 hQ49
  subst l49 y49 z49
  obtain ⟨rfl, Nq49, Oq49, D49⟩ := hQ49
  have N49 := Fr.app N29 Nq49
  refine own_on (B := T49.setTop (mkF m 129 #[rv u0, dw dd, sn, iv 0] [])) (fun tz kz => st49.trans kz) ?_
  obtain ⟨fs, hr, hrun, hended, hW, hsame⟩ := X49.leave (v := none) (fun _ => rfl)
  refine own_of ⟨_, _, ?_, hrun, hended, _, _, rfl, ?_, ⟨_, rfl⟩, hW, hsame.mono (by decide) (by decide)⟩
  · show sT p e below T49 (mkF m 129 #[rv u0, dw dd, sn, iv 0] []) _
    exact X49.returnOut hx Bd.returns (hb hby own_d10_129) hr
  · show Q102 Z u0 dd x0 x1 x2 B h0 n0 _ T49.heap _
    exact ⟨rfl, N49, Oq49, D49⟩
theorem own_ef_20 (m : MethodId) (x0 : Addr) : entryFrame m #[(.ref x0)] 1 = mkF m 0 #[rv x0] [] := by first | (simp [entryFrame, mkF, argsToLocals, Value.category]; done) | rfl
def Q20 (Z : State) (u0 : Addr) (n_ : Int32) (h0 : Heap) (n0 : Nat) (v : Option Value) (h : Heap) (L : List Loc) : Prop := v = some (.int n_) ∧ Fr n0 L ∧ h = h0
theorem own_d20_0 : decode prog_72_method_2_code 0 = .ok (.aload_n 0, 1) := by decide +kernel
theorem own_d20_1 : decode prog_72_method_2_code 1 = .ok (.getfield 30, 3) := by decide +kernel
theorem own_d20_4 : decode prog_72_method_2_code 4 = .ok (.ireturn, 1) := by decide +kernel
set_option maxRecDepth 65536 in
set_option maxHeartbeats 40000000 in
theorem rm20 (l : Launch) (Z : State) (a0 : Array Value) (hw : ∀ d ∈ tables_1, d.before a0 Z = true) (ws : List Jvm.Cond) (u0 : Addr) (n_ : Int32) (h0 : Heap) (n0 : Nat) (O0 : Old Z n0 h0) (Fn : Fld Z h0 u0 "com/example/vows_to_moves/vowstomoves/model/DoubleColumn" "size" "I" (.int n_)) :
    MetFree l (⟨"com/example/vows_to_moves/vowstomoves/model/DoubleColumn", "size", "()I"⟩ : MethodName) (head1 (Jvm.Cond.code (⟨"com/example/vows_to_moves/vowstomoves/model/DoubleColumn", "size", "()I"⟩ : MethodName) prog_72_method_2_code 1 (some .int) :: ws) ({ frames := 0, cells := 0, slots := 0, locals := 0 } : Room)) (fun a U => a = #[(.ref u0)] ∧ Z.Warmed39 U.vm ∧ U.heap = h0) (fun _ _ _ _ _ => True) (fun _ U o U' => ∃ v L, o = .returned v ∧ Q20 Z u0 n_ h0 n0 v U'.heap L ∧ FrameEnd U o U' L ({ frames := 0, cells := 0, slots := 0, locals := 0 } : Room).cells ({ frames := 0, cells := 0, slots := 0, locals := 0 } : Room).slots) := by
  refine MetFree.of_bodySF (plainFor_of_name own_pn_com_example_vows_to_moves_vowstomoves_model_DoubleColumn) hisR ?_
  intro p e s m args below meth c s₁ Bd hml0 hP hK
  obtain ⟨rfl, hZ, hh⟩ := hP
  have hx := Bd.exec
  have hby := Bd.bytes
  have hml : c.maxLocals = 1 := hml0
  have hown : s.vm.findClass "com/example/vows_to_moves/vowstomoves/model/DoubleColumn" = some m.cls := findClass_of_methodNamed Bd.named
  have hnm := (name_of_methodNamed Bd.named Bd.method).1
  have X0 : Stand p l e ({ frames := 0, cells := 0, slots := 0, locals := 0 } : Room) s m #[(.ref u0)] below meth c s₁ [] 0 0 := Stand.of_body Bd
  have e0 : s₁.heap = h0 := by rw [← hh, Bd.state]; rfl
  have N0 := Fr.nil n0
  change Go p.tables e below _ _
  refine own_on (B := s₁.setTop (mkF m 0 #[rv u0] [])) (fun tz kz => castTop (own_ef_20 m u0) kz) ?_
  refine own_on (B := s₁.setTop (mkF m 1 #[rv u0] [(.ref u0)])) (fun tz kz => ?_) ?_
  · show sT p e below s₁ (mkF m 0 #[rv u0] []) tz
    refine XS.aloadN X0.here hx rfl (hb hby own_d20_0) rfl rfl ?_
    exact kz
  obtain ⟨T21, X21, e21, st21⟩ := getF X0 hx hZ hown (host := "") (Or.inl (own_w hw 66 rfl)) Via.refl e0 Fn (g := (mkF m 1 #[rv u0] [(.ref u0)])) rfl rfl (hb hby own_d20_1)
  refine own_on (B := T21.setTop (mkF m 4 #[rv u0] [(.int n_)])) (fun tz kz => st21 _ kz) ?_
  obtain ⟨fs, hr, hrun, hended, hW, hsame⟩ := X21.leave (v := some (.int n_)) (fun h => by rw [Bd.returns] at h; cases h)
  refine own_of ⟨_, _, ?_, hrun, hended, _, _, rfl, ?_, ⟨_, rfl⟩, hW, hsame.mono (by decide) (by decide)⟩
  · show sT p e below T21 (mkF m 4 #[rv u0] [(.int n_)]) _
    exact own_retI X21 hx Bd.returns (hb hby own_d20_4) hr
  · show Q20 Z u0 n_ h0 n0 _ T21.heap _
    rw [e21]
    exact ⟨rfl, N0, rfl⟩
theorem own_ef_210 (m : MethodId) (x0 : Addr) (x1 : Int32) : entryFrame m #[(.ref x0), (.int x1)] 3 = mkF m 0 #[rv x0, iv x1, .unset] [] := by first | (simp [entryFrame, mkF, argsToLocals, Value.category]; done) | rfl
def Q210 (Z : State) (u0 : Addr) (n : Int32) (x0 : UInt64) (x1 : UInt64) (x2 : UInt64) (B : Nat) (h0 : Heap) (n0 : Nat) (v : Option Value) (h : Heap) (L : List Loc) : Prop := v = some (.double x0) ∧ Fr n0 L ∧ h = h0
theorem own_d21_0 : decode prog_72_method_3_code 0 = .ok (.iload_n 1, 1) := by decide +kernel
theorem own_d21_1 : decode prog_72_method_3_code 1 = .ok (.bipush 15, 2) := by decide +kernel
theorem own_d21_3 : decode prog_72_method_3_code 3 = .ok (.iushr, 1) := by decide +kernel
theorem own_d21_4 : decode prog_72_method_3_code 4 = .ok (.istore_n 2, 1) := by decide +kernel
theorem own_d21_5 : decode prog_72_method_3_code 5 = .ok (.aload_n 0, 1) := by decide +kernel
theorem own_d21_6 : decode prog_72_method_3_code 6 = .ok (.getfield 36, 3) := by decide +kernel
theorem own_d21_9 : decode prog_72_method_3_code 9 = .ok (.ifnull 16, 3) := by decide +kernel
theorem own_d21_25 : decode prog_72_method_3_code 25 = .ok (.aload_n 0, 1) := by decide +kernel
theorem own_d21_26 : decode prog_72_method_3_code 26 = .ok (.getfield 20, 3) := by decide +kernel
theorem own_d21_29 : decode prog_72_method_3_code 29 = .ok (.aload_n 0, 1) := by decide +kernel
theorem own_d21_30 : decode prog_72_method_3_code 30 = .ok (.getfield 26, 3) := by decide +kernel
theorem own_d21_33 : decode prog_72_method_3_code 33 = .ok (.iload_n 2, 1) := by decide +kernel
theorem own_d21_34 : decode prog_72_method_3_code 34 = .ok (.aaload, 1) := by decide +kernel
theorem own_d21_35 : decode prog_72_method_3_code 35 = .ok (.iload_n 1, 1) := by decide +kernel
theorem own_d21_36 : decode prog_72_method_3_code 36 = .ok (.sipush 32767, 3) := by decide +kernel
theorem own_d21_39 : decode prog_72_method_3_code 39 = .ok (.iand, 1) := by decide +kernel
theorem own_d21_40 : decode prog_72_method_3_code 40 = .ok (.caload, 1) := by decide +kernel
theorem own_d21_41 : decode prog_72_method_3_code 41 = .ok (.daload, 1) := by decide +kernel
theorem own_d21_42 : decode prog_72_method_3_code 42 = .ok (.dreturn, 1) := by decide +kernel
set_option maxRecDepth 65536 in
set_option maxHeartbeats 40000000 in
theorem rm210 (l : Launch) (Z : State) (a0 : Array Value) (hw : ∀ d ∈ tables_1, d.before a0 Z = true) (ws : List Jvm.Cond) (u0 : Addr) (n : Int32) (x0 : UInt64) (x1 : UInt64) (x2 : UInt64) (B : Nat) (h0 : Heap) (n0 : Nat) (O0 : Old Z n0 h0) (hD : OwnD Z h0 n0 u0 n x0 x1 x2 B) (hB4 : B ≤ 4) :
    MetFree l (⟨"com/example/vows_to_moves/vowstomoves/model/DoubleColumn", "get", "(I)D"⟩ : MethodName) (head1 (Jvm.Cond.code (⟨"com/example/vows_to_moves/vowstomoves/model/DoubleColumn", "get", "(I)D"⟩ : MethodName) prog_72_method_3_code 3 (some .double) :: ws) ({ frames := 0, cells := 0, slots := 0, locals := 0 } : Room)) (fun a U => a = #[(.ref u0), (.int (0 : Int32))] ∧ Z.Warmed39 U.vm ∧ U.heap = h0) (fun _ _ _ _ _ => True) (fun _ U o U' => ∃ v L, o = .returned v ∧ Q210 Z u0 n x0 x1 x2 B h0 n0 v U'.heap L ∧ FrameEnd U o U' L ({ frames := 0, cells := 0, slots := 0, locals := 0 } : Room).cells ({ frames := 0, cells := 0, slots := 0, locals := 0 } : Room).slots) := by
  refine MetFree.of_bodySF (plainFor_of_name own_pn_com_example_vows_to_moves_vowstomoves_model_DoubleColumn) hisR ?_
  intro p e s m args below meth c s₁ Bd hml0 hP hK
  obtain ⟨rfl, hZ, hh⟩ := hP
  have hx := Bd.exec
  have hby := Bd.bytes
  have hml : c.maxLocals = 3 := hml0
  have hown : s.vm.findClass "com/example/vows_to_moves/vowstomoves/model/DoubleColumn" = some m.cls := findClass_of_methodNamed Bd.named
  have hnm := (name_of_methodNamed Bd.named Bd.method).1
  have X0 : Stand p l e ({ frames := 0, cells := 0, slots := 0, locals := 0 } : Room) s m #[(.ref u0), (.int (0 : Int32))] below meth c s₁ [] 0 0 := Stand.of_body Bd
  have e0 : s₁.heap = h0 := by rw [← hh, Bd.state]; rfl
  have N0 := Fr.nil n0
  change Go p.tables e below _ _
  refine own_on (B := s₁.setTop (mkF m 0 #[rv u0, iv 0, un] [])) (fun tz kz => castTop (own_ef_210 m u0 (0 : Int32)) kz) ?_
  obtain ⟨ln, lc, ja, sa, va, ca, cc, jc, kj, ks, kv, kc, kk, kl, vs, S, v0, v1, v2, v3, f0, f1, f2, mm, ⟨h1_, hB_⟩, ⟨m0_, m1_, m2_⟩, ⟨y0_, y1_, y2_⟩, o1, g_u0, E_u0, Fd, Fv, Fo, Fp, Fn, Eln, Fk, Fsl, El, Fc, Fs, Vj, Vs, Vv, Va, Ve, Vl, hT, hS⟩ := hD
  have h4_ : mm ≤ 4 := Nat.le_trans hB_ hB4
  refine own_on (B := s₁.setTop (mkF m 6 #[rv u0, iv 0, iv 0] [(.ref u0)])) (fun tz kz => ?_) ?_
  · show sT p e below s₁ (mkF m 0 #[rv u0, iv 0, un] []) tz
    refine XS.iloadN X0.here hx rfl (hb hby own_d21_0) rfl ?_
    show sT p e below s₁ (mkF m 1 #[rv u0, iv 0, un] [(.int 0)]) tz
    refine XS.bipush X0.here hx rfl (hb hby own_d21_1) ?_
    show sT p e below s₁ (mkF m 3 #[rv u0, iv 0, un] [(.int 15), (.int 0)]) tz
    refine XS.iushr X0.here hx rfl (hb hby own_d21_3) rfl ?_
    show sT p e below s₁ (mkF m 4 #[rv u0, iv 0, un] [(.int 0)]) tz
    refine XS.istoreN X0.here hx rfl (hb hby own_d21_4) rfl (l' := #[rv u0, iv 0, iv 0]) rfl ?_
    show sT p e below s₁ (mkF m 5 #[rv u0, iv 0, iv 0] []) tz
    refine XS.aloadN X0.here hx rfl (hb hby own_d21_5) rfl rfl ?_
    exact kz
  obtain ⟨T21, X21, e21, st21⟩ := getF X0 hx hZ hown (host := "") (Or.inl (own_w hw 68 rfl)) Via.refl e0 Fp (g := (mkF m 6 #[rv u0, iv 0, iv 0] [(.ref u0)])) rfl rfl (hb hby own_d21_6)
  refine own_on (B := T21.setTop (mkF m 9 #[rv u0, iv 0, iv 0] [.null])) (fun tz kz => st21 _ kz) ?_
  refine own_on (B := T21.setTop (mkF m 26 #[rv u0, iv 0, iv 0] [(.ref u0)])) (fun tz kz => ?_) ?_
  · show sT p e below T21 (mkF m 9 #[rv u0, iv 0, iv 0] [.null]) tz
    refine XS.ifnullYes X21.here hx rfl (pc0 := 9) (pc' := 25) rfl (hb hby own_d21_9) rfl (by decide) (by decide) ?_
    show sT p e below T21 (mkF m 25 #[rv u0, iv 0, iv 0] []) tz
    refine XS.aloadN X21.here hx rfl (hb hby own_d21_25) rfl rfl ?_
    exact kz
  obtain ⟨T22, X22, e22, st22⟩ := getF X21 hx hZ hown (host := "") (Or.inl (own_w hw 55 rfl)) Via.refl e21 Fv (g := (mkF m 26 #[rv u0, iv 0, iv 0] [(.ref u0)])) rfl rfl (hb hby own_d21_26)
  refine own_on (B := T22.setTop (mkF m 29 #[rv u0, iv 0, iv 0] [(.ref va)])) (fun tz kz => st22 _ kz) ?_
  refine own_on (B := T22.setTop (mkF m 30 #[rv u0, iv 0, iv 0] [(.ref u0), (.ref va)])) (fun tz kz => ?_) ?_
  · show sT p e below T22 (mkF m 29 #[rv u0, iv 0, iv 0] [(.ref va)]) tz
    refine XS.aloadN X22.here hx rfl (hb hby own_d21_29) rfl rfl ?_
    exact kz
  obtain ⟨T23, X23, e23, st23⟩ := getF X22 hx hZ hown (host := "") (Or.inl (own_w hw 59 rfl)) Via.refl e22 Fo (g := (mkF m 30 #[rv u0, iv 0, iv 0] [(.ref u0), (.ref va)])) rfl rfl (hb hby own_d21_30)
  refine own_on (B := T23.setTop (mkF m 33 #[rv u0, iv 0, iv 0] [(.ref ca), (.ref va)])) (fun tz kz => st23 _ kz) ?_
  refine own_on (B := T23.setTop (mkF m 34 #[rv u0, iv 0, iv 0] [(.int 0), (.ref ca), (.ref va)])) (fun tz kz => ?_) ?_
  · show sT p e below T23 (mkF m 33 #[rv u0, iv 0, iv 0] [(.ref ca), (.ref va)]) tz
    refine XS.iloadN X23.here hx rfl (hb hby own_d21_33) rfl ?_
    exact kz
  obtain ⟨cl24, Ar24, q24, S24, M24, H24, G24⟩ := id Va
  have hin25 : ¬ ((0 : Int32) < 0 ∨ cl24.slots.size ≤ ((0 : Int32)).toNatClampNeg) := inb_of S24 ⟨by decide, by decide⟩
  have hat25 : cl24.slots[((0 : Int32)).toNatClampNeg]? = some (.ref cc) := Has.at H24 hin25 rfl
  refine own_on (B := T23.setTop (mkF m 40 #[rv u0, iv 0, iv 0] [(.int 0), (.ref cc), (.ref va)])) (fun tz kz => ?_) ?_
  · show sT p e below T23 (mkF m 34 #[rv u0, iv 0, iv 0] [(.int 0), (.ref ca), (.ref va)]) tz
    refine X23.aaload hx (j := (0 : Int32)) (v := (.ref cc)) (by rw [e23]; exact Ar24.1) (State.isArrayOf_alike hZ.alike Ar24.2.1) rfl Ar24.2.2 hin25 hat25 (g := (mkF m 34 #[rv u0, iv 0, iv 0] [(.int 0), (.ref ca), (.ref va)])) rfl rfl (hb hby own_d21_34) _ ?_
    show sT p e below T23 (mkF m 35 #[rv u0, iv 0, iv 0] [(.ref cc), (.ref va)]) tz
    refine XS.iloadN X23.here hx rfl (hb hby own_d21_35) rfl ?_
    show sT p e below T23 (mkF m 36 #[rv u0, iv 0, iv 0] [(.int 0), (.ref cc), (.ref va)]) tz
    refine XS.sipush X23.here hx rfl (hb hby own_d21_36) ?_
    show sT p e below T23 (mkF m 39 #[rv u0, iv 0, iv 0] [(.int 32767), (.int 0), (.ref cc), (.ref va)]) tz
    refine XS.iand X23.here hx rfl (hb hby own_d21_39) rfl ?_
    exact kz
  obtain ⟨cl26, Ar26, q26, S26, M26, H26, G26⟩ := id Ve
  have hin27 : ¬ ((0 : Int32) < 0 ∨ cl26.slots.size ≤ ((0 : Int32)).toNatClampNeg) := inb_of S26 ⟨by decide, by decide⟩
  have hat27 : cl26.slots[((0 : Int32)).toNatClampNeg]? = some (.int f0.toInt32) := Has.at H26 hin27 rfl
  refine own_on (B := T23.setTop (mkF m 41 #[rv u0, iv 0, iv 0] [(.int f0.toInt32), (.ref va)])) (fun tz kz => ?_) ?_
  · show sT p e below T23 (mkF m 40 #[rv u0, iv 0, iv 0] [(.int 0), (.ref cc), (.ref va)]) tz
    refine X23.caload hx (j := (0 : Int32)) (v := (.int f0.toInt32)) (by rw [e23]; exact Ar26.1) (State.isArrayOf_alike hZ.alike Ar26.2.1) Ar26.2.2 hin27 hat27 (g := (mkF m 40 #[rv u0, iv 0, iv 0] [(.int 0), (.ref cc), (.ref va)])) rfl rfl (hb hby own_d21_40) _ ?_
    exact kz
  obtain ⟨cl28, Ar28, q28, S28, M28, H28, G28⟩ := id Vv
  have hin29 : ¬ (f0.toInt32 < 0 ∨ cl28.slots.size ≤ (f0.toInt32).toNatClampNeg) := inb_of S28 ⟨(own_ix m0_ h4_).1, Int32.lt_trans (own_ix m0_ h4_).2.1 (by decide)⟩
  have hat29 : cl28.slots[(f0.toInt32).toNatClampNeg]? = some (.double x0) := Has.at H28 hin29 ((own_vd (own_ix m0_ h4_).2.2.1 (Nat.lt_of_lt_of_le m0_ h4_)).trans (congrArg Value.double y0_))
  refine own_on (B := T23.setTop (mkF m 42 #[rv u0, iv 0, iv 0] [(.double x0)])) (fun tz kz => ?_) ?_
  · show sT p e below T23 (mkF m 41 #[rv u0, iv 0, iv 0] [(.int f0.toInt32), (.ref va)]) tz
    refine X23.daload hx (j := f0.toInt32) (v := (.double x0)) (by rw [e23]; exact Ar28.1) (State.isArrayOf_alike hZ.alike Ar28.2.1) Ar28.2.2 hin29 hat29 (g := (mkF m 41 #[rv u0, iv 0, iv 0] [(.int f0.toInt32), (.ref va)])) rfl rfl (hb hby own_d21_41) _ ?_
    exact kz
  obtain ⟨fs, hr, hrun, hended, hW, hsame⟩ := X23.leave (v := some (.double x0)) (fun h => by rw [Bd.returns] at h; cases h)
  refine own_of ⟨_, _, ?_, hrun, hended, _, _, rfl, ?_, ⟨_, rfl⟩, hW, hsame.mono (by decide) (by decide)⟩
  · show sT p e below T23 (mkF m 42 #[rv u0, iv 0, iv 0] [(.double x0)]) _
    exact own_retD X23 hx Bd.returns (hb hby own_d21_42) hr
  · show Q210 Z u0 n x0 x1 x2 B h0 n0 _ T23.heap _
    rw [e23]
    exact ⟨rfl, N0, rfl⟩
theorem own_ef_211 (m : MethodId) (x0 : Addr) (x1 : Int32) : entryFrame m #[(.ref x0), (.int x1)] 3 = mkF m 0 #[rv x0, iv x1, .unset] [] := by first | (simp [entryFrame, mkF, argsToLocals, Value.category]; done) | rfl
def Q211 (Z : State) (u0 : Addr) (n : Int32) (x0 : UInt64) (x1 : UInt64) (x2 : UInt64) (B : Nat) (h0 : Heap) (n0 : Nat) (v : Option Value) (h : Heap) (L : List Loc) : Prop := v = some (.double x1) ∧ Fr n0 L ∧ h = h0
set_option maxRecDepth 65536 in
set_option maxHeartbeats 40000000 in
theorem rm211 (l : Launch) (Z : State) (a0 : Array Value) (hw : ∀ d ∈ tables_1, d.before a0 Z = true) (ws : List Jvm.Cond) (u0 : Addr) (n : Int32) (x0 : UInt64) (x1 : UInt64) (x2 : UInt64) (B : Nat) (h0 : Heap) (n0 : Nat) (O0 : Old Z n0 h0) (hD : OwnD Z h0 n0 u0 n x0 x1 x2 B) (hB4 : B ≤ 4) :
    MetFree l (⟨"com/example/vows_to_moves/vowstomoves/model/DoubleColumn", "get", "(I)D"⟩ : MethodName) (head1 (Jvm.Cond.code (⟨"com/example/vows_to_moves/vowstomoves/model/DoubleColumn", "get", "(I)D"⟩ : MethodName) prog_72_method_3_code 3 (some .double) :: ws) ({ frames := 0, cells := 0, slots := 0, locals := 0 } : Room)) (fun a U => a = #[(.ref u0), (.int (1 : Int32))] ∧ Z.Warmed39 U.vm ∧ U.heap = h0) (fun _ _ _ _ _ => True) (fun _ U o U' => ∃ v L, o = .returned v ∧ Q211 Z u0 n x0 x1 x2 B h0 n0 v U'.heap L ∧ FrameEnd U o U' L ({ frames := 0, cells := 0, slots := 0, locals := 0 } : Room).cells ({ frames := 0, cells := 0, slots := 0, locals := 0 } : Room).slots) := by
  refine MetFree.of_bodySF (plainFor_of_name own_pn_com_example_vows_to_moves_vowstomoves_model_DoubleColumn) hisR ?_
  intro p e s m args below meth c s₁ Bd hml0 hP hK
  obtain ⟨rfl, hZ, hh⟩ := hP
  have hx := Bd.exec
  have hby := Bd.bytes
  have hml : c.maxLocals = 3 := hml0
  have hown : s.vm.findClass "com/example/vows_to_moves/vowstomoves/model/DoubleColumn" = some m.cls := findClass_of_methodNamed Bd.named
  have hnm := (name_of_methodNamed Bd.named Bd.method).1
  have X0 : Stand p l e ({ frames := 0, cells := 0, slots := 0, locals := 0 } : Room) s m #[(.ref u0), (.int (1 : Int32))] below meth c s₁ [] 0 0 := Stand.of_body Bd
  have e0 : s₁.heap = h0 := by rw [← hh, Bd.state]; rfl
  have N0 := Fr.nil n0
  change Go p.tables e below _ _
  refine own_on (B := s₁.setTop (mkF m 0 #[rv u0, iv 1, un] [])) (fun tz kz => castTop (own_ef_211 m u0 (1 : Int32)) kz) ?_
  obtain ⟨ln, lc, ja, sa, va, ca, cc, jc, kj, ks, kv, kc, kk, kl, vs, S, v0, v1, v2, v3, f0, f1, f2, mm, ⟨h1_, hB_⟩, ⟨m0_, m1_, m2_⟩, ⟨y0_, y1_, y2_⟩, o1, g_u0, E_u0, Fd, Fv, Fo, Fp, Fn, Eln, Fk, Fsl, El, Fc, Fs, Vj, Vs, Vv, Va, Ve, Vl, hT, hS⟩ := hD
  have h4_ : mm ≤ 4 := Nat.le_trans hB_ hB4
  refine own_on (B := s₁.setTop (mkF m 6 #[rv u0, iv 1, iv 0] [(.ref u0)])) (fun tz kz => ?_) ?_
  · show sT p e below s₁ (mkF m 0 #[rv u0, iv 1, un] []) tz
    refine XS.iloadN X0.here hx rfl (hb hby own_d21_0) rfl ?_
    show sT p e below s₁ (mkF m 1 #[rv u0, iv 1, un] [(.int 1)]) tz
    refine XS.bipush X0.here hx rfl (hb hby own_d21_1) ?_
    show sT p e below s₁ (mkF m 3 #[rv u0, iv 1, un] [(.int 15), (.int 1)]) tz
    refine XS.iushr X0.here hx rfl (hb hby own_d21_3) rfl ?_
    show sT p e below s₁ (mkF m 4 #[rv u0, iv 1, un] [(.int 0)]) tz
    refine XS.istoreN X0.here hx rfl (hb hby own_d21_4) rfl (l' := #[rv u0, iv 1, iv 0]) rfl ?_
    show sT p e below s₁ (mkF m 5 #[rv u0, iv 1, iv 0] []) tz
    refine XS.aloadN X0.here hx rfl (hb hby own_d21_5) rfl rfl ?_
    exact kz
  obtain ⟨T21, X21, e21, st21⟩ := getF X0 hx hZ hown (host := "") (Or.inl (own_w hw 68 rfl)) Via.refl e0 Fp (g := (mkF m 6 #[rv u0, iv 1, iv 0] [(.ref u0)])) rfl rfl (hb hby own_d21_6)
  refine own_on (B := T21.setTop (mkF m 9 #[rv u0, iv 1, iv 0] [.null])) (fun tz kz => st21 _ kz) ?_
  refine own_on (B := T21.setTop (mkF m 26 #[rv u0, iv 1, iv 0] [(.ref u0)])) (fun tz kz => ?_) ?_
  · show sT p e below T21 (mkF m 9 #[rv u0, iv 1, iv 0] [.null]) tz
    refine XS.ifnullYes X21.here hx rfl (pc0 := 9) (pc' := 25) rfl (hb hby own_d21_9) rfl (by decide) (by decide) ?_
    show sT p e below T21 (mkF m 25 #[rv u0, iv 1, iv 0] []) tz
    refine XS.aloadN X21.here hx rfl (hb hby own_d21_25) rfl rfl ?_
    exact kz
  obtain ⟨T22, X22, e22, st22⟩ := getF X21 hx hZ hown (host := "") (Or.inl (own_w hw 55 rfl)) Via.refl e21 Fv (g := (mkF m 26 #[rv u0, iv 1, iv 0] [(.ref u0)])) rfl rfl (hb hby own_d21_26)
  refine own_on (B := T22.setTop (mkF m 29 #[rv u0, iv 1, iv 0] [(.ref va)])) (fun tz kz => st22 _ kz) ?_
  refine own_on (B := T22.setTop (mkF m 30 #[rv u0, iv 1, iv 0] [(.ref u0), (.ref va)])) (fun tz kz => ?_) ?_
  · show sT p e below T22 (mkF m 29 #[rv u0, iv 1, iv 0] [(.ref va)]) tz
    refine XS.aloadN X22.here hx rfl (hb hby own_d21_29) rfl rfl ?_
    exact kz
  obtain ⟨T23, X23, e23, st23⟩ := getF X22 hx hZ hown (host := "") (Or.inl (own_w hw 59 rfl)) Via.refl e22 Fo (g := (mkF m 30 #[rv u0, iv 1, iv 0] [(.ref u0), (.ref va)])) rfl rfl (hb hby own_d21_30)
  refine own_on (B := T23.setTop (mkF m 33 #[rv u0, iv 1, iv 0] [(.ref ca), (.ref va)])) (fun tz kz => st23 _ kz) ?_
  refine own_on (B := T23.setTop (mkF m 34 #[rv u0, iv 1, iv 0] [(.int 0), (.ref ca), (.ref va)])) (fun tz kz => ?_) ?_
  · show sT p e below T23 (mkF m 33 #[rv u0, iv 1, iv 0] [(.ref ca), (.ref va)]) tz
    refine XS.iloadN X23.here hx rfl (hb hby own_d21_33) rfl ?_
    exact kz
  obtain ⟨cl24, Ar24, q24, S24, M24, H24, G24⟩ := id Va
  have hin25 : ¬ ((0 : Int32) < 0 ∨ cl24.slots.size ≤ ((0 : Int32)).toNatClampNeg) := inb_of S24 ⟨by decide, by decide⟩
  have hat25 : cl24.slots[((0 : Int32)).toNatClampNeg]? = some (.ref cc) := Has.at H24 hin25 rfl
  refine own_on (B := T23.setTop (mkF m 40 #[rv u0, iv 1, iv 0] [(.int 1), (.ref cc), (.ref va)])) (fun tz kz => ?_) ?_
  · show sT p e below T23 (mkF m 34 #[rv u0, iv 1, iv 0] [(.int 0), (.ref ca), (.ref va)]) tz
    refine X23.aaload hx (j := (0 : Int32)) (v := (.ref cc)) (by rw [e23]; exact Ar24.1) (State.isArrayOf_alike hZ.alike Ar24.2.1) rfl Ar24.2.2 hin25 hat25 (g := (mkF m 34 #[rv u0, iv 1, iv 0] [(.int 0), (.ref ca), (.ref va)])) rfl rfl (hb hby own_d21_34) _ ?_
    show sT p e below T23 (mkF m 35 #[rv u0, iv 1, iv 0] [(.ref cc), (.ref va)]) tz
    refine XS.iloadN X23.here hx rfl (hb hby own_d21_35) rfl ?_
    show sT p e below T23 (mkF m 36 #[rv u0, iv 1, iv 0] [(.int 1), (.ref cc), (.ref va)]) tz
    refine XS.sipush X23.here hx rfl (hb hby own_d21_36) ?_
    show sT p e below T23 (mkF m 39 #[rv u0, iv 1, iv 0] [(.int 32767), (.int 1), (.ref cc), (.ref va)]) tz
    refine XS.iand X23.here hx rfl (hb hby own_d21_39) rfl ?_
    exact kz
  obtain ⟨cl26, Ar26, q26, S26, M26, H26, G26⟩ := id Ve
  have hin27 : ¬ ((1 : Int32) < 0 ∨ cl26.slots.size ≤ ((1 : Int32)).toNatClampNeg) := inb_of S26 ⟨by decide, by decide⟩
  have hat27 : cl26.slots[((1 : Int32)).toNatClampNeg]? = some (.int f1.toInt32) := Has.at H26 hin27 rfl
  refine own_on (B := T23.setTop (mkF m 41 #[rv u0, iv 1, iv 0] [(.int f1.toInt32), (.ref va)])) (fun tz kz => ?_) ?_
  · show sT p e below T23 (mkF m 40 #[rv u0, iv 1, iv 0] [(.int 1), (.ref cc), (.ref va)]) tz
    refine X23.caload hx (j := (1 : Int32)) (v := (.int f1.toInt32)) (by rw [e23]; exact Ar26.1) (State.isArrayOf_alike hZ.alike Ar26.2.1) Ar26.2.2 hin27 hat27 (g := (mkF m 40 #[rv u0, iv 1, iv 0] [(.int 1), (.ref cc), (.ref va)])) rfl rfl (hb hby own_d21_40) _ ?_
    exact kz
  obtain ⟨cl28, Ar28, q28, S28, M28, H28, G28⟩ := id Vv
  have hin29 : ¬ (f1.toInt32 < 0 ∨ cl28.slots.size ≤ (f1.toInt32).toNatClampNeg) := inb_of S28 ⟨(own_ix m1_ h4_).1, Int32.lt_trans (own_ix m1_ h4_).2.1 (by decide)⟩
  have hat29 : cl28.slots[(f1.toInt32).toNatClampNeg]? = some (.double x1) := Has.at H28 hin29 ((own_vd (own_ix m1_ h4_).2.2.1 (Nat.lt_of_lt_of_le m1_ h4_)).trans (congrArg Value.double y1_))
  refine own_on (B := T23.setTop (mkF m 42 #[rv u0, iv 1, iv 0] [(.double x1)])) (fun tz kz => ?_) ?_
  · show sT p e below T23 (mkF m 41 #[rv u0, iv 1, iv 0] [(.int f1.toInt32), (.ref va)]) tz
    refine X23.daload hx (j := f1.toInt32) (v := (.double x1)) (by rw [e23]; exact Ar28.1) (State.isArrayOf_alike hZ.alike Ar28.2.1) Ar28.2.2 hin29 hat29 (g := (mkF m 41 #[rv u0, iv 1, iv 0] [(.int f1.toInt32), (.ref va)])) rfl rfl (hb hby own_d21_41) _ ?_
    exact kz
  obtain ⟨fs, hr, hrun, hended, hW, hsame⟩ := X23.leave (v := some (.double x1)) (fun h => by rw [Bd.returns] at h; cases h)
  refine own_of ⟨_, _, ?_, hrun, hended, _, _, rfl, ?_, ⟨_, rfl⟩, hW, hsame.mono (by decide) (by decide)⟩
  · show sT p e below T23 (mkF m 42 #[rv u0, iv 1, iv 0] [(.double x1)]) _
    exact own_retD X23 hx Bd.returns (hb hby own_d21_42) hr
  · show Q211 Z u0 n x0 x1 x2 B h0 n0 _ T23.heap _
    rw [e23]
    exact ⟨rfl, N0, rfl⟩
theorem own_ef_212 (m : MethodId) (x0 : Addr) (x1 : Int32) : entryFrame m #[(.ref x0), (.int x1)] 3 = mkF m 0 #[rv x0, iv x1, .unset] [] := by first | (simp [entryFrame, mkF, argsToLocals, Value.category]; done) | rfl
def Q212 (Z : State) (u0 : Addr) (n : Int32) (x0 : UInt64) (x1 : UInt64) (x2 : UInt64) (B : Nat) (h0 : Heap) (n0 : Nat) (v : Option Value) (h : Heap) (L : List Loc) : Prop := v = some (.double x2) ∧ Fr n0 L ∧ h = h0
set_option maxRecDepth 65536 in
set_option maxHeartbeats 40000000 in
theorem rm212 (l : Launch) (Z : State) (a0 : Array Value) (hw : ∀ d ∈ tables_1, d.before a0 Z = true) (ws : List Jvm.Cond) (u0 : Addr) (n : Int32) (x0 : UInt64) (x1 : UInt64) (x2 : UInt64) (B : Nat) (h0 : Heap) (n0 : Nat) (O0 : Old Z n0 h0) (hD : OwnD Z h0 n0 u0 n x0 x1 x2 B) (hB4 : B ≤ 4) :
    MetFree l (⟨"com/example/vows_to_moves/vowstomoves/model/DoubleColumn", "get", "(I)D"⟩ : MethodName) (head1 (Jvm.Cond.code (⟨"com/example/vows_to_moves/vowstomoves/model/DoubleColumn", "get", "(I)D"⟩ : MethodName) prog_72_method_3_code 3 (some .double) :: ws) ({ frames := 0, cells := 0, slots := 0, locals := 0 } : Room)) (fun a U => a = #[(.ref u0), (.int (2 : Int32))] ∧ Z.Warmed39 U.vm ∧ U.heap = h0) (fun _ _ _ _ _ => True) (fun _ U o U' => ∃ v L, o = .returned v ∧ Q212 Z u0 n x0 x1 x2 B h0 n0 v U'.heap L ∧ FrameEnd U o U' L ({ frames := 0, cells := 0, slots := 0, locals := 0 } : Room).cells ({ frames := 0, cells := 0, slots := 0, locals := 0 } : Room).slots) := by
  refine MetFree.of_bodySF (plainFor_of_name own_pn_com_example_vows_to_moves_vowstomoves_model_DoubleColumn) hisR ?_
  intro p e s m args below meth c s₁ Bd hml0 hP hK
  obtain ⟨rfl, hZ, hh⟩ := hP
  have hx := Bd.exec
  have hby := Bd.bytes
  have hml : c.maxLocals = 3 := hml0
  have hown : s.vm.findClass "com/example/vows_to_moves/vowstomoves/model/DoubleColumn" = some m.cls := findClass_of_methodNamed Bd.named
  have hnm := (name_of_methodNamed Bd.named Bd.method).1
  have X0 : Stand p l e ({ frames := 0, cells := 0, slots := 0, locals := 0 } : Room) s m #[(.ref u0), (.int (2 : Int32))] below meth c s₁ [] 0 0 := Stand.of_body Bd
  have e0 : s₁.heap = h0 := by rw [← hh, Bd.state]; rfl
  have N0 := Fr.nil n0
  change Go p.tables e below _ _
  refine own_on (B := s₁.setTop (mkF m 0 #[rv u0, iv 2, un] [])) (fun tz kz => castTop (own_ef_212 m u0 (2 : Int32)) kz) ?_
  obtain ⟨ln, lc, ja, sa, va, ca, cc, jc, kj, ks, kv, kc, kk, kl, vs, S, v0, v1, v2, v3, f0, f1, f2, mm, ⟨h1_, hB_⟩, ⟨m0_, m1_, m2_⟩, ⟨y0_, y1_, y2_⟩, o1, g_u0, E_u0, Fd, Fv, Fo, Fp, Fn, Eln, Fk, Fsl, El, Fc, Fs, Vj, Vs, Vv, Va, Ve, Vl, hT, hS⟩ := hD
  have h4_ : mm ≤ 4 := Nat.le_trans hB_ hB4
  refine own_on (B := s₁.setTop (mkF m 6 #[rv u0, iv 2, iv 0] [(.ref u0)])) (fun tz kz => ?_) ?_
  · show sT p e below s₁ (mkF m 0 #[rv u0, iv 2, un] []) tz
    refine XS.iloadN X0.here hx rfl (hb hby own_d21_0) rfl ?_
    show sT p e below s₁ (mkF m 1 #[rv u0, iv 2, un] [(.int 2)]) tz
    refine XS.bipush X0.here hx rfl (hb hby own_d21_1) ?_
    show sT p e below s₁ (mkF m 3 #[rv u0, iv 2, un] [(.int 15), (.int 2)]) tz
    refine XS.iushr X0.here hx rfl (hb hby own_d21_3) rfl ?_
    show sT p e below s₁ (mkF m 4 #[rv u0, iv 2, un] [(.int 0)]) tz
    refine XS.istoreN X0.here hx rfl (hb hby own_d21_4) rfl (l' := #[rv u0, iv 2, iv 0]) rfl ?_
    show sT p e below s₁ (mkF m 5 #[rv u0, iv 2, iv 0] []) tz
    refine XS.aloadN X0.here hx rfl (hb hby own_d21_5) rfl rfl ?_
    exact kz
  obtain ⟨T21, X21, e21, st21⟩ := getF X0 hx hZ hown (host := "") (Or.inl (own_w hw 68 rfl)) Via.refl e0 Fp (g := (mkF m 6 #[rv u0, iv 2, iv 0] [(.ref u0)])) rfl rfl (hb hby own_d21_6)
  refine own_on (B := T21.setTop (mkF m 9 #[rv u0, iv 2, iv 0] [.null])) (fun tz kz => st21 _ kz) ?_
  refine own_on (B := T21.setTop (mkF m 26 #[rv u0, iv 2, iv 0] [(.ref u0)])) (fun tz kz => ?_) ?_
  · show sT p e below T21 (mkF m 9 #[rv u0, iv 2, iv 0] [.null]) tz
    refine XS.ifnullYes X21.here hx rfl (pc0 := 9) (pc' := 25) rfl (hb hby own_d21_9) rfl (by decide) (by decide) ?_
    show sT p e below T21 (mkF m 25 #[rv u0, iv 2, iv 0] []) tz
    refine XS.aloadN X21.here hx rfl (hb hby own_d21_25) rfl rfl ?_
    exact kz
  obtain ⟨T22, X22, e22, st22⟩ := getF X21 hx hZ hown (host := "") (Or.inl (own_w hw 55 rfl)) Via.refl e21 Fv (g := (mkF m 26 #[rv u0, iv 2, iv 0] [(.ref u0)])) rfl rfl (hb hby own_d21_26)
  refine own_on (B := T22.setTop (mkF m 29 #[rv u0, iv 2, iv 0] [(.ref va)])) (fun tz kz => st22 _ kz) ?_
  refine own_on (B := T22.setTop (mkF m 30 #[rv u0, iv 2, iv 0] [(.ref u0), (.ref va)])) (fun tz kz => ?_) ?_
  · show sT p e below T22 (mkF m 29 #[rv u0, iv 2, iv 0] [(.ref va)]) tz
    refine XS.aloadN X22.here hx rfl (hb hby own_d21_29) rfl rfl ?_
    exact kz
  obtain ⟨T23, X23, e23, st23⟩ := getF X22 hx hZ hown (host := "") (Or.inl (own_w hw 59 rfl)) Via.refl e22 Fo (g := (mkF m 30 #[rv u0, iv 2, iv 0] [(.ref u0), (.ref va)])) rfl rfl (hb hby own_d21_30)
  refine own_on (B := T23.setTop (mkF m 33 #[rv u0, iv 2, iv 0] [(.ref ca), (.ref va)])) (fun tz kz => st23 _ kz) ?_
  refine own_on (B := T23.setTop (mkF m 34 #[rv u0, iv 2, iv 0] [(.int 0), (.ref ca), (.ref va)])) (fun tz kz => ?_) ?_
  · show sT p e below T23 (mkF m 33 #[rv u0, iv 2, iv 0] [(.ref ca), (.ref va)]) tz
    refine XS.iloadN X23.here hx rfl (hb hby own_d21_33) rfl ?_
    exact kz
  obtain ⟨cl24, Ar24, q24, S24, M24, H24, G24⟩ := id Va
  have hin25 : ¬ ((0 : Int32) < 0 ∨ cl24.slots.size ≤ ((0 : Int32)).toNatClampNeg) := inb_of S24 ⟨by decide, by decide⟩
  have hat25 : cl24.slots[((0 : Int32)).toNatClampNeg]? = some (.ref cc) := Has.at H24 hin25 rfl
  refine own_on (B := T23.setTop (mkF m 40 #[rv u0, iv 2, iv 0] [(.int 2), (.ref cc), (.ref va)])) (fun tz kz => ?_) ?_
  · show sT p e below T23 (mkF m 34 #[rv u0, iv 2, iv 0] [(.int 0), (.ref ca), (.ref va)]) tz
    refine X23.aaload hx (j := (0 : Int32)) (v := (.ref cc)) (by rw [e23]; exact Ar24.1) (State.isArrayOf_alike hZ.alike Ar24.2.1) rfl Ar24.2.2 hin25 hat25 (g := (mkF m 34 #[rv u0, iv 2, iv 0] [(.int 0), (.ref ca), (.ref va)])) rfl rfl (hb hby own_d21_34) _ ?_
    show sT p e below T23 (mkF m 35 #[rv u0, iv 2, iv 0] [(.ref cc), (.ref va)]) tz
    refine XS.iloadN X23.here hx rfl (hb hby own_d21_35) rfl ?_
    show sT p e below T23 (mkF m 36 #[rv u0, iv 2, iv 0] [(.int 2), (.ref cc), (.ref va)]) tz
    refine XS.sipush X23.here hx rfl (hb hby own_d21_36) ?_
    show sT p e below T23 (mkF m 39 #[rv u0, iv 2, iv 0] [(.int 32767), (.int 2), (.ref cc), (.ref va)]) tz
    refine XS.iand X23.here hx rfl (hb hby own_d21_39) rfl ?_
    exact kz
  obtain ⟨cl26, Ar26, q26, S26, M26, H26, G26⟩ := id Ve
  have hin27 : ¬ ((2 : Int32) < 0 ∨ cl26.slots.size ≤ ((2 : Int32)).toNatClampNeg) := inb_of S26 ⟨by decide, by decide⟩
  have hat27 : cl26.slots[((2 : Int32)).toNatClampNeg]? = some (.int f2.toInt32) := Has.at H26 hin27 rfl
  refine own_on (B := T23.setTop (mkF m 41 #[rv u0, iv 2, iv 0] [(.int f2.toInt32), (.ref va)])) (fun tz kz => ?_) ?_
  · show sT p e below T23 (mkF m 40 #[rv u0, iv 2, iv 0] [(.int 2), (.ref cc), (.ref va)]) tz
    refine X23.caload hx (j := (2 : Int32)) (v := (.int f2.toInt32)) (by rw [e23]; exact Ar26.1) (State.isArrayOf_alike hZ.alike Ar26.2.1) Ar26.2.2 hin27 hat27 (g := (mkF m 40 #[rv u0, iv 2, iv 0] [(.int 2), (.ref cc), (.ref va)])) rfl rfl (hb hby own_d21_40) _ ?_
    exact kz
  obtain ⟨cl28, Ar28, q28, S28, M28, H28, G28⟩ := id Vv
  have hin29 : ¬ (f2.toInt32 < 0 ∨ cl28.slots.size ≤ (f2.toInt32).toNatClampNeg) := inb_of S28 ⟨(own_ix m2_ h4_).1, Int32.lt_trans (own_ix m2_ h4_).2.1 (by decide)⟩
  have hat29 : cl28.slots[(f2.toInt32).toNatClampNeg]? = some (.double x2) := Has.at H28 hin29 ((own_vd (own_ix m2_ h4_).2.2.1 (Nat.lt_of_lt_of_le m2_ h4_)).trans (congrArg Value.double y2_))
  refine own_on (B := T23.setTop (mkF m 42 #[rv u0, iv 2, iv 0] [(.double x2)])) (fun tz kz => ?_) ?_
  · show sT p e below T23 (mkF m 41 #[rv u0, iv 2, iv 0] [(.int f2.toInt32), (.ref va)]) tz
    refine X23.daload hx (j := f2.toInt32) (v := (.double x2)) (by rw [e23]; exact Ar28.1) (State.isArrayOf_alike hZ.alike Ar28.2.1) Ar28.2.2 hin29 hat29 (g := (mkF m 41 #[rv u0, iv 2, iv 0] [(.int f2.toInt32), (.ref va)])) rfl rfl (hb hby own_d21_41) _ ?_
    exact kz
  obtain ⟨fs, hr, hrun, hended, hW, hsame⟩ := X23.leave (v := some (.double x2)) (fun h => by rw [Bd.returns] at h; cases h)
  refine own_of ⟨_, _, ?_, hrun, hended, _, _, rfl, ?_, ⟨_, rfl⟩, hW, hsame.mono (by decide) (by decide)⟩
  · show sT p e below T23 (mkF m 42 #[rv u0, iv 2, iv 0] [(.double x2)]) _
    exact own_retD X23 hx Bd.returns (hb hby own_d21_42) hr
  · show Q212 Z u0 n x0 x1 x2 B h0 n0 _ T23.heap _
    rw [e23]
    exact ⟨rfl, N0, rfl⟩
theorem own_idx (x k : Int32) (h : ((x.toUInt32 >>> ((7 : Int32) &&& 31).toUInt32).toInt32) % (3 : Int32) = k) : k = 0 ∨ k = 1 ∨ k = 2 := by
  have e := c_iushr x 7 7 (by decide) (by decide)
  generalize ((x.toUInt32 >>> ((7 : Int32) &&& 31).toUInt32).toInt32) = y at *
  have p7 : ((2 ^ 7 : Nat) : Int) = 128 := by decide
  rw [p7] at e
  have e2 := (c_irem y 3 3 (by decide)).1 (by omega)
  rw [h] at e2
  have z : (0 : Int32).toInt = 0 := rfl
  have z1 : (1 : Int32).toInt = 1 := rfl
  have z2 : (2 : Int32).toInt = 2 := rfl
  simp only [← Int32.toInt_inj]; omega
theorem own_nni {x : Int32} {z : UInt64} (h : FP.i2d x = z) : Jvm.Free.Fl.NoNaN64 z := h ▸ (Jvm.Free.Fl.i2d_fin x).noNaN
theorem own_nnif {P : Prop} [Decidable P] {x y : Int32} {z : UInt64} (h : (if P then FP.i2d x else FP.i2d y) = z) : Jvm.Free.Fl.NoNaN64 z := by
  by_cases q : P
  · rw [if_pos q] at h; exact own_nni h
  · rw [if_neg q] at h; exact own_nni h
theorem own_01 {P : Prop} [Decidable P] {z : Int32} (h : (if P then (0 : Int32) else (1 : Int32)) = z) : z = 0 ∨ z = 1 := by
  by_cases q : P
  · rw [if_pos q] at h; exact Or.inl h.symm
  · rw [if_neg q] at h; exact Or.inr h.symm
theorem OwnD.exa {Z : State} {h : Heap} {n0 : Nat} {u0 : Addr} {n : Int32} {x0 x1 x2 : UInt64} {B : Nat} (D : OwnD Z h n0 u0 n x0 x1 x2 B) : Exa Z h u0 "com/example/vows_to_moves/vowstomoves/model/DoubleColumn" := by
  obtain ⟨ln, lc, ja, sa, va, ca, cc, jc, kj, ks, kv, kc, kk, kl, vs, S, v0, v1, v2, v3, f0, f1, f2, mm, -, -, -, -, -, E, Fd, Fv, Fo, Fp, Fn, -⟩ := D
  exact E
theorem OwnD.len {Z : State} {h : Heap} {n0 : Nat} {u0 : Addr} {n : Int32} {x0 x1 x2 : UInt64} {B : Nat} (D : OwnD Z h n0 u0 n x0 x1 x2 B) : Fld Z h u0 "com/example/vows_to_moves/vowstomoves/model/DoubleColumn" "size" "I" (.int n) := by
  obtain ⟨ln, lc, ja, sa, va, ca, cc, jc, kj, ks, kv, kc, kk, kl, vs, S, v0, v1, v2, v3, f0, f1, f2, mm, -, -, -, -, -, E, Fd, Fv, Fo, Fp, Fn, -⟩ := D
  exact Fn
theorem own_pn_com_example_vows_to_moves_vowstomoves_model_DoubleColumnGetPinLaw : plainName "com/example/vows_to_moves/vowstomoves/model/DoubleColumnGetPinLaw" = true := by first | (simp [plainName, overriddenIn]; done) | decide +kernel
theorem own_ef_0 (m : MethodId) (x0 : Int32) (x1 : Int32) (x2 : Int32) (x3 : Int32) (x4 : Int32) : entryFrame m #[(.int x0), (.int x1), (.int x2), (.int x3), (.int x4)] maxLocals = mkF m 0 #[iv x0, iv x1, iv x2, iv x3, iv x4, .unset, .unset, .unset, .unset, .unset, .unset, .unset, .unset, .unset, .unset, .unset, .unset, .unset, .unset, .unset, .unset, .unset] [] := by first | (simp [entryFrame, mkF, argsToLocals, Value.category, maxLocals]; done) | rfl
def Q0 (Z : State) (p0 : Int32) (p1 : Int32) (p2 : Int32) (p3 : Int32) (p4 : Int32) (h0 : Heap) (n0 : Nat) (v : Option Value) (h : Heap) (L : List Loc) : Prop := v = some (.int 1) ∧ Fr n0 L
theorem own_pd13 : parseMethodDescriptor "(D)V" = some ⟨[.double], none⟩ := by decide +kernel
theorem own_pd14 : parseMethodDescriptor "(I)D" = some ⟨[.int], some .double⟩ := by decide +kernel
set_option maxRecDepth 65536 in
set_option maxHeartbeats 40000000 in
theorem rm0 (l : Launch) (Z : State) (a0 : Array Value) (hw : ∀ d ∈ tables_1, d.before a0 Z = true) (ws : List Jvm.Cond) (p0 : Int32) (p1 : Int32) (p2 : Int32) (p3 : Int32) (p4 : Int32) (h0 : Heap) (n0 : Nat) (O0 : Old Z n0 h0) :
    MetFree l x (head1 (Jvm.Cond.code x code maxLocals ret :: ws) room_1) (fun a U => a = #[(.int p0), (.int p1), (.int p2), (.int p3), (.int p4)] ∧ Z.Warmed39 U.vm ∧ U.heap = h0) (fun _ _ _ _ _ => True) (fun _ U o U' => ∃ v L, o = .returned v ∧ Q0 Z p0 p1 p2 p3 p4 h0 n0 v U'.heap L ∧ FrameEnd U o U' L room_1.cells room_1.slots) := by
  refine MetFree.of_bodySF (plainFor_of_name own_pn_com_example_vows_to_moves_vowstomoves_model_DoubleColumnGetPinLaw) hisR ?_
  intro p e s m args below meth c s₁ Bd hml0 hP hK
  obtain ⟨rfl, hZ, hh⟩ := hP
  have hx := Bd.exec
  have hby := Bd.bytes
  have hml : c.maxLocals = 22 := hml0
  have hown : s.vm.findClass "com/example/vows_to_moves/vowstomoves/model/DoubleColumnGetPinLaw" = some m.cls := findClass_of_methodNamed Bd.named
  have hnm := (name_of_methodNamed Bd.named Bd.method).1
  have X0 : Stand p l e room_1 s m #[(.int p0), (.int p1), (.int p2), (.int p3), (.int p4)] below meth c s₁ [] 0 0 := Stand.of_body Bd
  have e0 : s₁.heap = h0 := by rw [← hh, Bd.state]; rfl
  have N0 := Fr.nil n0
  change Go p.tables e below _ _
  refine own_on (B := s₁.setTop (mkF m 0 #[iv p0, iv p1, iv p2, iv p3, iv p4, un, un, un, un, un, un, un, un, un, un, un, un, un, un, un, un, un] [])) (fun tz kz => castTop (own_ef_0 m p0 p1 p2 p3 p4) kz) ?_
  refine own_on (B := s₁.setTop (mkF m 4 #[iv p0, iv p1, iv p2, iv p3, iv p4, dw (FP.i2d p0), sn, un, un, un, un, un, un, un, un, un, un, un, un, un, un, un] [])) (fun tz kz => ?_) ?_
  · show sT p e below s₁ (mkF m 0 #[iv p0, iv p1, iv p2, iv p3, iv p4, un, un, un, un, un, un, un, un, un, un, un, un, un, un, un, un, un] []) tz
    refine XS.iloadN X0.here hx rfl (hb hby at_0) rfl ?_
    show sT p e below s₁ (mkF m 1 #[iv p0, iv p1, iv p2, iv p3, iv p4, un, un, un, un, un, un, un, un, un, un, un, un, un, un, un, un, un] [(.int p0)]) tz
    refine XS.i2dS X0.here hx rfl (hb hby at_1) rfl (v := (FP.i2d p0)) rfl ?_
    show sT p e below s₁ (mkF m 2 #[iv p0, iv p1, iv p2, iv p3, iv p4, un, un, un, un, un, un, un, un, un, un, un, un, un, un, un, un, un] [(.double (FP.i2d p0))]) tz
    refine XS.dstore X0.here hx rfl (hb hby at_2) rfl (l' := #[iv p0, iv p1, iv p2, iv p3, iv p4, dw (FP.i2d p0), sn, un, un, un, un, un, un, un, un, un, un, un, un, un, un, un]) rfl ?_
    exact kz
  generalize hv_da : (FP.i2d p0) = da
  have nn_da := own_nni hv_da
  clear hv_da
  refine own_on (B := s₁.setTop (mkF m 8 #[iv p0, iv p1, iv p2, iv p3, iv p4, dw da, sn, un, un, un, un, un, un, un, un, un, un, un, un, un, un, un] [(.int (p4 &&& (1 : Int32)))])) (fun tz kz => ?_) ?_
  · show sT p e below s₁ (mkF m 4 #[iv p0, iv p1, iv p2, iv p3, iv p4, dw da, sn, un, un, un, un, un, un, un, un, un, un, un, un, un, un, un] []) tz
    refine XS.iload X0.here hx rfl (hb hby at_4) rfl ?_
    show sT p e below s₁ (mkF m 6 #[iv p0, iv p1, iv p2, iv p3, iv p4, dw da, sn, un, un, un, un, un, un, un, un, un, un, un, un, un, un, un] [(.int p4)]) tz
    refine XS.iconst X0.here hx rfl (hb hby at_6) ?_
    show sT p e below s₁ (mkF m 7 #[iv p0, iv p1, iv p2, iv p3, iv p4, dw da, sn, un, un, un, un, un, un, un, un, un, un, un, un, un, un, un] [(.int 1), (.int p4)]) tz
    refine XS.iand X0.here hx rfl (hb hby at_7) rfl ?_
    exact kz
  obtain ⟨mv22, hmv22⟩ : ∃ z, z = (if (p4 &&& (1 : Int32)) = (0 : Int32) then (FP.i2d p1) else (FP.i2d p0)) := ⟨_, rfl⟩
  refine own_on (B := s₁.setTop (mkF m 18 #[iv p0, iv p1, iv p2, iv p3, iv p4, dw da, sn, un, un, un, un, un, un, un, un, un, un, un, un, un, un, un] [(.double mv22)])) (fun tz kz => ?_) ?_
  · show sT p e below s₁ (mkF m 8 #[iv p0, iv p1, iv p2, iv p3, iv p4, dw da, sn, un, un, un, un, un, un, un, un, un, un, un, un, un, un, un] [(.int (p4 &&& (1 : Int32)))]) tz
    by_cases hm21 : (p4 &&& (1 : Int32)) = (0 : Int32)
    · refine XS.ifYes X0.here hx rfl (pc0 := 8) (pc' := 16) rfl (hb hby at_8) rfl ((if0 _ _).trans (teq hm21).1) (by decide) (by decide) ?_
      show sT p e below s₁ (mkF m 16 #[iv p0, iv p1, iv p2, iv p3, iv p4, dw da, sn, un, un, un, un, un, un, un, un, un, un, un, un, un, un, un] []) tz
      refine XS.iloadN X0.here hx rfl (hb hby at_16) rfl ?_
      show sT p e below s₁ (mkF m 17 #[iv p0, iv p1, iv p2, iv p3, iv p4, dw da, sn, un, un, un, un, un, un, un, un, un, un, un, un, un, un, un] [(.int p1)]) tz
      refine XS.i2dS X0.here hx rfl (hb hby at_17) rfl (v := (FP.i2d p1)) rfl ?_
      show sT p e below s₁ (mkF m 18 #[iv p0, iv p1, iv p2, iv p3, iv p4, dw da, sn, un, un, un, un, un, un, un, un, un, un, un, un, un, un, un] [(.double (FP.i2d p1))]) tz
      rw [if_pos hm21] at hmv22
      rw [hmv22] at kz
      exact kz
    · refine XS.ifNo X0.here hx rfl (hb hby at_8) rfl ((if0 _ _).trans (feq hm21).1) ?_
      show sT p e below s₁ (mkF m 11 #[iv p0, iv p1, iv p2, iv p3, iv p4, dw da, sn, un, un, un, un, un, un, un, un, un, un, un, un, un, un, un] []) tz
      refine XS.iloadN X0.here hx rfl (hb hby at_11) rfl ?_
      show sT p e below s₁ (mkF m 12 #[iv p0, iv p1, iv p2, iv p3, iv p4, dw da, sn, un, un, un, un, un, un, un, un, un, un, un, un, un, un, un] [(.int p0)]) tz
      refine XS.i2dS X0.here hx rfl (hb hby at_12) rfl (v := (FP.i2d p0)) rfl ?_
      show sT p e below s₁ (mkF m 13 #[iv p0, iv p1, iv p2, iv p3, iv p4, dw da, sn, un, un, un, un, un, un, un, un, un, un, un, un, un, un, un] [(.double (FP.i2d p0))]) tz
      refine XS.goto X0.here hx rfl (pc0 := 13) (pc' := 18) rfl (hb hby at_13) (by decide) (by decide) ?_
      show sT p e below s₁ (mkF m 18 #[iv p0, iv p1, iv p2, iv p3, iv p4, dw da, sn, un, un, un, un, un, un, un, un, un, un, un, un, un, un, un] [(.double (FP.i2d p0))]) tz
      rw [if_neg hm21] at hmv22
      rw [hmv22] at kz
      exact kz
  rw [hmv22]
  generalize hv_db : (if (p4 &&& (1 : Int32)) = (0 : Int32) then (FP.i2d p1) else (FP.i2d p0)) = db
  have nn_db := own_nnif hv_db
  clear hv_db
  refine own_on (B := s₁.setTop (mkF m 24 #[iv p0, iv p1, iv p2, iv p3, iv p4, dw da, sn, dw db, sn, un, un, un, un, un, un, un, un, un, un, un, un, un] [(.int (p4 &&& (2 : Int32)))])) (fun tz kz => ?_) ?_
  · show sT p e below s₁ (mkF m 18 #[iv p0, iv p1, iv p2, iv p3, iv p4, dw da, sn, un, un, un, un, un, un, un, un, un, un, un, un, un, un, un] [(.double db)]) tz
    refine XS.dstore X0.here hx rfl (hb hby at_18) rfl (l' := #[iv p0, iv p1, iv p2, iv p3, iv p4, dw da, sn, dw db, sn, un, un, un, un, un, un, un, un, un, un, un, un, un]) rfl ?_
    show sT p e below s₁ (mkF m 20 #[iv p0, iv p1, iv p2, iv p3, iv p4, dw da, sn, dw db, sn, un, un, un, un, un, un, un, un, un, un, un, un, un] []) tz
    refine XS.iload X0.here hx rfl (hb hby at_20) rfl ?_
    show sT p e below s₁ (mkF m 22 #[iv p0, iv p1, iv p2, iv p3, iv p4, dw da, sn, dw db, sn, un, un, un, un, un, un, un, un, un, un, un, un, un] [(.int p4)]) tz
    refine XS.iconst X0.here hx rfl (hb hby at_22) ?_
    show sT p e below s₁ (mkF m 23 #[iv p0, iv p1, iv p2, iv p3, iv p4, dw da, sn, dw db, sn, un, un, un, un, un, un, un, un, un, un, un, un, un] [(.int 2), (.int p4)]) tz
    refine XS.iand X0.here hx rfl (hb hby at_23) rfl ?_
    exact kz
  obtain ⟨mv24, hmv24⟩ : ∃ z, z = (if (p4 &&& (2 : Int32)) = (0 : Int32) then (FP.i2d p2) else (FP.i2d p1)) := ⟨_, rfl⟩
  refine own_on (B := s₁.setTop (mkF m 34 #[iv p0, iv p1, iv p2, iv p3, iv p4, dw da, sn, dw db, sn, un, un, un, un, un, un, un, un, un, un, un, un, un] [(.double mv24)])) (fun tz kz => ?_) ?_
  · show sT p e below s₁ (mkF m 24 #[iv p0, iv p1, iv p2, iv p3, iv p4, dw da, sn, dw db, sn, un, un, un, un, un, un, un, un, un, un, un, un, un] [(.int (p4 &&& (2 : Int32)))]) tz
    by_cases hm23 : (p4 &&& (2 : Int32)) = (0 : Int32)
    · refine XS.ifYes X0.here hx rfl (pc0 := 24) (pc' := 32) rfl (hb hby at_24) rfl ((if0 _ _).trans (teq hm23).1) (by decide) (by decide) ?_
      show sT p e below s₁ (mkF m 32 #[iv p0, iv p1, iv p2, iv p3, iv p4, dw da, sn, dw db, sn, un, un, un, un, un, un, un, un, un, un, un, un, un] []) tz
      refine XS.iloadN X0.here hx rfl (hb hby at_32) rfl ?_
      show sT p e below s₁ (mkF m 33 #[iv p0, iv p1, iv p2, iv p3, iv p4, dw da, sn, dw db, sn, un, un, un, un, un, un, un, un, un, un, un, un, un] [(.int p2)]) tz
      refine XS.i2dS X0.here hx rfl (hb hby at_33) rfl (v := (FP.i2d p2)) rfl ?_
      show sT p e below s₁ (mkF m 34 #[iv p0, iv p1, iv p2, iv p3, iv p4, dw da, sn, dw db, sn, un, un, un, un, un, un, un, un, un, un, un, un, un] [(.double (FP.i2d p2))]) tz
      rw [if_pos hm23] at hmv24
      rw [hmv24] at kz
      exact kz
    · refine XS.ifNo X0.here hx rfl (hb hby at_24) rfl ((if0 _ _).trans (feq hm23).1) ?_
      show sT p e below s₁ (mkF m 27 #[iv p0, iv p1, iv p2, iv p3, iv p4, dw da, sn, dw db, sn, un, un, un, un, un, un, un, un, un, un, un, un, un] []) tz
      refine XS.iloadN X0.here hx rfl (hb hby at_27) rfl ?_
      show sT p e below s₁ (mkF m 28 #[iv p0, iv p1, iv p2, iv p3, iv p4, dw da, sn, dw db, sn, un, un, un, un, un, un, un, un, un, un, un, un, un] [(.int p1)]) tz
      refine XS.i2dS X0.here hx rfl (hb hby at_28) rfl (v := (FP.i2d p1)) rfl ?_
      show sT p e below s₁ (mkF m 29 #[iv p0, iv p1, iv p2, iv p3, iv p4, dw da, sn, dw db, sn, un, un, un, un, un, un, un, un, un, un, un, un, un] [(.double (FP.i2d p1))]) tz
      refine XS.goto X0.here hx rfl (pc0 := 29) (pc' := 34) rfl (hb hby at_29) (by decide) (by decide) ?_
      show sT p e below s₁ (mkF m 34 #[iv p0, iv p1, iv p2, iv p3, iv p4, dw da, sn, dw db, sn, un, un, un, un, un, un, un, un, un, un, un, un, un] [(.double (FP.i2d p1))]) tz
      rw [if_neg hm23] at hmv24
      rw [hmv24] at kz
      exact kz
  rw [hmv24]
  generalize hv_dc : (if (p4 &&& (2 : Int32)) = (0 : Int32) then (FP.i2d p2) else (FP.i2d p1)) = dc
  have nn_dc := own_nnif hv_dc
  clear hv_dc
  refine own_on (B := s₁.setTop (mkF m 40 #[iv p0, iv p1, iv p2, iv p3, iv p4, dw da, sn, dw db, sn, dw dc, sn, un, un, un, un, un, un, un, un, un, un, un] [(.int (p4 &&& (4 : Int32)))])) (fun tz kz => ?_) ?_
  · show sT p e below s₁ (mkF m 34 #[iv p0, iv p1, iv p2, iv p3, iv p4, dw da, sn, dw db, sn, un, un, un, un, un, un, un, un, un, un, un, un, un] [(.double dc)]) tz
    refine XS.dstore X0.here hx rfl (hb hby at_34) rfl (l' := #[iv p0, iv p1, iv p2, iv p3, iv p4, dw da, sn, dw db, sn, dw dc, sn, un, un, un, un, un, un, un, un, un, un, un]) rfl ?_
    show sT p e below s₁ (mkF m 36 #[iv p0, iv p1, iv p2, iv p3, iv p4, dw da, sn, dw db, sn, dw dc, sn, un, un, un, un, un, un, un, un, un, un, un] []) tz
    refine XS.iload X0.here hx rfl (hb hby at_36) rfl ?_
    show sT p e below s₁ (mkF m 38 #[iv p0, iv p1, iv p2, iv p3, iv p4, dw da, sn, dw db, sn, dw dc, sn, un, un, un, un, un, un, un, un, un, un, un] [(.int p4)]) tz
    refine XS.iconst X0.here hx rfl (hb hby at_38) ?_
    show sT p e below s₁ (mkF m 39 #[iv p0, iv p1, iv p2, iv p3, iv p4, dw da, sn, dw db, sn, dw dc, sn, un, un, un, un, un, un, un, un, un, un, un] [(.int 4), (.int p4)]) tz
    refine XS.iand X0.here hx rfl (hb hby at_39) rfl ?_
    exact kz
  obtain ⟨mv26, hmv26⟩ : ∃ z, z = (if (p4 &&& (4 : Int32)) = (0 : Int32) then (FP.i2d p0) else (FP.i2d p3)) := ⟨_, rfl⟩
  refine own_on (B := s₁.setTop (mkF m 50 #[iv p0, iv p1, iv p2, iv p3, iv p4, dw da, sn, dw db, sn, dw dc, sn, un, un, un, un, un, un, un, un, un, un, un] [(.double mv26)])) (fun tz kz => ?_) ?_
  · show sT p e below s₁ (mkF m 40 #[iv p0, iv p1, iv p2, iv p3, iv p4, dw da, sn, dw db, sn, dw dc, sn, un, un, un, un, un, un, un, un, un, un, un] [(.int (p4 &&& (4 : Int32)))]) tz
    by_cases hm25 : (p4 &&& (4 : Int32)) = (0 : Int32)
    · refine XS.ifYes X0.here hx rfl (pc0 := 40) (pc' := 48) rfl (hb hby at_40) rfl ((if0 _ _).trans (teq hm25).1) (by decide) (by decide) ?_
      show sT p e below s₁ (mkF m 48 #[iv p0, iv p1, iv p2, iv p3, iv p4, dw da, sn, dw db, sn, dw dc, sn, un, un, un, un, un, un, un, un, un, un, un] []) tz
      refine XS.iloadN X0.here hx rfl (hb hby at_48) rfl ?_
      show sT p e below s₁ (mkF m 49 #[iv p0, iv p1, iv p2, iv p3, iv p4, dw da, sn, dw db, sn, dw dc, sn, un, un, un, un, un, un, un, un, un, un, un] [(.int p0)]) tz
      refine XS.i2dS X0.here hx rfl (hb hby at_49) rfl (v := (FP.i2d p0)) rfl ?_
      show sT p e below s₁ (mkF m 50 #[iv p0, iv p1, iv p2, iv p3, iv p4, dw da, sn, dw db, sn, dw dc, sn, un, un, un, un, un, un, un, un, un, un, un] [(.double (FP.i2d p0))]) tz
      rw [if_pos hm25] at hmv26
      rw [hmv26] at kz
      exact kz
    · refine XS.ifNo X0.here hx rfl (hb hby at_40) rfl ((if0 _ _).trans (feq hm25).1) ?_
      show sT p e below s₁ (mkF m 43 #[iv p0, iv p1, iv p2, iv p3, iv p4, dw da, sn, dw db, sn, dw dc, sn, un, un, un, un, un, un, un, un, un, un, un] []) tz
      refine XS.iloadN X0.here hx rfl (hb hby at_43) rfl ?_
      show sT p e below s₁ (mkF m 44 #[iv p0, iv p1, iv p2, iv p3, iv p4, dw da, sn, dw db, sn, dw dc, sn, un, un, un, un, un, un, un, un, un, un, un] [(.int p3)]) tz
      refine XS.i2dS X0.here hx rfl (hb hby at_44) rfl (v := (FP.i2d p3)) rfl ?_
      show sT p e below s₁ (mkF m 45 #[iv p0, iv p1, iv p2, iv p3, iv p4, dw da, sn, dw db, sn, dw dc, sn, un, un, un, un, un, un, un, un, un, un, un] [(.double (FP.i2d p3))]) tz
      refine XS.goto X0.here hx rfl (pc0 := 45) (pc' := 50) rfl (hb hby at_45) (by decide) (by decide) ?_
      show sT p e below s₁ (mkF m 50 #[iv p0, iv p1, iv p2, iv p3, iv p4, dw da, sn, dw db, sn, dw dc, sn, un, un, un, un, un, un, un, un, un, un, un] [(.double (FP.i2d p3))]) tz
      rw [if_neg hm25] at hmv26
      rw [hmv26] at kz
      exact kz
  rw [hmv26]
  generalize hv_de : (if (p4 &&& (4 : Int32)) = (0 : Int32) then (FP.i2d p0) else (FP.i2d p3)) = de
  have nn_de := own_nnif hv_de
  clear hv_de
  refine own_on (B := s₁.setTop (mkF m 61 #[iv p0, iv p1, iv p2, iv p3, iv p4, dw da, sn, dw db, sn, dw dc, sn, dw de, sn, iv (((p4.toUInt32 >>> ((7 : Int32) &&& 31).toUInt32).toInt32) % (3 : Int32)), un, un, un, un, un, un, un, un] [])) (fun tz kz => ?_) ?_
  · show sT p e below s₁ (mkF m 50 #[iv p0, iv p1, iv p2, iv p3, iv p4, dw da, sn, dw db, sn, dw dc, sn, un, un, un, un, un, un, un, un, un, un, un] [(.double de)]) tz
    refine XS.dstore X0.here hx rfl (hb hby at_50) rfl (l' := #[iv p0, iv p1, iv p2, iv p3, iv p4, dw da, sn, dw db, sn, dw dc, sn, dw de, sn, un, un, un, un, un, un, un, un, un]) rfl ?_
    show sT p e below s₁ (mkF m 52 #[iv p0, iv p1, iv p2, iv p3, iv p4, dw da, sn, dw db, sn, dw dc, sn, dw de, sn, un, un, un, un, un, un, un, un, un] []) tz
    refine XS.iload X0.here hx rfl (hb hby at_52) rfl ?_
    show sT p e below s₁ (mkF m 54 #[iv p0, iv p1, iv p2, iv p3, iv p4, dw da, sn, dw db, sn, dw dc, sn, dw de, sn, un, un, un, un, un, un, un, un, un] [(.int p4)]) tz
    refine XS.bipush X0.here hx rfl (hb hby at_54) ?_
    show sT p e below s₁ (mkF m 56 #[iv p0, iv p1, iv p2, iv p3, iv p4, dw da, sn, dw db, sn, dw dc, sn, dw de, sn, un, un, un, un, un, un, un, un, un] [(.int 7), (.int p4)]) tz
    refine XS.iushr X0.here hx rfl (hb hby at_56) rfl ?_
    show sT p e below s₁ (mkF m 57 #[iv p0, iv p1, iv p2, iv p3, iv p4, dw da, sn, dw db, sn, dw dc, sn, dw de, sn, un, un, un, un, un, un, un, un, un] [(.int ((p4.toUInt32 >>> ((7 : Int32) &&& 31).toUInt32).toInt32))]) tz
    refine XS.iconst X0.here hx rfl (hb hby at_57) ?_
    show sT p e below s₁ (mkF m 58 #[iv p0, iv p1, iv p2, iv p3, iv p4, dw da, sn, dw db, sn, dw dc, sn, dw de, sn, un, un, un, un, un, un, un, un, un] [(.int 3), (.int ((p4.toUInt32 >>> ((7 : Int32) &&& 31).toUInt32).toInt32))]) tz
    refine iremM (g := (mkF m 58 #[iv p0, iv p1, iv p2, iv p3, iv p4, dw da, sn, dw db, sn, dw dc, sn, dw de, sn, un, un, un, un, un, un, un, un, un] [(.int 3), (.int ((p4.toUInt32 >>> ((7 : Int32) &&& 31).toUInt32).toInt32))])) X0 hx rfl (hb hby at_58) rfl (by decide) ?_
    show sT p e below s₁ (mkF m 59 #[iv p0, iv p1, iv p2, iv p3, iv p4, dw da, sn, dw db, sn, dw dc, sn, dw de, sn, un, un, un, un, un, un, un, un, un] [(.int (((p4.toUInt32 >>> ((7 : Int32) &&& 31).toUInt32).toInt32) % (3 : Int32)))]) tz
    refine XS.istore X0.here hx rfl (hb hby at_59) rfl (l' := #[iv p0, iv p1, iv p2, iv p3, iv p4, dw da, sn, dw db, sn, dw dc, sn, dw de, sn, iv (((p4.toUInt32 >>> ((7 : Int32) &&& 31).toUInt32).toInt32) % (3 : Int32)), un, un, un, un, un, un, un, un]) rfl ?_
    exact kz
  generalize hv_jj : (((p4.toUInt32 >>> ((7 : Int32) &&& 31).toUInt32).toInt32) % (3 : Int32)) = jj
  have hjj := own_idx _ _ hv_jj
  clear hv_jj
  refine own_on (B := s₁.setTop (mkF m 66 #[iv p0, iv p1, iv p2, iv p3, iv p4, dw da, sn, dw db, sn, dw dc, sn, dw de, sn, iv jj, un, un, un, un, un, un, un, un] [(.int (p4 &&& (64 : Int32)))])) (fun tz kz => ?_) ?_
  · show sT p e below s₁ (mkF m 61 #[iv p0, iv p1, iv p2, iv p3, iv p4, dw da, sn, dw db, sn, dw dc, sn, dw de, sn, iv jj, un, un, un, un, un, un, un, un] []) tz
    refine XS.iload X0.here hx rfl (hb hby at_61) rfl ?_
    show sT p e below s₁ (mkF m 63 #[iv p0, iv p1, iv p2, iv p3, iv p4, dw da, sn, dw db, sn, dw dc, sn, dw de, sn, iv jj, un, un, un, un, un, un, un, un] [(.int p4)]) tz
    refine XS.bipush X0.here hx rfl (hb hby at_63) ?_
    show sT p e below s₁ (mkF m 65 #[iv p0, iv p1, iv p2, iv p3, iv p4, dw da, sn, dw db, sn, dw dc, sn, dw de, sn, iv jj, un, un, un, un, un, un, un, un] [(.int 64), (.int p4)]) tz
    refine XS.iand X0.here hx rfl (hb hby at_65) rfl ?_
    exact kz
  obtain ⟨mv28, hmv28⟩ : ∃ z, z = (if (p4 &&& (64 : Int32)) = (0 : Int32) then (0 : Int32) else (1 : Int32)) := ⟨_, rfl⟩
  refine own_on (B := s₁.setTop (mkF m 74 #[iv p0, iv p1, iv p2, iv p3, iv p4, dw da, sn, dw db, sn, dw dc, sn, dw de, sn, iv jj, un, un, un, un, un, un, un, un] [(.int mv28)])) (fun tz kz => ?_) ?_
  · show sT p e below s₁ (mkF m 66 #[iv p0, iv p1, iv p2, iv p3, iv p4, dw da, sn, dw db, sn, dw dc, sn, dw de, sn, iv jj, un, un, un, un, un, un, un, un] [(.int (p4 &&& (64 : Int32)))]) tz
    by_cases hm27 : (p4 &&& (64 : Int32)) = (0 : Int32)
    · refine XS.ifYes X0.here hx rfl (pc0 := 66) (pc' := 73) rfl (hb hby at_66) rfl ((if0 _ _).trans (teq hm27).1) (by decide) (by decide) ?_
      show sT p e below s₁ (mkF m 73 #[iv p0, iv p1, iv p2, iv p3, iv p4, dw da, sn, dw db, sn, dw dc, sn, dw de, sn, iv jj, un, un, un, un, un, un, un, un] []) tz
      refine XS.iconst X0.here hx rfl (hb hby at_73) ?_
      show sT p e below s₁ (mkF m 74 #[iv p0, iv p1, iv p2, iv p3, iv p4, dw da, sn, dw db, sn, dw dc, sn, dw de, sn, iv jj, un, un, un, un, un, un, un, un] [(.int 0)]) tz
      rw [if_pos hm27] at hmv28
      rw [hmv28] at kz
      exact kz
    · refine XS.ifNo X0.here hx rfl (hb hby at_66) rfl ((if0 _ _).trans (feq hm27).1) ?_
      show sT p e below s₁ (mkF m 69 #[iv p0, iv p1, iv p2, iv p3, iv p4, dw da, sn, dw db, sn, dw dc, sn, dw de, sn, iv jj, un, un, un, un, un, un, un, un] []) tz
      refine XS.iconst X0.here hx rfl (hb hby at_69) ?_
      show sT p e below s₁ (mkF m 70 #[iv p0, iv p1, iv p2, iv p3, iv p4, dw da, sn, dw db, sn, dw dc, sn, dw de, sn, iv jj, un, un, un, un, un, un, un, un] [(.int 1)]) tz
      refine XS.goto X0.here hx rfl (pc0 := 70) (pc' := 74) rfl (hb hby at_70) (by decide) (by decide) ?_
      show sT p e below s₁ (mkF m 74 #[iv p0, iv p1, iv p2, iv p3, iv p4, dw da, sn, dw db, sn, dw dc, sn, dw de, sn, iv jj, un, un, un, un, un, un, un, un] [(.int 1)]) tz
      rw [if_neg hm27] at hmv28
      rw [hmv28] at kz
      exact kz
  rw [hmv28]
  generalize hv_ds : (if (p4 &&& (64 : Int32)) = (0 : Int32) then (0 : Int32) else (1 : Int32)) = ds
  have hds := own_01 hv_ds
  clear hv_ds
  refine own_on (B := s₁.setTop (mkF m 76 #[iv p0, iv p1, iv p2, iv p3, iv p4, dw da, sn, dw db, sn, dw dc, sn, dw de, sn, iv jj, iv ds, un, un, un, un, un, un, un] [])) (fun tz kz => ?_) ?_
  · show sT p e below s₁ (mkF m 74 #[iv p0, iv p1, iv p2, iv p3, iv p4, dw da, sn, dw db, sn, dw dc, sn, dw de, sn, iv jj, un, un, un, un, un, un, un, un] [(.int ds)]) tz
    refine XS.istore X0.here hx rfl (hb hby at_74) rfl (l' := #[iv p0, iv p1, iv p2, iv p3, iv p4, dw da, sn, dw db, sn, dw dc, sn, dw de, sn, iv jj, iv ds, un, un, un, un, un, un, un]) rfl ?_
    exact kz
  obtain ⟨T29, h29, X29, e29, E29, A29, D29, -, st29⟩ := newO X0 hx hZ hown (own_w hw 0 rfl) (own_w hw 1 rfl) (own_w hw 2 rfl) e0 (g := (mkF m 76 #[iv p0, iv p1, iv p2, iv p3, iv p4, dw da, sn, dw db, sn, dw dc, sn, dw de, sn, iv jj, iv ds, un, un, un, un, un, un, un] [])) rfl (hb hby at_76) (by decide) (by decide)
  obtain ⟨b29, g29⟩ : ∃ z, z = h0.size := ⟨_, rfl⟩
  rw [← g29] at A29 D29 st29
  have g_b29 : n0 ≤ b29 := Nat.le_trans (own_old O0) (Nat.le_of_eq g29.symm)
  have sz_b29 : h0.size ≤ b29 := Nat.le_trans (Keep.refl h0 []).1 (Nat.le_of_eq g29.symm)
  have O30 := O0.ext E29
  have K30 : Keep h0 h29 [] := (Keep.refl h0 []).ext E29
  have F29_distinct : Fld Z h29 b29 "com/example/vows_to_moves/vowstomoves/model/DoubleColumn" "distinct" "Lcom/example/vows_to_moves/vowstomoves/model/LongNumbering;" .null := D29 (Or.inl (own_w hw 53 rfl)) (ty := (.object "com/example/vows_to_moves/vowstomoves/model/LongNumbering")) (by decide)
  have F29_values : Fld Z h29 b29 "com/example/vows_to_moves/vowstomoves/model/DoubleColumn" "values" "[D" .null := D29 (Or.inl (own_w hw 56 rfl)) (ty := (.array .double)) (by decide)
  have F29_codes : Fld Z h29 b29 "com/example/vows_to_moves/vowstomoves/model/DoubleColumn" "codes" "[[C" .null := D29 (Or.inl (own_w hw 60 rfl)) (ty := (.array (.array .char))) (by decide)
  have F29_size : Fld Z h29 b29 "com/example/vows_to_moves/vowstomoves/model/DoubleColumn" "size" "I" (.int (0 : Int32)) := D29 (Or.inl (own_w hw 67 rfl)) (ty := .int) (by decide)
  have F29_plain : Fld Z h29 b29 "com/example/vows_to_moves/vowstomoves/model/DoubleColumn" "plain" "[[D" .null := D29 (Or.inl (own_w hw 69 rfl)) (ty := (.array (.array .double))) (by decide)
  refine own_on (B := T29.setTop (mkF m 79 #[iv p0, iv p1, iv p2, iv p3, iv p4, dw da, sn, dw db, sn, dw dc, sn, dw de, sn, iv jj, iv ds, un, un, un, un, un, un, un] [(.ref b29)])) (fun tz kz => st29 _ kz) ?_
  refine own_on (B := T29.setTop (mkF m 80 #[iv p0, iv p1, iv p2, iv p3, iv p4, dw da, sn, dw db, sn, dw dc, sn, dw de, sn, iv jj, iv ds, un, un, un, un, un, un, un] [(.ref b29), (.ref b29)])) (fun tz kz => ?_) ?_
  · show sT p e below T29 (mkF m 79 #[iv p0, iv p1, iv p2, iv p3, iv p4, dw da, sn, dw db, sn, dw dc, sn, dw de, sn, iv jj, iv ds, un, un, un, un, un, un, un] [(.ref b29)]) tz
    refine XS.dup X29.here hx rfl (hb hby at_79) rfl rfl ?_
    exact kz
  obtain ⟨_, _, ⟨T31, L31, k31, n31⟩, -, X31, ⟨Lc31, hQ31, l31, y31, z31⟩, st31⟩ := X29.specialBack hx (y := (⟨"com/example/vows_to_moves/vowstomoves/model/DoubleColumn", "<init>", "()V"⟩ : MethodName)) rfl hown (mvT hZ (own_w hw 3 rfl)) (mvT hZ (own_w hw 4 rfl)) (mvT hZ (own_w hw 5 rfl)) (by decide) (backOf (W := 1) (rm1 l Z a0 hw [] b29  h29 n0 O30 A29 g_b29 F29_distinct F29_values F29_codes F29_plain F29_size) hZ (own_w hw 5 rfl) (own_w hw 2 rfl) (by decide) (by decide)) (g := (mkF m 80 #[iv p0, iv p1, iv p2, iv p3, iv p4, dw da, sn, dw db, sn, dw dc, sn, dw de, sn, iv jj, iv ds, un, un, un, un, un, un, un] [(.ref b29), (.ref b29)])) rfl (by rw [hml]; rfl) (Steps.refl _) (a := b29) (argsL := []) (rest := [(.ref b29)]) (lenOf own_pd2 rfl) rfl (by show 2 * 0 + _ ≤ _; exact Nat.le_of_eq rfl) (hb hby at_80) (fun _ _ => ⟨rfl, e29, (by decide : 1 + 6 ≤ _), (by decide : 5 + 62 ≤ _)⟩)
  dsimp only [Pt.U, Pt.locs, Pt.cells, Pt.slots] at X31 l31 y31 z31 st31 hQ31
  subst l31 y31 z31
  obtain ⟨ln, lc, ja, sa, va, ca, kj, ks, kv, kc, rfl, Nq31, Kq31, zq31, o1, o2, o3, o4, o5, o6, Fd, Fv, Fo, Fp, Fn, Eln, Fk, Fsl, El, Fc, Fs, Vj, Oa, Vs, Vv, Va, Ob⟩ := hQ31
  have N31 := Fr.app N0 Nq31
  have O32 := O30.keep Kq31 (allS g_b29 all0)
  have K32 : Keep h0 T31.heap [] := K30.trans Kq31 (allS (Or.inr sz_b29) all0)
  refine own_on (B := T31.setTop (mkF m 83 #[iv p0, iv p1, iv p2, iv p3, iv p4, dw da, sn, dw db, sn, dw dc, sn, dw de, sn, iv jj, iv ds, un, un, un, un, un, un, un] [(.ref b29)])) (fun tz kz => st31.trans kz) ?_
  have f_33 := (A29.keep Kq31)
  refine own_on (B := T31.setTop (mkF m 89 #[iv p0, iv p1, iv p2, iv p3, iv p4, dw da, sn, dw db, sn, dw dc, sn, dw de, sn, iv jj, iv ds, rv b29, un, un, un, un, un, un] [(.double da), (.ref b29)])) (fun tz kz => ?_) ?_
  · show sT p e below T31 (mkF m 83 #[iv p0, iv p1, iv p2, iv p3, iv p4, dw da, sn, dw db, sn, dw dc, sn, dw de, sn, iv jj, iv ds, un, un, un, un, un, un, un] [(.ref b29)]) tz
    refine XS.astore X31.here hx rfl (hb hby at_83) rfl rfl (l' := #[iv p0, iv p1, iv p2, iv p3, iv p4, dw da, sn, dw db, sn, dw dc, sn, dw de, sn, iv jj, iv ds, rv b29, un, un, un, un, un, un]) rfl ?_
    show sT p e below T31 (mkF m 85 #[iv p0, iv p1, iv p2, iv p3, iv p4, dw da, sn, dw db, sn, dw dc, sn, dw de, sn, iv jj, iv ds, rv b29, un, un, un, un, un, un] []) tz
    refine XS.aload X31.here hx rfl (hb hby at_85) rfl rfl ?_
    show sT p e below T31 (mkF m 87 #[iv p0, iv p1, iv p2, iv p3, iv p4, dw da, sn, dw db, sn, dw dc, sn, dw de, sn, iv jj, iv ds, rv b29, un, un, un, un, un, un] [(.ref b29)]) tz
    refine XS.dload X31.here hx rfl (hb hby at_87) rfl ?_
    exact kz
  obtain ⟨cq34, kq34, q34a, q34b, q34c⟩ := isOf hZ rfl f_33
  obtain ⟨_, _, ⟨T34, L34, k34, n34⟩, -, X34, ⟨Lc34, hQ34, l34, y34, z34⟩, st34⟩ := X31.virtualBack hx (y := (⟨"com/example/vows_to_moves/vowstomoves/model/DoubleColumn", "add", "(D)V"⟩ : MethodName)) (z := (⟨"com/example/vows_to_moves/vowstomoves/model/DoubleColumn", "add", "(D)V"⟩ : MethodName)) hown (mvT hZ (own_w hw 61 rfl)) (mvT hZ (own_w hw 62 rfl)) (notFace_of_selects (args := #[]) (mvT hZ (own_w hw 64 rfl))) (mvT hZ (own_w hw 64 rfl)) (mvT hZ (own_w hw 63 rfl)) (by decide) (backOf (W := 0) (rm100 l Z a0 hw [] b29 da ln lc ja sa va ca kj ks kv kc T31.heap n0 O32 f_33 Fd Fv Fo Fp Fn Eln Fk Fsl El Fc Fs Vj Vs Vv Va Oa Ob g_b29 ⟨o1, o2, o3, o4, o5, o6⟩) hZ (own_w hw 65 rfl) (own_w hw 2 rfl) (by decide) (by decide)) q34a q34c (g := (mkF m 89 #[iv p0, iv p1, iv p2, iv p3, iv p4, dw da, sn, dw db, sn, dw dc, sn, dw de, sn, iv jj, iv ds, rv b29, un, un, un, un, un, un] [(.double da), (.ref b29)])) rfl (by rw [hml]; rfl) (Steps.refl _) (argsL := [(.double da)]) (rest := []) (lenOf own_pd13 rfl) rfl (by show 2 * 0 + _ ≤ _; exact Nat.le_of_eq rfl) (hb hby at_89) (fun _ _ => ⟨rfl, rfl, (by decide : 7 + 2 ≤ _), (by decide : 67 + 65536 ≤ _)⟩)
  dsimp only [Pt.U, Pt.locs, Pt.cells, Pt.slots] at X34 l34 y34 z34 st34 hQ34
  subst l34 y34 z34
  obtain ⟨rfl, Nq34, Oq34, D34⟩ := hQ34
  have N34 := Fr.app N31 Nq34
  refine own_on (B := T34.setTop (mkF m 92 #[iv p0, iv p1, iv p2, iv p3, iv p4, dw da, sn, dw db, sn, dw dc, sn, dw de, sn, iv jj, iv ds, rv b29, un, un, un, un, un, un] [])) (fun tz kz => st34.trans kz) ?_
  refine own_on (B := T34.setTop (mkF m 96 #[iv p0, iv p1, iv p2, iv p3, iv p4, dw da, sn, dw db, sn, dw dc, sn, dw de, sn, iv jj, iv ds, rv b29, un, un, un, un, un, un] [(.double db), (.ref b29)])) (fun tz kz => ?_) ?_
  · show sT p e below T34 (mkF m 92 #[iv p0, iv p1, iv p2, iv p3, iv p4, dw da, sn, dw db, sn, dw dc, sn, dw de, sn, iv jj, iv ds, rv b29, un, un, un, un, un, un] []) tz
    refine XS.aload X34.here hx rfl (hb hby at_92) rfl rfl ?_
    show sT p e below T34 (mkF m 94 #[iv p0, iv p1, iv p2, iv p3, iv p4, dw da, sn, dw db, sn, dw dc, sn, dw de, sn, iv jj, iv ds, rv b29, un, un, un, un, un, un] [(.ref b29)]) tz
    refine XS.dload X34.here hx rfl (hb hby at_94) rfl ?_
    exact kz
  obtain ⟨cq35, kq35, q35a, q35b, q35c⟩ := isOf hZ rfl D34.exa
  obtain ⟨_, _, ⟨T35, L35, k35, n35⟩, -, X35, ⟨Lc35, hQ35, l35, y35, z35⟩, st35⟩ := X34.virtualBack hx (y := (⟨"com/example/vows_to_moves/vowstomoves/model/DoubleColumn", "add", "(D)V"⟩ : MethodName)) (z := (⟨"com/example/vows_to_moves/vowstomoves/model/DoubleColumn", "add", "(D)V"⟩ : MethodName)) hown (mvT hZ (own_w hw 61 rfl)) (mvT hZ (own_w hw 62 rfl)) (notFace_of_selects (args := #[]) (mvT hZ (own_w hw 64 rfl))) (mvT hZ (own_w hw 64 rfl)) (mvT hZ (own_w hw 63 rfl)) (by decide) (backOf (W := 0) (rm101 l Z a0 hw [] b29 db da da da 1 T34.heap n0 Oq34 D34 (by decide)) hZ (own_w hw 65 rfl) (own_w hw 2 rfl) (by decide) (by decide)) q35a q35c (g := (mkF m 96 #[iv p0, iv p1, iv p2, iv p3, iv p4, dw da, sn, dw db, sn, dw dc, sn, dw de, sn, iv jj, iv ds, rv b29, un, un, un, un, un, un] [(.double db), (.ref b29)])) rfl (by rw [hml]; rfl) (Steps.refl _) (argsL := [(.double db)]) (rest := []) (lenOf own_pd13 rfl) rfl (by show 2 * 0 + _ ≤ _; exact Nat.le_of_eq rfl) (hb hby at_96) (fun _ _ => ⟨rfl, rfl, (by decide : 9 + 0 ≤ _), (by decide : 65603 + 0 ≤ _)⟩)
  dsimp only [Pt.U, Pt.locs, Pt.cells, Pt.slots] at X35 l35 y35 z35 st35 hQ35
  subst l35 y35 z35
  obtain ⟨rfl, Nq35, Oq35, D35⟩ := hQ35
  have N35 := Fr.app N34 Nq35
  refine own_on (B := T35.setTop (mkF m 99 #[iv p0, iv p1, iv p2, iv p3, iv p4, dw da, sn, dw db, sn, dw dc, sn, dw de, sn, iv jj, iv ds, rv b29, un, un, un, un, un, un] [])) (fun tz kz => st35.trans kz) ?_
  refine own_on (B := T35.setTop (mkF m 103 #[iv p0, iv p1, iv p2, iv p3, iv p4, dw da, sn, dw db, sn, dw dc, sn, dw de, sn, iv jj, iv ds, rv b29, un, un, un, un, un, un] [(.double dc), (.ref b29)])) (fun tz kz => ?_) ?_
  · show sT p e below T35 (mkF m 99 #[iv p0, iv p1, iv p2, iv p3, iv p4, dw da, sn, dw db, sn, dw dc, sn, dw de, sn, iv jj, iv ds, rv b29, un, un, un, un, un, un] []) tz
    refine XS.aload X35.here hx rfl (hb hby at_99) rfl rfl ?_
    show sT p e below T35 (mkF m 101 #[iv p0, iv p1, iv p2, iv p3, iv p4, dw da, sn, dw db, sn, dw dc, sn, dw de, sn, iv jj, iv ds, rv b29, un, un, un, un, un, un] [(.ref b29)]) tz
    refine XS.dload X35.here hx rfl (hb hby at_101) rfl ?_
    exact kz
  obtain ⟨cq36, kq36, q36a, q36b, q36c⟩ := isOf hZ rfl D35.exa
  obtain ⟨_, _, ⟨T36, L36, k36, n36⟩, -, X36, ⟨Lc36, hQ36, l36, y36, z36⟩, st36⟩ := X35.virtualBack hx (y := (⟨"com/example/vows_to_moves/vowstomoves/model/DoubleColumn", "add", "(D)V"⟩ : MethodName)) (z := (⟨"com/example/vows_to_moves/vowstomoves/model/DoubleColumn", "add", "(D)V"⟩ : MethodName)) hown (mvT hZ (own_w hw 61 rfl)) (mvT hZ (own_w hw 62 rfl)) (notFace_of_selects (args := #[]) (mvT hZ (own_w hw 64 rfl))) (mvT hZ (own_w hw 64 rfl)) (mvT hZ (own_w hw 63 rfl)) (by decide) (backOf (W := 0) (rm102 l Z a0 hw [] b29 dc da db da (1 + 1) T35.heap n0 Oq35 D35 (by decide)) hZ (own_w hw 65 rfl) (own_w hw 2 rfl) (by decide) (by decide)) q36a q36c (g := (mkF m 103 #[iv p0, iv p1, iv p2, iv p3, iv p4, dw da, sn, dw db, sn, dw dc, sn, dw de, sn, iv jj, iv ds, rv b29, un, un, un, un, un, un] [(.double dc), (.ref b29)])) rfl (by rw [hml]; rfl) (Steps.refl _) (argsL := [(.double dc)]) (rest := []) (lenOf own_pd13 rfl) rfl (by show 2 * 0 + _ ≤ _; exact Nat.le_of_eq rfl) (hb hby at_103) (fun _ _ => ⟨rfl, rfl, (by decide : 9 + 0 ≤ _), (by decide : 65603 + 0 ≤ _)⟩)
  dsimp only [Pt.U, Pt.locs, Pt.cells, Pt.slots] at X36 l36 y36 z36 st36 hQ36
  subst l36 y36 z36
  obtain ⟨rfl, Nq36, Oq36, D36⟩ := hQ36
  have N36 := Fr.app N35 Nq36
  refine own_on (B := T36.setTop (mkF m 106 #[iv p0, iv p1, iv p2, iv p3, iv p4, dw da, sn, dw db, sn, dw dc, sn, dw de, sn, iv jj, iv ds, rv b29, un, un, un, un, un, un] [])) (fun tz kz => st36.trans kz) ?_
  rcases hds with rfl | rfl
  · refine own_on (B := T36.setTop (mkF m 181 #[iv p0, iv p1, iv p2, iv p3, iv p4, dw da, sn, dw db, sn, dw dc, sn, dw de, sn, iv jj, iv 0, rv b29, dw da, sn, dw db, sn, dw dc, sn] [(.ref b29)])) (fun tz kz => ?_) ?_
    · show sT p e below T36 (mkF m 106 #[iv p0, iv p1, iv p2, iv p3, iv p4, dw da, sn, dw db, sn, dw dc, sn, dw de, sn, iv jj, iv 0, rv b29, un, un, un, un, un, un] []) tz
      refine XS.iload X36.here hx rfl (hb hby at_106) rfl ?_
      show sT p e below T36 (mkF m 108 #[iv p0, iv p1, iv p2, iv p3, iv p4, dw da, sn, dw db, sn, dw dc, sn, dw de, sn, iv jj, iv 0, rv b29, un, un, un, un, un, un] [(.int 0)]) tz
      refine XS.ifYes X36.here hx rfl (pc0 := 108) (pc' := 120) rfl (hb hby at_108) rfl ((if0 _ _).trans (teq rfl).1) (by decide) (by decide) ?_
      show sT p e below T36 (mkF m 120 #[iv p0, iv p1, iv p2, iv p3, iv p4, dw da, sn, dw db, sn, dw dc, sn, dw de, sn, iv jj, iv 0, rv b29, un, un, un, un, un, un] []) tz
      refine XS.iload X36.here hx rfl (hb hby at_120) rfl ?_
      show sT p e below T36 (mkF m 122 #[iv p0, iv p1, iv p2, iv p3, iv p4, dw da, sn, dw db, sn, dw dc, sn, dw de, sn, iv jj, iv 0, rv b29, un, un, un, un, un, un] [(.int 0)]) tz
      refine XS.ifYes X36.here hx rfl (pc0 := 122) (pc' := 135) rfl (hb hby at_122) rfl ((if0 _ _).trans (teq rfl).1) (by decide) (by decide) ?_
      show sT p e below T36 (mkF m 135 #[iv p0, iv p1, iv p2, iv p3, iv p4, dw da, sn, dw db, sn, dw dc, sn, dw de, sn, iv jj, iv 0, rv b29, un, un, un, un, un, un] []) tz
      refine XS.dload X36.here hx rfl (hb hby at_135) rfl ?_
      show sT p e below T36 (mkF m 137 #[iv p0, iv p1, iv p2, iv p3, iv p4, dw da, sn, dw db, sn, dw dc, sn, dw de, sn, iv jj, iv 0, rv b29, un, un, un, un, un, un] [(.double da)]) tz
      refine XS.dstore X36.here hx rfl (hb hby at_137) rfl (l' := #[iv p0, iv p1, iv p2, iv p3, iv p4, dw da, sn, dw db, sn, dw dc, sn, dw de, sn, iv jj, iv 0, rv b29, dw da, sn, un, un, un, un]) rfl ?_
      show sT p e below T36 (mkF m 139 #[iv p0, iv p1, iv p2, iv p3, iv p4, dw da, sn, dw db, sn, dw dc, sn, dw de, sn, iv jj, iv 0, rv b29, dw da, sn, un, un, un, un] []) tz
      refine XS.iload X36.here hx rfl (hb hby at_139) rfl ?_
      show sT p e below T36 (mkF m 141 #[iv p0, iv p1, iv p2, iv p3, iv p4, dw da, sn, dw db, sn, dw dc, sn, dw de, sn, iv jj, iv 0, rv b29, dw da, sn, un, un, un, un] [(.int 0)]) tz
      refine XS.ifYes X36.here hx rfl (pc0 := 141) (pc' := 155) rfl (hb hby at_141) rfl ((if0 _ _).trans (teq rfl).1) (by decide) (by decide) ?_
      show sT p e below T36 (mkF m 155 #[iv p0, iv p1, iv p2, iv p3, iv p4, dw da, sn, dw db, sn, dw dc, sn, dw de, sn, iv jj, iv 0, rv b29, dw da, sn, un, un, un, un] []) tz
      refine XS.dload X36.here hx rfl (hb hby at_155) rfl ?_
      show sT p e below T36 (mkF m 157 #[iv p0, iv p1, iv p2, iv p3, iv p4, dw da, sn, dw db, sn, dw dc, sn, dw de, sn, iv jj, iv 0, rv b29, dw da, sn, un, un, un, un] [(.double db)]) tz
      refine XS.dstore X36.here hx rfl (hb hby at_157) rfl (l' := #[iv p0, iv p1, iv p2, iv p3, iv p4, dw da, sn, dw db, sn, dw dc, sn, dw de, sn, iv jj, iv 0, rv b29, dw da, sn, dw db, sn, un, un]) rfl ?_
      show sT p e below T36 (mkF m 159 #[iv p0, iv p1, iv p2, iv p3, iv p4, dw da, sn, dw db, sn, dw dc, sn, dw de, sn, iv jj, iv 0, rv b29, dw da, sn, dw db, sn, un, un] []) tz
      refine XS.iload X36.here hx rfl (hb hby at_159) rfl ?_
      show sT p e below T36 (mkF m 161 #[iv p0, iv p1, iv p2, iv p3, iv p4, dw da, sn, dw db, sn, dw dc, sn, dw de, sn, iv jj, iv 0, rv b29, dw da, sn, dw db, sn, un, un] [(.int 0)]) tz
      refine XS.ifYes X36.here hx rfl (pc0 := 161) (pc' := 175) rfl (hb hby at_161) rfl ((if0 _ _).trans (teq rfl).1) (by decide) (by decide) ?_
      show sT p e below T36 (mkF m 175 #[iv p0, iv p1, iv p2, iv p3, iv p4, dw da, sn, dw db, sn, dw dc, sn, dw de, sn, iv jj, iv 0, rv b29, dw da, sn, dw db, sn, un, un] []) tz
      refine XS.dload X36.here hx rfl (hb hby at_175) rfl ?_
      show sT p e below T36 (mkF m 177 #[iv p0, iv p1, iv p2, iv p3, iv p4, dw da, sn, dw db, sn, dw dc, sn, dw de, sn, iv jj, iv 0, rv b29, dw da, sn, dw db, sn, un, un] [(.double dc)]) tz
      refine XS.dstore X36.here hx rfl (hb hby at_177) rfl (l' := #[iv p0, iv p1, iv p2, iv p3, iv p4, dw da, sn, dw db, sn, dw dc, sn, dw de, sn, iv jj, iv 0, rv b29, dw da, sn, dw db, sn, dw dc, sn]) rfl ?_
      show sT p e below T36 (mkF m 179 #[iv p0, iv p1, iv p2, iv p3, iv p4, dw da, sn, dw db, sn, dw dc, sn, dw de, sn, iv jj, iv 0, rv b29, dw da, sn, dw db, sn, dw dc, sn] []) tz
      refine XS.aload X36.here hx rfl (hb hby at_179) rfl rfl ?_
      exact kz
    obtain ⟨cq37, kq37, q37a, q37b, q37c⟩ := isOf hZ rfl D36.exa
    obtain ⟨_, _, ⟨T37, L37, k37, n37⟩, -, X37, ⟨Lc37, hQ37, l37, y37, z37⟩, st37⟩ := X36.virtualBack hx (y := (⟨"com/example/vows_to_moves/vowstomoves/model/DoubleColumn", "size", "()I"⟩ : MethodName)) (z := (⟨"com/example/vows_to_moves/vowstomoves/model/DoubleColumn", "size", "()I"⟩ : MethodName)) hown (mvT hZ (own_w hw 126 rfl)) (mvT hZ (own_w hw 127 rfl)) (notFace_of_selects (args := #[]) (mvT hZ (own_w hw 129 rfl))) (mvT hZ (own_w hw 129 rfl)) (mvT hZ (own_w hw 128 rfl)) (by decide) (backOf (W := 0) (rm20 l Z a0 hw [] b29 (3 : Int32) T36.heap n0 Oq36 D36.len) hZ (own_w hw 130 rfl) (own_w hw 2 rfl) (by decide) (by decide)) q37a q37c (g := (mkF m 181 #[iv p0, iv p1, iv p2, iv p3, iv p4, dw da, sn, dw db, sn, dw dc, sn, dw de, sn, iv jj, iv 0, rv b29, dw da, sn, dw db, sn, dw dc, sn] [(.ref b29)])) rfl (by rw [hml]; rfl) (Steps.refl _) (argsL := []) (rest := []) (lenOf own_pd6 rfl) rfl (by show 2 * 0 + _ ≤ _; exact Nat.le_of_eq rfl) (hb hby at_181) (fun _ _ => ⟨rfl, rfl, (by decide : 9 + 0 ≤ _), (by decide : 65603 + 0 ≤ _)⟩)
    dsimp only [Pt.U, Pt.locs, Pt.cells, Pt.slots] at X37 l37 y37 z37 st37 hQ37
    subst l37 y37 z37
    obtain ⟨rfl, Nq37, e37⟩ := hQ37
    have N37 := Fr.app N36 Nq37
    refine own_on (B := T37.setTop (mkF m 184 #[iv p0, iv p1, iv p2, iv p3, iv p4, dw da, sn, dw db, sn, dw dc, sn, dw de, sn, iv jj, iv 0, rv b29, dw da, sn, dw db, sn, dw dc, sn] [(.int 3)])) (fun tz kz => st37.trans kz) ?_
    refine own_on (B := T37.setTop (mkF m 191 #[iv p0, iv p1, iv p2, iv p3, iv p4, dw da, sn, dw db, sn, dw dc, sn, dw de, sn, iv jj, iv 0, rv b29, dw da, sn, dw db, sn, dw dc, sn] [(.int 0), (.ref b29)])) (fun tz kz => ?_) ?_
    · show sT p e below T37 (mkF m 184 #[iv p0, iv p1, iv p2, iv p3, iv p4, dw da, sn, dw db, sn, dw dc, sn, dw de, sn, iv jj, iv 0, rv b29, dw da, sn, dw db, sn, dw dc, sn] [(.int 3)]) tz
      refine XS.iconst X37.here hx rfl (hb hby at_184) ?_
      show sT p e below T37 (mkF m 185 #[iv p0, iv p1, iv p2, iv p3, iv p4, dw da, sn, dw db, sn, dw dc, sn, dw de, sn, iv jj, iv 0, rv b29, dw da, sn, dw db, sn, dw dc, sn] [(.int 3), (.int 3)]) tz
      refine XS.icmpNo X37.here hx rfl (hb hby at_185) rfl (teq rfl).2 ?_
      show sT p e below T37 (mkF m 188 #[iv p0, iv p1, iv p2, iv p3, iv p4, dw da, sn, dw db, sn, dw dc, sn, dw de, sn, iv jj, iv 0, rv b29, dw da, sn, dw db, sn, dw dc, sn] []) tz
      refine XS.aload X37.here hx rfl (hb hby at_188) rfl rfl ?_
      show sT p e below T37 (mkF m 190 #[iv p0, iv p1, iv p2, iv p3, iv p4, dw da, sn, dw db, sn, dw dc, sn, dw de, sn, iv jj, iv 0, rv b29, dw da, sn, dw db, sn, dw dc, sn] [(.ref b29)]) tz
      refine XS.iconst X37.here hx rfl (hb hby at_190) ?_
      exact kz
    obtain ⟨cq38, kq38, q38a, q38b, q38c⟩ := isOf hZ e37 D36.exa
    obtain ⟨_, _, ⟨T38, L38, k38, n38⟩, -, X38, ⟨Lc38, hQ38, l38, y38, z38⟩, st38⟩ := X37.virtualBack hx (y := (⟨"com/example/vows_to_moves/vowstomoves/model/DoubleColumn", "get", "(I)D"⟩ : MethodName)) (z := (⟨"com/example/vows_to_moves/vowstomoves/model/DoubleColumn", "get", "(I)D"⟩ : MethodName)) hown (mvT hZ (own_w hw 131 rfl)) (mvT hZ (own_w hw 132 rfl)) (notFace_of_selects (args := #[]) (mvT hZ (own_w hw 134 rfl))) (mvT hZ (own_w hw 134 rfl)) (mvT hZ (own_w hw 133 rfl)) (by decide) (backOf (W := 0) (rm210 l Z a0 hw [] b29 (3 : Int32) da db dc (1 + 1 + 1) T36.heap n0 Oq36 D36 (by decide)) hZ (own_w hw 135 rfl) (own_w hw 2 rfl) (by decide) (by decide)) q38a q38c (g := (mkF m 191 #[iv p0, iv p1, iv p2, iv p3, iv p4, dw da, sn, dw db, sn, dw dc, sn, dw de, sn, iv jj, iv 0, rv b29, dw da, sn, dw db, sn, dw dc, sn] [(.int 0), (.ref b29)])) rfl (by rw [hml]; rfl) (Steps.refl _) (argsL := [(.int (0 : Int32))]) (rest := []) (lenOf own_pd14 rfl) rfl (by show 2 * 0 + _ ≤ _; exact Nat.le_of_eq rfl) (hb hby at_191) (fun _ _ => ⟨rfl, e37, (by decide : 9 + 0 ≤ _), (by decide : 65603 + 0 ≤ _)⟩)
    dsimp only [Pt.U, Pt.locs, Pt.cells, Pt.slots] at X38 l38 y38 z38 st38 hQ38
    subst l38 y38 z38
    obtain ⟨rfl, Nq38, e38⟩ := hQ38
    have N38 := Fr.app N37 Nq38
    refine own_on (B := T38.setTop (mkF m 194 #[iv p0, iv p1, iv p2, iv p3, iv p4, dw da, sn, dw db, sn, dw dc, sn, dw de, sn, iv jj, iv 0, rv b29, dw da, sn, dw db, sn, dw dc, sn] [(.double da)])) (fun tz kz => st38.trans kz) ?_
    refine own_on (B := T38.setTop (mkF m 203 #[iv p0, iv p1, iv p2, iv p3, iv p4, dw da, sn, dw db, sn, dw dc, sn, dw de, sn, iv jj, iv 0, rv b29, dw da, sn, dw db, sn, dw dc, sn] [(.int 1), (.ref b29)])) (fun tz kz => ?_) ?_
    · show sT p e below T38 (mkF m 194 #[iv p0, iv p1, iv p2, iv p3, iv p4, dw da, sn, dw db, sn, dw dc, sn, dw de, sn, iv jj, iv 0, rv b29, dw da, sn, dw db, sn, dw dc, sn] [(.double da)]) tz
      refine XS.dload X38.here hx rfl (hb hby at_194) rfl ?_
      show sT p e below T38 (mkF m 196 #[iv p0, iv p1, iv p2, iv p3, iv p4, dw da, sn, dw db, sn, dw dc, sn, dw de, sn, iv jj, iv 0, rv b29, dw da, sn, dw db, sn, dw dc, sn] [(.double da), (.double da)]) tz
      refine XS.dcmpS X38.here hx rfl (hb hby at_196) rfl (v := (cmpValue (FP.dcmp da da) .l)) rfl ?_
      show sT p e below T38 (mkF m 197 #[iv p0, iv p1, iv p2, iv p3, iv p4, dw da, sn, dw db, sn, dw dc, sn, dw de, sn, iv jj, iv 0, rv b29, dw da, sn, dw db, sn, dw dc, sn] [(.int (cmpValue (FP.dcmp da da) .l))]) tz
      refine XS.ifNo X38.here hx rfl (hb hby at_197) rfl ((if0 _ _).trans (teq (dcmpV_self nn_da .l)).2) ?_
      show sT p e below T38 (mkF m 200 #[iv p0, iv p1, iv p2, iv p3, iv p4, dw da, sn, dw db, sn, dw dc, sn, dw de, sn, iv jj, iv 0, rv b29, dw da, sn, dw db, sn, dw dc, sn] []) tz
      refine XS.aload X38.here hx rfl (hb hby at_200) rfl rfl ?_
      show sT p e below T38 (mkF m 202 #[iv p0, iv p1, iv p2, iv p3, iv p4, dw da, sn, dw db, sn, dw dc, sn, dw de, sn, iv jj, iv 0, rv b29, dw da, sn, dw db, sn, dw dc, sn] [(.ref b29)]) tz
      refine XS.iconst X38.here hx rfl (hb hby at_202) ?_
      exact kz
    obtain ⟨cq39, kq39, q39a, q39b, q39c⟩ := isOf hZ e38 D36.exa
    obtain ⟨_, _, ⟨T39, L39, k39, n39⟩, -, X39, ⟨Lc39, hQ39, l39, y39, z39⟩, st39⟩ := X38.virtualBack hx (y := (⟨"com/example/vows_to_moves/vowstomoves/model/DoubleColumn", "get", "(I)D"⟩ : MethodName)) (z := (⟨"com/example/vows_to_moves/vowstomoves/model/DoubleColumn", "get", "(I)D"⟩ : MethodName)) hown (mvT hZ (own_w hw 131 rfl)) (mvT hZ (own_w hw 132 rfl)) (notFace_of_selects (args := #[]) (mvT hZ (own_w hw 134 rfl))) (mvT hZ (own_w hw 134 rfl)) (mvT hZ (own_w hw 133 rfl)) (by decide) (backOf (W := 0) (rm211 l Z a0 hw [] b29 (3 : Int32) da db dc (1 + 1 + 1) T36.heap n0 Oq36 D36 (by decide)) hZ (own_w hw 135 rfl) (own_w hw 2 rfl) (by decide) (by decide)) q39a q39c (g := (mkF m 203 #[iv p0, iv p1, iv p2, iv p3, iv p4, dw da, sn, dw db, sn, dw dc, sn, dw de, sn, iv jj, iv 0, rv b29, dw da, sn, dw db, sn, dw dc, sn] [(.int 1), (.ref b29)])) rfl (by rw [hml]; rfl) (Steps.refl _) (argsL := [(.int (1 : Int32))]) (rest := []) (lenOf own_pd14 rfl) rfl (by show 2 * 0 + _ ≤ _; exact Nat.le_of_eq rfl) (hb hby at_203) (fun _ _ => ⟨rfl, e38, (by decide : 9 + 0 ≤ _), (by decide : 65603 + 0 ≤ _)⟩)
    dsimp only [Pt.U, Pt.locs, Pt.cells, Pt.slots] at X39 l39 y39 z39 st39 hQ39
    subst l39 y39 z39
    obtain ⟨rfl, Nq39, e39⟩ := hQ39
    have N39 := Fr.app N38 Nq39
    refine own_on (B := T39.setTop (mkF m 206 #[iv p0, iv p1, iv p2, iv p3, iv p4, dw da, sn, dw db, sn, dw dc, sn, dw de, sn, iv jj, iv 0, rv b29, dw da, sn, dw db, sn, dw dc, sn] [(.double db)])) (fun tz kz => st39.trans kz) ?_
    refine own_on (B := T39.setTop (mkF m 215 #[iv p0, iv p1, iv p2, iv p3, iv p4, dw da, sn, dw db, sn, dw dc, sn, dw de, sn, iv jj, iv 0, rv b29, dw da, sn, dw db, sn, dw dc, sn] [(.int 2), (.ref b29)])) (fun tz kz => ?_) ?_
    · show sT p e below T39 (mkF m 206 #[iv p0, iv p1, iv p2, iv p3, iv p4, dw da, sn, dw db, sn, dw dc, sn, dw de, sn, iv jj, iv 0, rv b29, dw da, sn, dw db, sn, dw dc, sn] [(.double db)]) tz
      refine XS.dload X39.here hx rfl (hb hby at_206) rfl ?_
      show sT p e below T39 (mkF m 208 #[iv p0, iv p1, iv p2, iv p3, iv p4, dw da, sn, dw db, sn, dw dc, sn, dw de, sn, iv jj, iv 0, rv b29, dw da, sn, dw db, sn, dw dc, sn] [(.double db), (.double db)]) tz
      refine XS.dcmpS X39.here hx rfl (hb hby at_208) rfl (v := (cmpValue (FP.dcmp db db) .l)) rfl ?_
      show sT p e below T39 (mkF m 209 #[iv p0, iv p1, iv p2, iv p3, iv p4, dw da, sn, dw db, sn, dw dc, sn, dw de, sn, iv jj, iv 0, rv b29, dw da, sn, dw db, sn, dw dc, sn] [(.int (cmpValue (FP.dcmp db db) .l))]) tz
      refine XS.ifNo X39.here hx rfl (hb hby at_209) rfl ((if0 _ _).trans (teq (dcmpV_self nn_db .l)).2) ?_
      show sT p e below T39 (mkF m 212 #[iv p0, iv p1, iv p2, iv p3, iv p4, dw da, sn, dw db, sn, dw dc, sn, dw de, sn, iv jj, iv 0, rv b29, dw da, sn, dw db, sn, dw dc, sn] []) tz
      refine XS.aload X39.here hx rfl (hb hby at_212) rfl rfl ?_
      show sT p e below T39 (mkF m 214 #[iv p0, iv p1, iv p2, iv p3, iv p4, dw da, sn, dw db, sn, dw dc, sn, dw de, sn, iv jj, iv 0, rv b29, dw da, sn, dw db, sn, dw dc, sn] [(.ref b29)]) tz
      refine XS.iconst X39.here hx rfl (hb hby at_214) ?_
      exact kz
    obtain ⟨cq40, kq40, q40a, q40b, q40c⟩ := isOf hZ e39 D36.exa
    obtain ⟨_, _, ⟨T40, L40, k40, n40⟩, -, X40, ⟨Lc40, hQ40, l40, y40, z40⟩, st40⟩ := X39.virtualBack hx (y := (⟨"com/example/vows_to_moves/vowstomoves/model/DoubleColumn", "get", "(I)D"⟩ : MethodName)) (z := (⟨"com/example/vows_to_moves/vowstomoves/model/DoubleColumn", "get", "(I)D"⟩ : MethodName)) hown (mvT hZ (own_w hw 131 rfl)) (mvT hZ (own_w hw 132 rfl)) (notFace_of_selects (args := #[]) (mvT hZ (own_w hw 134 rfl))) (mvT hZ (own_w hw 134 rfl)) (mvT hZ (own_w hw 133 rfl)) (by decide) (backOf (W := 0) (rm212 l Z a0 hw [] b29 (3 : Int32) da db dc (1 + 1 + 1) T36.heap n0 Oq36 D36 (by decide)) hZ (own_w hw 135 rfl) (own_w hw 2 rfl) (by decide) (by decide)) q40a q40c (g := (mkF m 215 #[iv p0, iv p1, iv p2, iv p3, iv p4, dw da, sn, dw db, sn, dw dc, sn, dw de, sn, iv jj, iv 0, rv b29, dw da, sn, dw db, sn, dw dc, sn] [(.int 2), (.ref b29)])) rfl (by rw [hml]; rfl) (Steps.refl _) (argsL := [(.int (2 : Int32))]) (rest := []) (lenOf own_pd14 rfl) rfl (by show 2 * 0 + _ ≤ _; exact Nat.le_of_eq rfl) (hb hby at_215) (fun _ _ => ⟨rfl, e39, (by decide : 9 + 0 ≤ _), (by decide : 65603 + 0 ≤ _)⟩)
    dsimp only [Pt.U, Pt.locs, Pt.cells, Pt.slots] at X40 l40 y40 z40 st40 hQ40
    subst l40 y40 z40
    obtain ⟨rfl, Nq40, e40⟩ := hQ40
    have N40 := Fr.app N39 Nq40
    refine own_on (B := T40.setTop (mkF m 218 #[iv p0, iv p1, iv p2, iv p3, iv p4, dw da, sn, dw db, sn, dw dc, sn, dw de, sn, iv jj, iv 0, rv b29, dw da, sn, dw db, sn, dw dc, sn] [(.double dc)])) (fun tz kz => st40.trans kz) ?_
    refine own_on (B := T40.setTop (mkF m 229 #[iv p0, iv p1, iv p2, iv p3, iv p4, dw da, sn, dw db, sn, dw dc, sn, dw de, sn, iv jj, iv 0, rv b29, dw da, sn, dw db, sn, dw dc, sn] [(.int 1)])) (fun tz kz => ?_) ?_
    · show sT p e below T40 (mkF m 218 #[iv p0, iv p1, iv p2, iv p3, iv p4, dw da, sn, dw db, sn, dw dc, sn, dw de, sn, iv jj, iv 0, rv b29, dw da, sn, dw db, sn, dw dc, sn] [(.double dc)]) tz
      refine XS.dload X40.here hx rfl (hb hby at_218) rfl ?_
      show sT p e below T40 (mkF m 220 #[iv p0, iv p1, iv p2, iv p3, iv p4, dw da, sn, dw db, sn, dw dc, sn, dw de, sn, iv jj, iv 0, rv b29, dw da, sn, dw db, sn, dw dc, sn] [(.double dc), (.double dc)]) tz
      refine XS.dcmpS X40.here hx rfl (hb hby at_220) rfl (v := (cmpValue (FP.dcmp dc dc) .l)) rfl ?_
      show sT p e below T40 (mkF m 221 #[iv p0, iv p1, iv p2, iv p3, iv p4, dw da, sn, dw db, sn, dw dc, sn, dw de, sn, iv jj, iv 0, rv b29, dw da, sn, dw db, sn, dw dc, sn] [(.int (cmpValue (FP.dcmp dc dc) .l))]) tz
      refine XS.ifNo X40.here hx rfl (hb hby at_221) rfl ((if0 _ _).trans (teq (dcmpV_self nn_dc .l)).2) ?_
      show sT p e below T40 (mkF m 224 #[iv p0, iv p1, iv p2, iv p3, iv p4, dw da, sn, dw db, sn, dw dc, sn, dw de, sn, iv jj, iv 0, rv b29, dw da, sn, dw db, sn, dw dc, sn] []) tz
      refine XS.iconst X40.here hx rfl (hb hby at_224) ?_
      show sT p e below T40 (mkF m 225 #[iv p0, iv p1, iv p2, iv p3, iv p4, dw da, sn, dw db, sn, dw dc, sn, dw de, sn, iv jj, iv 0, rv b29, dw da, sn, dw db, sn, dw dc, sn] [(.int 1)]) tz
      refine XS.goto X40.here hx rfl (pc0 := 225) (pc' := 229) rfl (hb hby at_225) (by decide) (by decide) ?_
      exact kz
    obtain ⟨fs, hr, hrun, hended, hW, hsame⟩ := X40.leave (v := some (.int (1 : Int32))) (fun h => by rw [Bd.returns] at h; cases h)
    refine own_of ⟨_, _, ?_, hrun, hended, _, _, rfl, ?_, ⟨_, rfl⟩, hW, hsame.mono (by decide) (by decide)⟩
    · show sT p e below T40 (mkF m 229 #[iv p0, iv p1, iv p2, iv p3, iv p4, dw da, sn, dw db, sn, dw dc, sn, dw de, sn, iv jj, iv 0, rv b29, dw da, sn, dw db, sn, dw dc, sn] [(.int 1)]) _
      exact own_retN X40 hx (t := .boolean) Bd.returns (by simp) (by first | rfl | (split <;> first | rfl | (split <;> first | rfl | (split <;> rfl)))) (hb hby at_229) hr
    · show Q0 Z p0 p1 p2 p3 p4 h0 n0 _ T40.heap _
      rw [e40]
      exact ⟨rfl, N40⟩
  · rcases hjj with rfl | rfl | rfl
    · refine own_on (B := T36.setTop (mkF m 117 #[iv p0, iv p1, iv p2, iv p3, iv p4, dw da, sn, dw db, sn, dw dc, sn, dw de, sn, iv 0, iv 1, rv b29, un, un, un, un, un, un] [(.double de), (.int 0), (.ref b29)])) (fun tz kz => ?_) ?_
      · show sT p e below T36 (mkF m 106 #[iv p0, iv p1, iv p2, iv p3, iv p4, dw da, sn, dw db, sn, dw dc, sn, dw de, sn, iv 0, iv 1, rv b29, un, un, un, un, un, un] []) tz
        refine XS.iload X36.here hx rfl (hb hby at_106) rfl ?_
        show sT p e below T36 (mkF m 108 #[iv p0, iv p1, iv p2, iv p3, iv p4, dw da, sn, dw db, sn, dw dc, sn, dw de, sn, iv 0, iv 1, rv b29, un, un, un, un, un, un] [(.int 1)]) tz
        refine XS.ifNo X36.here hx rfl (hb hby at_108) rfl ((if0 _ _).trans (feq (by decide : ¬ ((1 : Int32) = (0 : Int32)))).1) ?_
        show sT p e below T36 (mkF m 111 #[iv p0, iv p1, iv p2, iv p3, iv p4, dw da, sn, dw db, sn, dw dc, sn, dw de, sn, iv 0, iv 1, rv b29, un, un, un, un, un, un] []) tz
        refine XS.aload X36.here hx rfl (hb hby at_111) rfl rfl ?_
        show sT p e below T36 (mkF m 113 #[iv p0, iv p1, iv p2, iv p3, iv p4, dw da, sn, dw db, sn, dw dc, sn, dw de, sn, iv 0, iv 1, rv b29, un, un, un, un, un, un] [(.ref b29)]) tz
        refine XS.iload X36.here hx rfl (hb hby at_113) rfl ?_
        show sT p e below T36 (mkF m 115 #[iv p0, iv p1, iv p2, iv p3, iv p4, dw da, sn, dw db, sn, dw dc, sn, dw de, sn, iv 0, iv 1, rv b29, un, un, un, un, un, un] [(.int 0), (.ref b29)]) tz
        refine XS.dload X36.here hx rfl (hb hby at_115) rfl ?_
        exact kz
      obtain ⟨cq41, kq41, q41a, q41b, q41c⟩ := isOf hZ rfl D36.exa
      obtain ⟨_, _, ⟨T41, L41, k41, n41⟩, -, X41, ⟨Lc41, hQ41, l41, y41, z41⟩, st41⟩ := X36.virtualBack hx (y := (⟨"com/example/vows_to_moves/vowstomoves/model/DoubleColumn", "set", "(ID)V"⟩ : MethodName)) (z := (⟨"com/example/vows_to_moves/vowstomoves/model/DoubleColumn", "set", "(ID)V"⟩ : MethodName)) hown (mvT hZ (own_w hw 141 rfl)) (mvT hZ (own_w hw 74 rfl)) (notFace_of_selects (args := #[]) (mvT hZ (own_w hw 76 rfl))) (mvT hZ (own_w hw 76 rfl)) (mvT hZ (own_w hw 75 rfl)) (by decide) (backOf (W := 0) (rm110 l Z a0 hw [] b29 de (3 : Int32) da db dc (1 + 1 + 1) T36.heap n0 Oq36 D36 (by decide)) hZ (own_w hw 77 rfl) (own_w hw 2 rfl) (by decide) (by decide)) q41a q41c (g := (mkF m 117 #[iv p0, iv p1, iv p2, iv p3, iv p4, dw da, sn, dw db, sn, dw dc, sn, dw de, sn, iv 0, iv 1, rv b29, un, un, un, un, un, un] [(.double de), (.int 0), (.ref b29)])) rfl (by rw [hml]; rfl) (Steps.refl _) (argsL := [(.int (0 : Int32)), (.double de)]) (rest := []) (lenOf own_pd12 rfl) rfl (by show 2 * 0 + _ ≤ _; exact Nat.le_of_eq rfl) (hb hby at_117) (fun _ _ => ⟨rfl, rfl, (by decide : 9 + 0 ≤ _), (by decide : 65603 + 0 ≤ _)⟩)
      dsimp only [Pt.U, Pt.locs, Pt.cells, Pt.slots] at X41 l41 y41 z41 st41 hQ41
      subst l41 y41 z41
      obtain ⟨rfl, Nq41, Oq41, D41⟩ := hQ41
      have N41 := Fr.app N36 Nq41
      refine own_on (B := T41.setTop (mkF m 120 #[iv p0, iv p1, iv p2, iv p3, iv p4, dw da, sn, dw db, sn, dw dc, sn, dw de, sn, iv 0, iv 1, rv b29, un, un, un, un, un, un] [])) (fun tz kz => st41.trans kz) ?_
      refine own_on (B := T41.setTop (mkF m 181 #[iv p0, iv p1, iv p2, iv p3, iv p4, dw da, sn, dw db, sn, dw dc, sn, dw de, sn, iv 0, iv 1, rv b29, dw de, sn, dw db, sn, dw dc, sn] [(.ref b29)])) (fun tz kz => ?_) ?_
      · show sT p e below T41 (mkF m 120 #[iv p0, iv p1, iv p2, iv p3, iv p4, dw da, sn, dw db, sn, dw dc, sn, dw de, sn, iv 0, iv 1, rv b29, un, un, un, un, un, un] []) tz
        refine XS.iload X41.here hx rfl (hb hby at_120) rfl ?_
        show sT p e below T41 (mkF m 122 #[iv p0, iv p1, iv p2, iv p3, iv p4, dw da, sn, dw db, sn, dw dc, sn, dw de, sn, iv 0, iv 1, rv b29, un, un, un, un, un, un] [(.int 1)]) tz
        refine XS.ifNo X41.here hx rfl (hb hby at_122) rfl ((if0 _ _).trans (feq (by decide : ¬ ((1 : Int32) = (0 : Int32)))).1) ?_
        show sT p e below T41 (mkF m 125 #[iv p0, iv p1, iv p2, iv p3, iv p4, dw da, sn, dw db, sn, dw dc, sn, dw de, sn, iv 0, iv 1, rv b29, un, un, un, un, un, un] []) tz
        refine XS.iload X41.here hx rfl (hb hby at_125) rfl ?_
        show sT p e below T41 (mkF m 127 #[iv p0, iv p1, iv p2, iv p3, iv p4, dw da, sn, dw db, sn, dw dc, sn, dw de, sn, iv 0, iv 1, rv b29, un, un, un, un, un, un] [(.int 0)]) tz
        refine XS.ifNo X41.here hx rfl (hb hby at_127) rfl ((if0 _ _).trans (teq rfl).2) ?_
        show sT p e below T41 (mkF m 130 #[iv p0, iv p1, iv p2, iv p3, iv p4, dw da, sn, dw db, sn, dw dc, sn, dw de, sn, iv 0, iv 1, rv b29, un, un, un, un, un, un] []) tz
        refine XS.dload X41.here hx rfl (hb hby at_130) rfl ?_
        show sT p e below T41 (mkF m 132 #[iv p0, iv p1, iv p2, iv p3, iv p4, dw da, sn, dw db, sn, dw dc, sn, dw de, sn, iv 0, iv 1, rv b29, un, un, un, un, un, un] [(.double de)]) tz
        refine XS.goto X41.here hx rfl (pc0 := 132) (pc' := 137) rfl (hb hby at_132) (by decide) (by decide) ?_
        show sT p e below T41 (mkF m 137 #[iv p0, iv p1, iv p2, iv p3, iv p4, dw da, sn, dw db, sn, dw dc, sn, dw de, sn, iv 0, iv 1, rv b29, un, un, un, un, un, un] [(.double de)]) tz
        refine XS.dstore X41.here hx rfl (hb hby at_137) rfl (l' := #[iv p0, iv p1, iv p2, iv p3, iv p4, dw da, sn, dw db, sn, dw dc, sn, dw de, sn, iv 0, iv 1, rv b29, dw de, sn, un, un, un, un]) rfl ?_
        show sT p e below T41 (mkF m 139 #[iv p0, iv p1, iv p2, iv p3, iv p4, dw da, sn, dw db, sn, dw dc, sn, dw de, sn, iv 0, iv 1, rv b29, dw de, sn, un, un, un, un] []) tz
        refine XS.iload X41.here hx rfl (hb hby at_139) rfl ?_
        show sT p e below T41 (mkF m 141 #[iv p0, iv p1, iv p2, iv p3, iv p4, dw da, sn, dw db, sn, dw dc, sn, dw de, sn, iv 0, iv 1, rv b29, dw de, sn, un, un, un, un] [(.int 1)]) tz
        refine XS.ifNo X41.here hx rfl (hb hby at_141) rfl ((if0 _ _).trans (feq (by decide : ¬ ((1 : Int32) = (0 : Int32)))).1) ?_
        show sT p e below T41 (mkF m 144 #[iv p0, iv p1, iv p2, iv p3, iv p4, dw da, sn, dw db, sn, dw dc, sn, dw de, sn, iv 0, iv 1, rv b29, dw de, sn, un, un, un, un] []) tz
        refine XS.iload X41.here hx rfl (hb hby at_144) rfl ?_
        show sT p e below T41 (mkF m 146 #[iv p0, iv p1, iv p2, iv p3, iv p4, dw da, sn, dw db, sn, dw dc, sn, dw de, sn, iv 0, iv 1, rv b29, dw de, sn, un, un, un, un] [(.int 0)]) tz
        refine XS.iconst X41.here hx rfl (hb hby at_146) ?_
        show sT p e below T41 (mkF m 147 #[iv p0, iv p1, iv p2, iv p3, iv p4, dw da, sn, dw db, sn, dw dc, sn, dw de, sn, iv 0, iv 1, rv b29, dw de, sn, un, un, un, un] [(.int 1), (.int 0)]) tz
        refine XS.icmpYes X41.here hx rfl (pc0 := 147) (pc' := 155) rfl (hb hby at_147) rfl (feq (by decide : ¬ ((0 : Int32) = (1 : Int32)))).2 (by decide) (by decide) ?_
        show sT p e below T41 (mkF m 155 #[iv p0, iv p1, iv p2, iv p3, iv p4, dw da, sn, dw db, sn, dw dc, sn, dw de, sn, iv 0, iv 1, rv b29, dw de, sn, un, un, un, un] []) tz
        refine XS.dload X41.here hx rfl (hb hby at_155) rfl ?_
        show sT p e below T41 (mkF m 157 #[iv p0, iv p1, iv p2, iv p3, iv p4, dw da, sn, dw db, sn, dw dc, sn, dw de, sn, iv 0, iv 1, rv b29, dw de, sn, un, un, un, un] [(.double db)]) tz
        refine XS.dstore X41.here hx rfl (hb hby at_157) rfl (l' := #[iv p0, iv p1, iv p2, iv p3, iv p4, dw da, sn, dw db, sn, dw dc, sn, dw de, sn, iv 0, iv 1, rv b29, dw de, sn, dw db, sn, un, un]) rfl ?_
        show sT p e below T41 (mkF m 159 #[iv p0, iv p1, iv p2, iv p3, iv p4, dw da, sn, dw db, sn, dw dc, sn, dw de, sn, iv 0, iv 1, rv b29, dw de, sn, dw db, sn, un, un] []) tz
        refine XS.iload X41.here hx rfl (hb hby at_159) rfl ?_
        show sT p e below T41 (mkF m 161 #[iv p0, iv p1, iv p2, iv p3, iv p4, dw da, sn, dw db, sn, dw dc, sn, dw de, sn, iv 0, iv 1, rv b29, dw de, sn, dw db, sn, un, un] [(.int 1)]) tz
        refine XS.ifNo X41.here hx rfl (hb hby at_161) rfl ((if0 _ _).trans (feq (by decide : ¬ ((1 : Int32) = (0 : Int32)))).1) ?_
        show sT p e below T41 (mkF m 164 #[iv p0, iv p1, iv p2, iv p3, iv p4, dw da, sn, dw db, sn, dw dc, sn, dw de, sn, iv 0, iv 1, rv b29, dw de, sn, dw db, sn, un, un] []) tz
        refine XS.iload X41.here hx rfl (hb hby at_164) rfl ?_
        show sT p e below T41 (mkF m 166 #[iv p0, iv p1, iv p2, iv p3, iv p4, dw da, sn, dw db, sn, dw dc, sn, dw de, sn, iv 0, iv 1, rv b29, dw de, sn, dw db, sn, un, un] [(.int 0)]) tz
        refine XS.iconst X41.here hx rfl (hb hby at_166) ?_
        show sT p e below T41 (mkF m 167 #[iv p0, iv p1, iv p2, iv p3, iv p4, dw da, sn, dw db, sn, dw dc, sn, dw de, sn, iv 0, iv 1, rv b29, dw de, sn, dw db, sn, un, un] [(.int 2), (.int 0)]) tz
        refine XS.icmpYes X41.here hx rfl (pc0 := 167) (pc' := 175) rfl (hb hby at_167) rfl (feq (by decide : ¬ ((0 : Int32) = (2 : Int32)))).2 (by decide) (by decide) ?_
        show sT p e below T41 (mkF m 175 #[iv p0, iv p1, iv p2, iv p3, iv p4, dw da, sn, dw db, sn, dw dc, sn, dw de, sn, iv 0, iv 1, rv b29, dw de, sn, dw db, sn, un, un] []) tz
        refine XS.dload X41.here hx rfl (hb hby at_175) rfl ?_
        show sT p e below T41 (mkF m 177 #[iv p0, iv p1, iv p2, iv p3, iv p4, dw da, sn, dw db, sn, dw dc, sn, dw de, sn, iv 0, iv 1, rv b29, dw de, sn, dw db, sn, un, un] [(.double dc)]) tz
        refine XS.dstore X41.here hx rfl (hb hby at_177) rfl (l' := #[iv p0, iv p1, iv p2, iv p3, iv p4, dw da, sn, dw db, sn, dw dc, sn, dw de, sn, iv 0, iv 1, rv b29, dw de, sn, dw db, sn, dw dc, sn]) rfl ?_
        show sT p e below T41 (mkF m 179 #[iv p0, iv p1, iv p2, iv p3, iv p4, dw da, sn, dw db, sn, dw dc, sn, dw de, sn, iv 0, iv 1, rv b29, dw de, sn, dw db, sn, dw dc, sn] []) tz
        refine XS.aload X41.here hx rfl (hb hby at_179) rfl rfl ?_
        exact kz
      obtain ⟨cq42, kq42, q42a, q42b, q42c⟩ := isOf hZ rfl D41.exa
      obtain ⟨_, _, ⟨T42, L42, k42, n42⟩, -, X42, ⟨Lc42, hQ42, l42, y42, z42⟩, st42⟩ := X41.virtualBack hx (y := (⟨"com/example/vows_to_moves/vowstomoves/model/DoubleColumn", "size", "()I"⟩ : MethodName)) (z := (⟨"com/example/vows_to_moves/vowstomoves/model/DoubleColumn", "size", "()I"⟩ : MethodName)) hown (mvT hZ (own_w hw 126 rfl)) (mvT hZ (own_w hw 127 rfl)) (notFace_of_selects (args := #[]) (mvT hZ (own_w hw 129 rfl))) (mvT hZ (own_w hw 129 rfl)) (mvT hZ (own_w hw 128 rfl)) (by decide) (backOf (W := 0) (rm20 l Z a0 hw [] b29 (3 : Int32) T41.heap n0 Oq41 D41.len) hZ (own_w hw 130 rfl) (own_w hw 2 rfl) (by decide) (by decide)) q42a q42c (g := (mkF m 181 #[iv p0, iv p1, iv p2, iv p3, iv p4, dw da, sn, dw db, sn, dw dc, sn, dw de, sn, iv 0, iv 1, rv b29, dw de, sn, dw db, sn, dw dc, sn] [(.ref b29)])) rfl (by rw [hml]; rfl) (Steps.refl _) (argsL := []) (rest := []) (lenOf own_pd6 rfl) rfl (by show 2 * 0 + _ ≤ _; exact Nat.le_of_eq rfl) (hb hby at_181) (fun _ _ => ⟨rfl, rfl, (by decide : 9 + 0 ≤ _), (by decide : 65603 + 0 ≤ _)⟩)
      dsimp only [Pt.U, Pt.locs, Pt.cells, Pt.slots] at X42 l42 y42 z42 st42 hQ42
      subst l42 y42 z42
      obtain ⟨rfl, Nq42, e42⟩ := hQ42
      have N42 := Fr.app N41 Nq42
      refine own_on (B := T42.setTop (mkF m 184 #[iv p0, iv p1, iv p2, iv p3, iv p4, dw da, sn, dw db, sn, dw dc, sn, dw de, sn, iv 0, iv 1, rv b29, dw de, sn, dw db, sn, dw dc, sn] [(.int 3)])) (fun tz kz => st42.trans kz) ?_
      refine own_on (B := T42.setTop (mkF m 191 #[iv p0, iv p1, iv p2, iv p3, iv p4, dw da, sn, dw db, sn, dw dc, sn, dw de, sn, iv 0, iv 1, rv b29, dw de, sn, dw db, sn, dw dc, sn] [(.int 0), (.ref b29)])) (fun tz kz => ?_) ?_
      · show sT p e below T42 (mkF m 184 #[iv p0, iv p1, iv p2, iv p3, iv p4, dw da, sn, dw db, sn, dw dc, sn, dw de, sn, iv 0, iv 1, rv b29, dw de, sn, dw db, sn, dw dc, sn] [(.int 3)]) tz
        refine XS.iconst X42.here hx rfl (hb hby at_184) ?_
        show sT p e below T42 (mkF m 185 #[iv p0, iv p1, iv p2, iv p3, iv p4, dw da, sn, dw db, sn, dw dc, sn, dw de, sn, iv 0, iv 1, rv b29, dw de, sn, dw db, sn, dw dc, sn] [(.int 3), (.int 3)]) tz
        refine XS.icmpNo X42.here hx rfl (hb hby at_185) rfl (teq rfl).2 ?_
        show sT p e below T42 (mkF m 188 #[iv p0, iv p1, iv p2, iv p3, iv p4, dw da, sn, dw db, sn, dw dc, sn, dw de, sn, iv 0, iv 1, rv b29, dw de, sn, dw db, sn, dw dc, sn] []) tz
        refine XS.aload X42.here hx rfl (hb hby at_188) rfl rfl ?_
        show sT p e below T42 (mkF m 190 #[iv p0, iv p1, iv p2, iv p3, iv p4, dw da, sn, dw db, sn, dw dc, sn, dw de, sn, iv 0, iv 1, rv b29, dw de, sn, dw db, sn, dw dc, sn] [(.ref b29)]) tz
        refine XS.iconst X42.here hx rfl (hb hby at_190) ?_
        exact kz
      obtain ⟨cq43, kq43, q43a, q43b, q43c⟩ := isOf hZ e42 D41.exa
      obtain ⟨_, _, ⟨T43, L43, k43, n43⟩, -, X43, ⟨Lc43, hQ43, l43, y43, z43⟩, st43⟩ := X42.virtualBack hx (y := (⟨"com/example/vows_to_moves/vowstomoves/model/DoubleColumn", "get", "(I)D"⟩ : MethodName)) (z := (⟨"com/example/vows_to_moves/vowstomoves/model/DoubleColumn", "get", "(I)D"⟩ : MethodName)) hown (mvT hZ (own_w hw 131 rfl)) (mvT hZ (own_w hw 132 rfl)) (notFace_of_selects (args := #[]) (mvT hZ (own_w hw 134 rfl))) (mvT hZ (own_w hw 134 rfl)) (mvT hZ (own_w hw 133 rfl)) (by decide) (backOf (W := 0) (rm210 l Z a0 hw [] b29 (3 : Int32) de db dc (1 + 1 + 1 + 1) T41.heap n0 Oq41 D41 (by decide)) hZ (own_w hw 135 rfl) (own_w hw 2 rfl) (by decide) (by decide)) q43a q43c (g := (mkF m 191 #[iv p0, iv p1, iv p2, iv p3, iv p4, dw da, sn, dw db, sn, dw dc, sn, dw de, sn, iv 0, iv 1, rv b29, dw de, sn, dw db, sn, dw dc, sn] [(.int 0), (.ref b29)])) rfl (by rw [hml]; rfl) (Steps.refl _) (argsL := [(.int (0 : Int32))]) (rest := []) (lenOf own_pd14 rfl) rfl (by show 2 * 0 + _ ≤ _; exact Nat.le_of_eq rfl) (hb hby at_191) (fun _ _ => ⟨rfl, e42, (by decide : 9 + 0 ≤ _), (by decide : 65603 + 0 ≤ _)⟩)
      dsimp only [Pt.U, Pt.locs, Pt.cells, Pt.slots] at X43 l43 y43 z43 st43 hQ43
      subst l43 y43 z43
      obtain ⟨rfl, Nq43, e43⟩ := hQ43
      have N43 := Fr.app N42 Nq43
      refine own_on (B := T43.setTop (mkF m 194 #[iv p0, iv p1, iv p2, iv p3, iv p4, dw da, sn, dw db, sn, dw dc, sn, dw de, sn, iv 0, iv 1, rv b29, dw de, sn, dw db, sn, dw dc, sn] [(.double de)])) (fun tz kz => st43.trans kz) ?_
      refine own_on (B := T43.setTop (mkF m 203 #[iv p0, iv p1, iv p2, iv p3, iv p4, dw da, sn, dw db, sn, dw dc, sn, dw de, sn, iv 0, iv 1, rv b29, dw de, sn, dw db, sn, dw dc, sn] [(.int 1), (.ref b29)])) (fun tz kz => ?_) ?_
      · show sT p e below T43 (mkF m 194 #[iv p0, iv p1, iv p2, iv p3, iv p4, dw da, sn, dw db, sn, dw dc, sn, dw de, sn, iv 0, iv 1, rv b29, dw de, sn, dw db, sn, dw dc, sn] [(.double de)]) tz
        refine XS.dload X43.here hx rfl (hb hby at_194) rfl ?_
        show sT p e below T43 (mkF m 196 #[iv p0, iv p1, iv p2, iv p3, iv p4, dw da, sn, dw db, sn, dw dc, sn, dw de, sn, iv 0, iv 1, rv b29, dw de, sn, dw db, sn, dw dc, sn] [(.double de), (.double de)]) tz
        refine XS.dcmpS X43.here hx rfl (hb hby at_196) rfl (v := (cmpValue (FP.dcmp de de) .l)) rfl ?_
        show sT p e below T43 (mkF m 197 #[iv p0, iv p1, iv p2, iv p3, iv p4, dw da, sn, dw db, sn, dw dc, sn, dw de, sn, iv 0, iv 1, rv b29, dw de, sn, dw db, sn, dw dc, sn] [(.int (cmpValue (FP.dcmp de de) .l))]) tz
        refine XS.ifNo X43.here hx rfl (hb hby at_197) rfl ((if0 _ _).trans (teq (dcmpV_self nn_de .l)).2) ?_
        show sT p e below T43 (mkF m 200 #[iv p0, iv p1, iv p2, iv p3, iv p4, dw da, sn, dw db, sn, dw dc, sn, dw de, sn, iv 0, iv 1, rv b29, dw de, sn, dw db, sn, dw dc, sn] []) tz
        refine XS.aload X43.here hx rfl (hb hby at_200) rfl rfl ?_
        show sT p e below T43 (mkF m 202 #[iv p0, iv p1, iv p2, iv p3, iv p4, dw da, sn, dw db, sn, dw dc, sn, dw de, sn, iv 0, iv 1, rv b29, dw de, sn, dw db, sn, dw dc, sn] [(.ref b29)]) tz
        refine XS.iconst X43.here hx rfl (hb hby at_202) ?_
        exact kz
      obtain ⟨cq44, kq44, q44a, q44b, q44c⟩ := isOf hZ e43 D41.exa
      obtain ⟨_, _, ⟨T44, L44, k44, n44⟩, -, X44, ⟨Lc44, hQ44, l44, y44, z44⟩, st44⟩ := X43.virtualBack hx (y := (⟨"com/example/vows_to_moves/vowstomoves/model/DoubleColumn", "get", "(I)D"⟩ : MethodName)) (z := (⟨"com/example/vows_to_moves/vowstomoves/model/DoubleColumn", "get", "(I)D"⟩ : MethodName)) hown (mvT hZ (own_w hw 131 rfl)) (mvT hZ (own_w hw 132 rfl)) (notFace_of_selects (args := #[]) (mvT hZ (own_w hw 134 rfl))) (mvT hZ (own_w hw 134 rfl)) (mvT hZ (own_w hw 133 rfl)) (by decide) (backOf (W := 0) (rm211 l Z a0 hw [] b29 (3 : Int32) de db dc (1 + 1 + 1 + 1) T41.heap n0 Oq41 D41 (by decide)) hZ (own_w hw 135 rfl) (own_w hw 2 rfl) (by decide) (by decide)) q44a q44c (g := (mkF m 203 #[iv p0, iv p1, iv p2, iv p3, iv p4, dw da, sn, dw db, sn, dw dc, sn, dw de, sn, iv 0, iv 1, rv b29, dw de, sn, dw db, sn, dw dc, sn] [(.int 1), (.ref b29)])) rfl (by rw [hml]; rfl) (Steps.refl _) (argsL := [(.int (1 : Int32))]) (rest := []) (lenOf own_pd14 rfl) rfl (by show 2 * 0 + _ ≤ _; exact Nat.le_of_eq rfl) (hb hby at_203) (fun _ _ => ⟨rfl, e43, (by decide : 9 + 0 ≤ _), (by decide : 65603 + 0 ≤ _)⟩)
      dsimp only [Pt.U, Pt.locs, Pt.cells, Pt.slots] at X44 l44 y44 z44 st44 hQ44
      subst l44 y44 z44
      obtain ⟨rfl, Nq44, e44⟩ := hQ44
      have N44 := Fr.app N43 Nq44
      refine own_on (B := T44.setTop (mkF m 206 #[iv p0, iv p1, iv p2, iv p3, iv p4, dw da, sn, dw db, sn, dw dc, sn, dw de, sn, iv 0, iv 1, rv b29, dw de, sn, dw db, sn, dw dc, sn] [(.double db)])) (fun tz kz => st44.trans kz) ?_
      refine own_on (B := T44.setTop (mkF m 215 #[iv p0, iv p1, iv p2, iv p3, iv p4, dw da, sn, dw db, sn, dw dc, sn, dw de, sn, iv 0, iv 1, rv b29, dw de, sn, dw db, sn, dw dc, sn] [(.int 2), (.ref b29)])) (fun tz kz => ?_) ?_
      · show sT p e below T44 (mkF m 206 #[iv p0, iv p1, iv p2, iv p3, iv p4, dw da, sn, dw db, sn, dw dc, sn, dw de, sn, iv 0, iv 1, rv b29, dw de, sn, dw db, sn, dw dc, sn] [(.double db)]) tz
        refine XS.dload X44.here hx rfl (hb hby at_206) rfl ?_
        show sT p e below T44 (mkF m 208 #[iv p0, iv p1, iv p2, iv p3, iv p4, dw da, sn, dw db, sn, dw dc, sn, dw de, sn, iv 0, iv 1, rv b29, dw de, sn, dw db, sn, dw dc, sn] [(.double db), (.double db)]) tz
        refine XS.dcmpS X44.here hx rfl (hb hby at_208) rfl (v := (cmpValue (FP.dcmp db db) .l)) rfl ?_
        show sT p e below T44 (mkF m 209 #[iv p0, iv p1, iv p2, iv p3, iv p4, dw da, sn, dw db, sn, dw dc, sn, dw de, sn, iv 0, iv 1, rv b29, dw de, sn, dw db, sn, dw dc, sn] [(.int (cmpValue (FP.dcmp db db) .l))]) tz
        refine XS.ifNo X44.here hx rfl (hb hby at_209) rfl ((if0 _ _).trans (teq (dcmpV_self nn_db .l)).2) ?_
        show sT p e below T44 (mkF m 212 #[iv p0, iv p1, iv p2, iv p3, iv p4, dw da, sn, dw db, sn, dw dc, sn, dw de, sn, iv 0, iv 1, rv b29, dw de, sn, dw db, sn, dw dc, sn] []) tz
        refine XS.aload X44.here hx rfl (hb hby at_212) rfl rfl ?_
        show sT p e below T44 (mkF m 214 #[iv p0, iv p1, iv p2, iv p3, iv p4, dw da, sn, dw db, sn, dw dc, sn, dw de, sn, iv 0, iv 1, rv b29, dw de, sn, dw db, sn, dw dc, sn] [(.ref b29)]) tz
        refine XS.iconst X44.here hx rfl (hb hby at_214) ?_
        exact kz
      obtain ⟨cq45, kq45, q45a, q45b, q45c⟩ := isOf hZ e44 D41.exa
      obtain ⟨_, _, ⟨T45, L45, k45, n45⟩, -, X45, ⟨Lc45, hQ45, l45, y45, z45⟩, st45⟩ := X44.virtualBack hx (y := (⟨"com/example/vows_to_moves/vowstomoves/model/DoubleColumn", "get", "(I)D"⟩ : MethodName)) (z := (⟨"com/example/vows_to_moves/vowstomoves/model/DoubleColumn", "get", "(I)D"⟩ : MethodName)) hown (mvT hZ (own_w hw 131 rfl)) (mvT hZ (own_w hw 132 rfl)) (notFace_of_selects (args := #[]) (mvT hZ (own_w hw 134 rfl))) (mvT hZ (own_w hw 134 rfl)) (mvT hZ (own_w hw 133 rfl)) (by decide) (backOf (W := 0) (rm212 l Z a0 hw [] b29 (3 : Int32) de db dc (1 + 1 + 1 + 1) T41.heap n0 Oq41 D41 (by decide)) hZ (own_w hw 135 rfl) (own_w hw 2 rfl) (by decide) (by decide)) q45a q45c (g := (mkF m 215 #[iv p0, iv p1, iv p2, iv p3, iv p4, dw da, sn, dw db, sn, dw dc, sn, dw de, sn, iv 0, iv 1, rv b29, dw de, sn, dw db, sn, dw dc, sn] [(.int 2), (.ref b29)])) rfl (by rw [hml]; rfl) (Steps.refl _) (argsL := [(.int (2 : Int32))]) (rest := []) (lenOf own_pd14 rfl) rfl (by show 2 * 0 + _ ≤ _; exact Nat.le_of_eq rfl) (hb hby at_215) (fun _ _ => ⟨rfl, e44, (by decide : 9 + 0 ≤ _), (by decide : 65603 + 0 ≤ _)⟩)
      dsimp only [Pt.U, Pt.locs, Pt.cells, Pt.slots] at X45 l45 y45 z45 st45 hQ45
      subst l45 y45 z45
      obtain ⟨rfl, Nq45, e45⟩ := hQ45
      have N45 := Fr.app N44 Nq45
      refine own_on (B := T45.setTop (mkF m 218 #[iv p0, iv p1, iv p2, iv p3, iv p4, dw da, sn, dw db, sn, dw dc, sn, dw de, sn, iv 0, iv 1, rv b29, dw de, sn, dw db, sn, dw dc, sn] [(.double dc)])) (fun tz kz => st45.trans kz) ?_
      refine own_on (B := T45.setTop (mkF m 229 #[iv p0, iv p1, iv p2, iv p3, iv p4, dw da, sn, dw db, sn, dw dc, sn, dw de, sn, iv 0, iv 1, rv b29, dw de, sn, dw db, sn, dw dc, sn] [(.int 1)])) (fun tz kz => ?_) ?_
      · show sT p e below T45 (mkF m 218 #[iv p0, iv p1, iv p2, iv p3, iv p4, dw da, sn, dw db, sn, dw dc, sn, dw de, sn, iv 0, iv 1, rv b29, dw de, sn, dw db, sn, dw dc, sn] [(.double dc)]) tz
        refine XS.dload X45.here hx rfl (hb hby at_218) rfl ?_
        show sT p e below T45 (mkF m 220 #[iv p0, iv p1, iv p2, iv p3, iv p4, dw da, sn, dw db, sn, dw dc, sn, dw de, sn, iv 0, iv 1, rv b29, dw de, sn, dw db, sn, dw dc, sn] [(.double dc), (.double dc)]) tz
        refine XS.dcmpS X45.here hx rfl (hb hby at_220) rfl (v := (cmpValue (FP.dcmp dc dc) .l)) rfl ?_
        show sT p e below T45 (mkF m 221 #[iv p0, iv p1, iv p2, iv p3, iv p4, dw da, sn, dw db, sn, dw dc, sn, dw de, sn, iv 0, iv 1, rv b29, dw de, sn, dw db, sn, dw dc, sn] [(.int (cmpValue (FP.dcmp dc dc) .l))]) tz
        refine XS.ifNo X45.here hx rfl (hb hby at_221) rfl ((if0 _ _).trans (teq (dcmpV_self nn_dc .l)).2) ?_
        show sT p e below T45 (mkF m 224 #[iv p0, iv p1, iv p2, iv p3, iv p4, dw da, sn, dw db, sn, dw dc, sn, dw de, sn, iv 0, iv 1, rv b29, dw de, sn, dw db, sn, dw dc, sn] []) tz
        refine XS.iconst X45.here hx rfl (hb hby at_224) ?_
        show sT p e below T45 (mkF m 225 #[iv p0, iv p1, iv p2, iv p3, iv p4, dw da, sn, dw db, sn, dw dc, sn, dw de, sn, iv 0, iv 1, rv b29, dw de, sn, dw db, sn, dw dc, sn] [(.int 1)]) tz
        refine XS.goto X45.here hx rfl (pc0 := 225) (pc' := 229) rfl (hb hby at_225) (by decide) (by decide) ?_
        exact kz
      obtain ⟨fs, hr, hrun, hended, hW, hsame⟩ := X45.leave (v := some (.int (1 : Int32))) (fun h => by rw [Bd.returns] at h; cases h)
      refine own_of ⟨_, _, ?_, hrun, hended, _, _, rfl, ?_, ⟨_, rfl⟩, hW, hsame.mono (by decide) (by decide)⟩
      · show sT p e below T45 (mkF m 229 #[iv p0, iv p1, iv p2, iv p3, iv p4, dw da, sn, dw db, sn, dw dc, sn, dw de, sn, iv 0, iv 1, rv b29, dw de, sn, dw db, sn, dw dc, sn] [(.int 1)]) _
        exact own_retN X45 hx (t := .boolean) Bd.returns (by simp) (by first | rfl | (split <;> first | rfl | (split <;> first | rfl | (split <;> rfl)))) (hb hby at_229) hr
      · show Q0 Z p0 p1 p2 p3 p4 h0 n0 _ T45.heap _
        rw [e45]
        exact ⟨rfl, N45⟩
    · refine own_on (B := T36.setTop (mkF m 117 #[iv p0, iv p1, iv p2, iv p3, iv p4, dw da, sn, dw db, sn, dw dc, sn, dw de, sn, iv 1, iv 1, rv b29, un, un, un, un, un, un] [(.double de), (.int 1), (.ref b29)])) (fun tz kz => ?_) ?_
      · show sT p e below T36 (mkF m 106 #[iv p0, iv p1, iv p2, iv p3, iv p4, dw da, sn, dw db, sn, dw dc, sn, dw de, sn, iv 1, iv 1, rv b29, un, un, un, un, un, un] []) tz
        refine XS.iload X36.here hx rfl (hb hby at_106) rfl ?_
        show sT p e below T36 (mkF m 108 #[iv p0, iv p1, iv p2, iv p3, iv p4, dw da, sn, dw db, sn, dw dc, sn, dw de, sn, iv 1, iv 1, rv b29, un, un, un, un, un, un] [(.int 1)]) tz
        refine XS.ifNo X36.here hx rfl (hb hby at_108) rfl ((if0 _ _).trans (feq (by decide : ¬ ((1 : Int32) = (0 : Int32)))).1) ?_
        show sT p e below T36 (mkF m 111 #[iv p0, iv p1, iv p2, iv p3, iv p4, dw da, sn, dw db, sn, dw dc, sn, dw de, sn, iv 1, iv 1, rv b29, un, un, un, un, un, un] []) tz
        refine XS.aload X36.here hx rfl (hb hby at_111) rfl rfl ?_
        show sT p e below T36 (mkF m 113 #[iv p0, iv p1, iv p2, iv p3, iv p4, dw da, sn, dw db, sn, dw dc, sn, dw de, sn, iv 1, iv 1, rv b29, un, un, un, un, un, un] [(.ref b29)]) tz
        refine XS.iload X36.here hx rfl (hb hby at_113) rfl ?_
        show sT p e below T36 (mkF m 115 #[iv p0, iv p1, iv p2, iv p3, iv p4, dw da, sn, dw db, sn, dw dc, sn, dw de, sn, iv 1, iv 1, rv b29, un, un, un, un, un, un] [(.int 1), (.ref b29)]) tz
        refine XS.dload X36.here hx rfl (hb hby at_115) rfl ?_
        exact kz
      obtain ⟨cq46, kq46, q46a, q46b, q46c⟩ := isOf hZ rfl D36.exa
      obtain ⟨_, _, ⟨T46, L46, k46, n46⟩, -, X46, ⟨Lc46, hQ46, l46, y46, z46⟩, st46⟩ := X36.virtualBack hx (y := (⟨"com/example/vows_to_moves/vowstomoves/model/DoubleColumn", "set", "(ID)V"⟩ : MethodName)) (z := (⟨"com/example/vows_to_moves/vowstomoves/model/DoubleColumn", "set", "(ID)V"⟩ : MethodName)) hown (mvT hZ (own_w hw 141 rfl)) (mvT hZ (own_w hw 74 rfl)) (notFace_of_selects (args := #[]) (mvT hZ (own_w hw 76 rfl))) (mvT hZ (own_w hw 76 rfl)) (mvT hZ (own_w hw 75 rfl)) (by decide) (backOf (W := 0) (rm111 l Z a0 hw [] b29 de (3 : Int32) da db dc (1 + 1 + 1) T36.heap n0 Oq36 D36 (by decide)) hZ (own_w hw 77 rfl) (own_w hw 2 rfl) (by decide) (by decide)) q46a q46c (g := (mkF m 117 #[iv p0, iv p1, iv p2, iv p3, iv p4, dw da, sn, dw db, sn, dw dc, sn, dw de, sn, iv 1, iv 1, rv b29, un, un, un, un, un, un] [(.double de), (.int 1), (.ref b29)])) rfl (by rw [hml]; rfl) (Steps.refl _) (argsL := [(.int (1 : Int32)), (.double de)]) (rest := []) (lenOf own_pd12 rfl) rfl (by show 2 * 0 + _ ≤ _; exact Nat.le_of_eq rfl) (hb hby at_117) (fun _ _ => ⟨rfl, rfl, (by decide : 9 + 0 ≤ _), (by decide : 65603 + 0 ≤ _)⟩)
      dsimp only [Pt.U, Pt.locs, Pt.cells, Pt.slots] at X46 l46 y46 z46 st46 hQ46
      subst l46 y46 z46
      obtain ⟨rfl, Nq46, Oq46, D46⟩ := hQ46
      have N46 := Fr.app N36 Nq46
      refine own_on (B := T46.setTop (mkF m 120 #[iv p0, iv p1, iv p2, iv p3, iv p4, dw da, sn, dw db, sn, dw dc, sn, dw de, sn, iv 1, iv 1, rv b29, un, un, un, un, un, un] [])) (fun tz kz => st46.trans kz) ?_
      refine own_on (B := T46.setTop (mkF m 181 #[iv p0, iv p1, iv p2, iv p3, iv p4, dw da, sn, dw db, sn, dw dc, sn, dw de, sn, iv 1, iv 1, rv b29, dw da, sn, dw de, sn, dw dc, sn] [(.ref b29)])) (fun tz kz => ?_) ?_
      · show sT p e below T46 (mkF m 120 #[iv p0, iv p1, iv p2, iv p3, iv p4, dw da, sn, dw db, sn, dw dc, sn, dw de, sn, iv 1, iv 1, rv b29, un, un, un, un, un, un] []) tz
        refine XS.iload X46.here hx rfl (hb hby at_120) rfl ?_
        show sT p e below T46 (mkF m 122 #[iv p0, iv p1, iv p2, iv p3, iv p4, dw da, sn, dw db, sn, dw dc, sn, dw de, sn, iv 1, iv 1, rv b29, un, un, un, un, un, un] [(.int 1)]) tz
        refine XS.ifNo X46.here hx rfl (hb hby at_122) rfl ((if0 _ _).trans (feq (by decide : ¬ ((1 : Int32) = (0 : Int32)))).1) ?_
        show sT p e below T46 (mkF m 125 #[iv p0, iv p1, iv p2, iv p3, iv p4, dw da, sn, dw db, sn, dw dc, sn, dw de, sn, iv 1, iv 1, rv b29, un, un, un, un, un, un] []) tz
        refine XS.iload X46.here hx rfl (hb hby at_125) rfl ?_
        show sT p e below T46 (mkF m 127 #[iv p0, iv p1, iv p2, iv p3, iv p4, dw da, sn, dw db, sn, dw dc, sn, dw de, sn, iv 1, iv 1, rv b29, un, un, un, un, un, un] [(.int 1)]) tz
        refine XS.ifYes X46.here hx rfl (pc0 := 127) (pc' := 135) rfl (hb hby at_127) rfl ((if0 _ _).trans (feq (by decide : ¬ ((1 : Int32) = (0 : Int32)))).2) (by decide) (by decide) ?_
        show sT p e below T46 (mkF m 135 #[iv p0, iv p1, iv p2, iv p3, iv p4, dw da, sn, dw db, sn, dw dc, sn, dw de, sn, iv 1, iv 1, rv b29, un, un, un, un, un, un] []) tz
        refine XS.dload X46.here hx rfl (hb hby at_135) rfl ?_
        show sT p e below T46 (mkF m 137 #[iv p0, iv p1, iv p2, iv p3, iv p4, dw da, sn, dw db, sn, dw dc, sn, dw de, sn, iv 1, iv 1, rv b29, un, un, un, un, un, un] [(.double da)]) tz
        refine XS.dstore X46.here hx rfl (hb hby at_137) rfl (l' := #[iv p0, iv p1, iv p2, iv p3, iv p4, dw da, sn, dw db, sn, dw dc, sn, dw de, sn, iv 1, iv 1, rv b29, dw da, sn, un, un, un, un]) rfl ?_
        show sT p e below T46 (mkF m 139 #[iv p0, iv p1, iv p2, iv p3, iv p4, dw da, sn, dw db, sn, dw dc, sn, dw de, sn, iv 1, iv 1, rv b29, dw da, sn, un, un, un, un] []) tz
        refine XS.iload X46.here hx rfl (hb hby at_139) rfl ?_
        show sT p e below T46 (mkF m 141 #[iv p0, iv p1, iv p2, iv p3, iv p4, dw da, sn, dw db, sn, dw dc, sn, dw de, sn, iv 1, iv 1, rv b29, dw da, sn, un, un, un, un] [(.int 1)]) tz
        refine XS.ifNo X46.here hx rfl (hb hby at_141) rfl ((if0 _ _).trans (feq (by decide : ¬ ((1 : Int32) = (0 : Int32)))).1) ?_
        show sT p e below T46 (mkF m 144 #[iv p0, iv p1, iv p2, iv p3, iv p4, dw da, sn, dw db, sn, dw dc, sn, dw de, sn, iv 1, iv 1, rv b29, dw da, sn, un, un, un, un] []) tz
        refine XS.iload X46.here hx rfl (hb hby at_144) rfl ?_
        show sT p e below T46 (mkF m 146 #[iv p0, iv p1, iv p2, iv p3, iv p4, dw da, sn, dw db, sn, dw dc, sn, dw de, sn, iv 1, iv 1, rv b29, dw da, sn, un, un, un, un] [(.int 1)]) tz
        refine XS.iconst X46.here hx rfl (hb hby at_146) ?_
        show sT p e below T46 (mkF m 147 #[iv p0, iv p1, iv p2, iv p3, iv p4, dw da, sn, dw db, sn, dw dc, sn, dw de, sn, iv 1, iv 1, rv b29, dw da, sn, un, un, un, un] [(.int 1), (.int 1)]) tz
        refine XS.icmpNo X46.here hx rfl (hb hby at_147) rfl (teq rfl).2 ?_
        show sT p e below T46 (mkF m 150 #[iv p0, iv p1, iv p2, iv p3, iv p4, dw da, sn, dw db, sn, dw dc, sn, dw de, sn, iv 1, iv 1, rv b29, dw da, sn, un, un, un, un] []) tz
        refine XS.dload X46.here hx rfl (hb hby at_150) rfl ?_
        show sT p e below T46 (mkF m 152 #[iv p0, iv p1, iv p2, iv p3, iv p4, dw da, sn, dw db, sn, dw dc, sn, dw de, sn, iv 1, iv 1, rv b29, dw da, sn, un, un, un, un] [(.double de)]) tz
        refine XS.goto X46.here hx rfl (pc0 := 152) (pc' := 157) rfl (hb hby at_152) (by decide) (by decide) ?_
        show sT p e below T46 (mkF m 157 #[iv p0, iv p1, iv p2, iv p3, iv p4, dw da, sn, dw db, sn, dw dc, sn, dw de, sn, iv 1, iv 1, rv b29, dw da, sn, un, un, un, un] [(.double de)]) tz
        refine XS.dstore X46.here hx rfl (hb hby at_157) rfl (l' := #[iv p0, iv p1, iv p2, iv p3, iv p4, dw da, sn, dw db, sn, dw dc, sn, dw de, sn, iv 1, iv 1, rv b29, dw da, sn, dw de, sn, un, un]) rfl ?_
        show sT p e below T46 (mkF m 159 #[iv p0, iv p1, iv p2, iv p3, iv p4, dw da, sn, dw db, sn, dw dc, sn, dw de, sn, iv 1, iv 1, rv b29, dw da, sn, dw de, sn, un, un] []) tz
        refine XS.iload X46.here hx rfl (hb hby at_159) rfl ?_
        show sT p e below T46 (mkF m 161 #[iv p0, iv p1, iv p2, iv p3, iv p4, dw da, sn, dw db, sn, dw dc, sn, dw de, sn, iv 1, iv 1, rv b29, dw da, sn, dw de, sn, un, un] [(.int 1)]) tz
        refine XS.ifNo X46.here hx rfl (hb hby at_161) rfl ((if0 _ _).trans (feq (by decide : ¬ ((1 : Int32) = (0 : Int32)))).1) ?_
        show sT p e below T46 (mkF m 164 #[iv p0, iv p1, iv p2, iv p3, iv p4, dw da, sn, dw db, sn, dw dc, sn, dw de, sn, iv 1, iv 1, rv b29, dw da, sn, dw de, sn, un, un] []) tz
        refine XS.iload X46.here hx rfl (hb hby at_164) rfl ?_
        show sT p e below T46 (mkF m 166 #[iv p0, iv p1, iv p2, iv p3, iv p4, dw da, sn, dw db, sn, dw dc, sn, dw de, sn, iv 1, iv 1, rv b29, dw da, sn, dw de, sn, un, un] [(.int 1)]) tz
        refine XS.iconst X46.here hx rfl (hb hby at_166) ?_
        show sT p e below T46 (mkF m 167 #[iv p0, iv p1, iv p2, iv p3, iv p4, dw da, sn, dw db, sn, dw dc, sn, dw de, sn, iv 1, iv 1, rv b29, dw da, sn, dw de, sn, un, un] [(.int 2), (.int 1)]) tz
        refine XS.icmpYes X46.here hx rfl (pc0 := 167) (pc' := 175) rfl (hb hby at_167) rfl (feq (by decide : ¬ ((1 : Int32) = (2 : Int32)))).2 (by decide) (by decide) ?_
        show sT p e below T46 (mkF m 175 #[iv p0, iv p1, iv p2, iv p3, iv p4, dw da, sn, dw db, sn, dw dc, sn, dw de, sn, iv 1, iv 1, rv b29, dw da, sn, dw de, sn, un, un] []) tz
        refine XS.dload X46.here hx rfl (hb hby at_175) rfl ?_
        show sT p e below T46 (mkF m 177 #[iv p0, iv p1, iv p2, iv p3, iv p4, dw da, sn, dw db, sn, dw dc, sn, dw de, sn, iv 1, iv 1, rv b29, dw da, sn, dw de, sn, un, un] [(.double dc)]) tz
        refine XS.dstore X46.here hx rfl (hb hby at_177) rfl (l' := #[iv p0, iv p1, iv p2, iv p3, iv p4, dw da, sn, dw db, sn, dw dc, sn, dw de, sn, iv 1, iv 1, rv b29, dw da, sn, dw de, sn, dw dc, sn]) rfl ?_
        show sT p e below T46 (mkF m 179 #[iv p0, iv p1, iv p2, iv p3, iv p4, dw da, sn, dw db, sn, dw dc, sn, dw de, sn, iv 1, iv 1, rv b29, dw da, sn, dw de, sn, dw dc, sn] []) tz
        refine XS.aload X46.here hx rfl (hb hby at_179) rfl rfl ?_
        exact kz
      obtain ⟨cq47, kq47, q47a, q47b, q47c⟩ := isOf hZ rfl D46.exa
      obtain ⟨_, _, ⟨T47, L47, k47, n47⟩, -, X47, ⟨Lc47, hQ47, l47, y47, z47⟩, st47⟩ := X46.virtualBack hx (y := (⟨"com/example/vows_to_moves/vowstomoves/model/DoubleColumn", "size", "()I"⟩ : MethodName)) (z := (⟨"com/example/vows_to_moves/vowstomoves/model/DoubleColumn", "size", "()I"⟩ : MethodName)) hown (mvT hZ (own_w hw 126 rfl)) (mvT hZ (own_w hw 127 rfl)) (notFace_of_selects (args := #[]) (mvT hZ (own_w hw 129 rfl))) (mvT hZ (own_w hw 129 rfl)) (mvT hZ (own_w hw 128 rfl)) (by decide) (backOf (W := 0) (rm20 l Z a0 hw [] b29 (3 : Int32) T46.heap n0 Oq46 D46.len) hZ (own_w hw 130 rfl) (own_w hw 2 rfl) (by decide) (by decide)) q47a q47c (g := (mkF m 181 #[iv p0, iv p1, iv p2, iv p3, iv p4, dw da, sn, dw db, sn, dw dc, sn, dw de, sn, iv 1, iv 1, rv b29, dw da, sn, dw de, sn, dw dc, sn] [(.ref b29)])) rfl (by rw [hml]; rfl) (Steps.refl _) (argsL := []) (rest := []) (lenOf own_pd6 rfl) rfl (by show 2 * 0 + _ ≤ _; exact Nat.le_of_eq rfl) (hb hby at_181) (fun _ _ => ⟨rfl, rfl, (by decide : 9 + 0 ≤ _), (by decide : 65603 + 0 ≤ _)⟩)
      dsimp only [Pt.U, Pt.locs, Pt.cells, Pt.slots] at X47 l47 y47 z47 st47 hQ47
      subst l47 y47 z47
      obtain ⟨rfl, Nq47, e47⟩ := hQ47
      have N47 := Fr.app N46 Nq47
      refine own_on (B := T47.setTop (mkF m 184 #[iv p0, iv p1, iv p2, iv p3, iv p4, dw da, sn, dw db, sn, dw dc, sn, dw de, sn, iv 1, iv 1, rv b29, dw da, sn, dw de, sn, dw dc, sn] [(.int 3)])) (fun tz kz => st47.trans kz) ?_
      refine own_on (B := T47.setTop (mkF m 191 #[iv p0, iv p1, iv p2, iv p3, iv p4, dw da, sn, dw db, sn, dw dc, sn, dw de, sn, iv 1, iv 1, rv b29, dw da, sn, dw de, sn, dw dc, sn] [(.int 0), (.ref b29)])) (fun tz kz => ?_) ?_
      · show sT p e below T47 (mkF m 184 #[iv p0, iv p1, iv p2, iv p3, iv p4, dw da, sn, dw db, sn, dw dc, sn, dw de, sn, iv 1, iv 1, rv b29, dw da, sn, dw de, sn, dw dc, sn] [(.int 3)]) tz
        refine XS.iconst X47.here hx rfl (hb hby at_184) ?_
        show sT p e below T47 (mkF m 185 #[iv p0, iv p1, iv p2, iv p3, iv p4, dw da, sn, dw db, sn, dw dc, sn, dw de, sn, iv 1, iv 1, rv b29, dw da, sn, dw de, sn, dw dc, sn] [(.int 3), (.int 3)]) tz
        refine XS.icmpNo X47.here hx rfl (hb hby at_185) rfl (teq rfl).2 ?_
        show sT p e below T47 (mkF m 188 #[iv p0, iv p1, iv p2, iv p3, iv p4, dw da, sn, dw db, sn, dw dc, sn, dw de, sn, iv 1, iv 1, rv b29, dw da, sn, dw de, sn, dw dc, sn] []) tz
        refine XS.aload X47.here hx rfl (hb hby at_188) rfl rfl ?_
        show sT p e below T47 (mkF m 190 #[iv p0, iv p1, iv p2, iv p3, iv p4, dw da, sn, dw db, sn, dw dc, sn, dw de, sn, iv 1, iv 1, rv b29, dw da, sn, dw de, sn, dw dc, sn] [(.ref b29)]) tz
        refine XS.iconst X47.here hx rfl (hb hby at_190) ?_
        exact kz
      obtain ⟨cq48, kq48, q48a, q48b, q48c⟩ := isOf hZ e47 D46.exa
      obtain ⟨_, _, ⟨T48, L48, k48, n48⟩, -, X48, ⟨Lc48, hQ48, l48, y48, z48⟩, st48⟩ := X47.virtualBack hx (y := (⟨"com/example/vows_to_moves/vowstomoves/model/DoubleColumn", "get", "(I)D"⟩ : MethodName)) (z := (⟨"com/example/vows_to_moves/vowstomoves/model/DoubleColumn", "get", "(I)D"⟩ : MethodName)) hown (mvT hZ (own_w hw 131 rfl)) (mvT hZ (own_w hw 132 rfl)) (notFace_of_selects (args := #[]) (mvT hZ (own_w hw 134 rfl))) (mvT hZ (own_w hw 134 rfl)) (mvT hZ (own_w hw 133 rfl)) (by decide) (backOf (W := 0) (rm210 l Z a0 hw [] b29 (3 : Int32) da de dc (1 + 1 + 1 + 1) T46.heap n0 Oq46 D46 (by decide)) hZ (own_w hw 135 rfl) (own_w hw 2 rfl) (by decide) (by decide)) q48a q48c (g := (mkF m 191 #[iv p0, iv p1, iv p2, iv p3, iv p4, dw da, sn, dw db, sn, dw dc, sn, dw de, sn, iv 1, iv 1, rv b29, dw da, sn, dw de, sn, dw dc, sn] [(.int 0), (.ref b29)])) rfl (by rw [hml]; rfl) (Steps.refl _) (argsL := [(.int (0 : Int32))]) (rest := []) (lenOf own_pd14 rfl) rfl (by show 2 * 0 + _ ≤ _; exact Nat.le_of_eq rfl) (hb hby at_191) (fun _ _ => ⟨rfl, e47, (by decide : 9 + 0 ≤ _), (by decide : 65603 + 0 ≤ _)⟩)
      dsimp only [Pt.U, Pt.locs, Pt.cells, Pt.slots] at X48 l48 y48 z48 st48 hQ48
      subst l48 y48 z48
      obtain ⟨rfl, Nq48, e48⟩ := hQ48
      have N48 := Fr.app N47 Nq48
      refine own_on (B := T48.setTop (mkF m 194 #[iv p0, iv p1, iv p2, iv p3, iv p4, dw da, sn, dw db, sn, dw dc, sn, dw de, sn, iv 1, iv 1, rv b29, dw da, sn, dw de, sn, dw dc, sn] [(.double da)])) (fun tz kz => st48.trans kz) ?_
      refine own_on (B := T48.setTop (mkF m 203 #[iv p0, iv p1, iv p2, iv p3, iv p4, dw da, sn, dw db, sn, dw dc, sn, dw de, sn, iv 1, iv 1, rv b29, dw da, sn, dw de, sn, dw dc, sn] [(.int 1), (.ref b29)])) (fun tz kz => ?_) ?_
      · show sT p e below T48 (mkF m 194 #[iv p0, iv p1, iv p2, iv p3, iv p4, dw da, sn, dw db, sn, dw dc, sn, dw de, sn, iv 1, iv 1, rv b29, dw da, sn, dw de, sn, dw dc, sn] [(.double da)]) tz
        refine XS.dload X48.here hx rfl (hb hby at_194) rfl ?_
        show sT p e below T48 (mkF m 196 #[iv p0, iv p1, iv p2, iv p3, iv p4, dw da, sn, dw db, sn, dw dc, sn, dw de, sn, iv 1, iv 1, rv b29, dw da, sn, dw de, sn, dw dc, sn] [(.double da), (.double da)]) tz
        refine XS.dcmpS X48.here hx rfl (hb hby at_196) rfl (v := (cmpValue (FP.dcmp da da) .l)) rfl ?_
        show sT p e below T48 (mkF m 197 #[iv p0, iv p1, iv p2, iv p3, iv p4, dw da, sn, dw db, sn, dw dc, sn, dw de, sn, iv 1, iv 1, rv b29, dw da, sn, dw de, sn, dw dc, sn] [(.int (cmpValue (FP.dcmp da da) .l))]) tz
        refine XS.ifNo X48.here hx rfl (hb hby at_197) rfl ((if0 _ _).trans (teq (dcmpV_self nn_da .l)).2) ?_
        show sT p e below T48 (mkF m 200 #[iv p0, iv p1, iv p2, iv p3, iv p4, dw da, sn, dw db, sn, dw dc, sn, dw de, sn, iv 1, iv 1, rv b29, dw da, sn, dw de, sn, dw dc, sn] []) tz
        refine XS.aload X48.here hx rfl (hb hby at_200) rfl rfl ?_
        show sT p e below T48 (mkF m 202 #[iv p0, iv p1, iv p2, iv p3, iv p4, dw da, sn, dw db, sn, dw dc, sn, dw de, sn, iv 1, iv 1, rv b29, dw da, sn, dw de, sn, dw dc, sn] [(.ref b29)]) tz
        refine XS.iconst X48.here hx rfl (hb hby at_202) ?_
        exact kz
      obtain ⟨cq49, kq49, q49a, q49b, q49c⟩ := isOf hZ e48 D46.exa
      obtain ⟨_, _, ⟨T49, L49, k49, n49⟩, -, X49, ⟨Lc49, hQ49, l49, y49, z49⟩, st49⟩ := X48.virtualBack hx (y := (⟨"com/example/vows_to_moves/vowstomoves/model/DoubleColumn", "get", "(I)D"⟩ : MethodName)) (z := (⟨"com/example/vows_to_moves/vowstomoves/model/DoubleColumn", "get", "(I)D"⟩ : MethodName)) hown (mvT hZ (own_w hw 131 rfl)) (mvT hZ (own_w hw 132 rfl)) (notFace_of_selects (args := #[]) (mvT hZ (own_w hw 134 rfl))) (mvT hZ (own_w hw 134 rfl)) (mvT hZ (own_w hw 133 rfl)) (by decide) (backOf (W := 0) (rm211 l Z a0 hw [] b29 (3 : Int32) da de dc (1 + 1 + 1 + 1) T46.heap n0 Oq46 D46 (by decide)) hZ (own_w hw 135 rfl) (own_w hw 2 rfl) (by decide) (by decide)) q49a q49c (g := (mkF m 203 #[iv p0, iv p1, iv p2, iv p3, iv p4, dw da, sn, dw db, sn, dw dc, sn, dw de, sn, iv 1, iv 1, rv b29, dw da, sn, dw de, sn, dw dc, sn] [(.int 1), (.ref b29)])) rfl (by rw [hml]; rfl) (Steps.refl _) (argsL := [(.int (1 : Int32))]) (rest := []) (lenOf own_pd14 rfl) rfl (by show 2 * 0 + _ ≤ _; exact Nat.le_of_eq rfl) (hb hby at_203) (fun _ _ => ⟨rfl, e48, (by decide : 9 + 0 ≤ _), (by decide : 65603 + 0 ≤ _)⟩)
      dsimp only [Pt.U, Pt.locs, Pt.cells, Pt.slots] at X49 l49 y49 z49 st49 hQ49
      subst l49 y49 z49
      obtain ⟨rfl, Nq49, e49⟩ := hQ49
      have N49 := Fr.app N48 Nq49
      refine own_on (B := T49.setTop (mkF m 206 #[iv p0, iv p1, iv p2, iv p3, iv p4, dw da, sn, dw db, sn, dw dc, sn, dw de, sn, iv 1, iv 1, rv b29, dw da, sn, dw de, sn, dw dc, sn] [(.double de)])) (fun tz kz => st49.trans kz) ?_
      refine own_on (B := T49.setTop (mkF m 215 #[iv p0, iv p1, iv p2, iv p3, iv p4, dw da, sn, dw db, sn, dw dc, sn, dw de, sn, iv 1, iv 1, rv b29, dw da, sn, dw de, sn, dw dc, sn] [(.int 2), (.ref b29)])) (fun tz kz => ?_) ?_
      · show sT p e below T49 (mkF m 206 #[iv p0, iv p1, iv p2, iv p3, iv p4, dw da, sn, dw db, sn, dw dc, sn, dw de, sn, iv 1, iv 1, rv b29, dw da, sn, dw de, sn, dw dc, sn] [(.double de)]) tz
        refine XS.dload X49.here hx rfl (hb hby at_206) rfl ?_
        show sT p e below T49 (mkF m 208 #[iv p0, iv p1, iv p2, iv p3, iv p4, dw da, sn, dw db, sn, dw dc, sn, dw de, sn, iv 1, iv 1, rv b29, dw da, sn, dw de, sn, dw dc, sn] [(.double de), (.double de)]) tz
        refine XS.dcmpS X49.here hx rfl (hb hby at_208) rfl (v := (cmpValue (FP.dcmp de de) .l)) rfl ?_
        show sT p e below T49 (mkF m 209 #[iv p0, iv p1, iv p2, iv p3, iv p4, dw da, sn, dw db, sn, dw dc, sn, dw de, sn, iv 1, iv 1, rv b29, dw da, sn, dw de, sn, dw dc, sn] [(.int (cmpValue (FP.dcmp de de) .l))]) tz
        refine XS.ifNo X49.here hx rfl (hb hby at_209) rfl ((if0 _ _).trans (teq (dcmpV_self nn_de .l)).2) ?_
        show sT p e below T49 (mkF m 212 #[iv p0, iv p1, iv p2, iv p3, iv p4, dw da, sn, dw db, sn, dw dc, sn, dw de, sn, iv 1, iv 1, rv b29, dw da, sn, dw de, sn, dw dc, sn] []) tz
        refine XS.aload X49.here hx rfl (hb hby at_212) rfl rfl ?_
        show sT p e below T49 (mkF m 214 #[iv p0, iv p1, iv p2, iv p3, iv p4, dw da, sn, dw db, sn, dw dc, sn, dw de, sn, iv 1, iv 1, rv b29, dw da, sn, dw de, sn, dw dc, sn] [(.ref b29)]) tz
        refine XS.iconst X49.here hx rfl (hb hby at_214) ?_
        exact kz
      obtain ⟨cq50, kq50, q50a, q50b, q50c⟩ := isOf hZ e49 D46.exa
      obtain ⟨_, _, ⟨T50, L50, k50, n50⟩, -, X50, ⟨Lc50, hQ50, l50, y50, z50⟩, st50⟩ := X49.virtualBack hx (y := (⟨"com/example/vows_to_moves/vowstomoves/model/DoubleColumn", "get", "(I)D"⟩ : MethodName)) (z := (⟨"com/example/vows_to_moves/vowstomoves/model/DoubleColumn", "get", "(I)D"⟩ : MethodName)) hown (mvT hZ (own_w hw 131 rfl)) (mvT hZ (own_w hw 132 rfl)) (notFace_of_selects (args := #[]) (mvT hZ (own_w hw 134 rfl))) (mvT hZ (own_w hw 134 rfl)) (mvT hZ (own_w hw 133 rfl)) (by decide) (backOf (W := 0) (rm212 l Z a0 hw [] b29 (3 : Int32) da de dc (1 + 1 + 1 + 1) T46.heap n0 Oq46 D46 (by decide)) hZ (own_w hw 135 rfl) (own_w hw 2 rfl) (by decide) (by decide)) q50a q50c (g := (mkF m 215 #[iv p0, iv p1, iv p2, iv p3, iv p4, dw da, sn, dw db, sn, dw dc, sn, dw de, sn, iv 1, iv 1, rv b29, dw da, sn, dw de, sn, dw dc, sn] [(.int 2), (.ref b29)])) rfl (by rw [hml]; rfl) (Steps.refl _) (argsL := [(.int (2 : Int32))]) (rest := []) (lenOf own_pd14 rfl) rfl (by show 2 * 0 + _ ≤ _; exact Nat.le_of_eq rfl) (hb hby at_215) (fun _ _ => ⟨rfl, e49, (by decide : 9 + 0 ≤ _), (by decide : 65603 + 0 ≤ _)⟩)
      dsimp only [Pt.U, Pt.locs, Pt.cells, Pt.slots] at X50 l50 y50 z50 st50 hQ50
      subst l50 y50 z50
      obtain ⟨rfl, Nq50, e50⟩ := hQ50
      have N50 := Fr.app N49 Nq50
      refine own_on (B := T50.setTop (mkF m 218 #[iv p0, iv p1, iv p2, iv p3, iv p4, dw da, sn, dw db, sn, dw dc, sn, dw de, sn, iv 1, iv 1, rv b29, dw da, sn, dw de, sn, dw dc, sn] [(.double dc)])) (fun tz kz => st50.trans kz) ?_
      refine own_on (B := T50.setTop (mkF m 229 #[iv p0, iv p1, iv p2, iv p3, iv p4, dw da, sn, dw db, sn, dw dc, sn, dw de, sn, iv 1, iv 1, rv b29, dw da, sn, dw de, sn, dw dc, sn] [(.int 1)])) (fun tz kz => ?_) ?_
      · show sT p e below T50 (mkF m 218 #[iv p0, iv p1, iv p2, iv p3, iv p4, dw da, sn, dw db, sn, dw dc, sn, dw de, sn, iv 1, iv 1, rv b29, dw da, sn, dw de, sn, dw dc, sn] [(.double dc)]) tz
        refine XS.dload X50.here hx rfl (hb hby at_218) rfl ?_
        show sT p e below T50 (mkF m 220 #[iv p0, iv p1, iv p2, iv p3, iv p4, dw da, sn, dw db, sn, dw dc, sn, dw de, sn, iv 1, iv 1, rv b29, dw da, sn, dw de, sn, dw dc, sn] [(.double dc), (.double dc)]) tz
        refine XS.dcmpS X50.here hx rfl (hb hby at_220) rfl (v := (cmpValue (FP.dcmp dc dc) .l)) rfl ?_
        show sT p e below T50 (mkF m 221 #[iv p0, iv p1, iv p2, iv p3, iv p4, dw da, sn, dw db, sn, dw dc, sn, dw de, sn, iv 1, iv 1, rv b29, dw da, sn, dw de, sn, dw dc, sn] [(.int (cmpValue (FP.dcmp dc dc) .l))]) tz
        refine XS.ifNo X50.here hx rfl (hb hby at_221) rfl ((if0 _ _).trans (teq (dcmpV_self nn_dc .l)).2) ?_
        show sT p e below T50 (mkF m 224 #[iv p0, iv p1, iv p2, iv p3, iv p4, dw da, sn, dw db, sn, dw dc, sn, dw de, sn, iv 1, iv 1, rv b29, dw da, sn, dw de, sn, dw dc, sn] []) tz
        refine XS.iconst X50.here hx rfl (hb hby at_224) ?_
        show sT p e below T50 (mkF m 225 #[iv p0, iv p1, iv p2, iv p3, iv p4, dw da, sn, dw db, sn, dw dc, sn, dw de, sn, iv 1, iv 1, rv b29, dw da, sn, dw de, sn, dw dc, sn] [(.int 1)]) tz
        refine XS.goto X50.here hx rfl (pc0 := 225) (pc' := 229) rfl (hb hby at_225) (by decide) (by decide) ?_
        exact kz
      obtain ⟨fs, hr, hrun, hended, hW, hsame⟩ := X50.leave (v := some (.int (1 : Int32))) (fun h => by rw [Bd.returns] at h; cases h)
      refine own_of ⟨_, _, ?_, hrun, hended, _, _, rfl, ?_, ⟨_, rfl⟩, hW, hsame.mono (by decide) (by decide)⟩
      · show sT p e below T50 (mkF m 229 #[iv p0, iv p1, iv p2, iv p3, iv p4, dw da, sn, dw db, sn, dw dc, sn, dw de, sn, iv 1, iv 1, rv b29, dw da, sn, dw de, sn, dw dc, sn] [(.int 1)]) _
        exact own_retN X50 hx (t := .boolean) Bd.returns (by simp) (by first | rfl | (split <;> first | rfl | (split <;> first | rfl | (split <;> rfl)))) (hb hby at_229) hr
      · show Q0 Z p0 p1 p2 p3 p4 h0 n0 _ T50.heap _
        rw [e50]
        exact ⟨rfl, N50⟩
    · refine own_on (B := T36.setTop (mkF m 117 #[iv p0, iv p1, iv p2, iv p3, iv p4, dw da, sn, dw db, sn, dw dc, sn, dw de, sn, iv 2, iv 1, rv b29, un, un, un, un, un, un] [(.double de), (.int 2), (.ref b29)])) (fun tz kz => ?_) ?_
      · show sT p e below T36 (mkF m 106 #[iv p0, iv p1, iv p2, iv p3, iv p4, dw da, sn, dw db, sn, dw dc, sn, dw de, sn, iv 2, iv 1, rv b29, un, un, un, un, un, un] []) tz
        refine XS.iload X36.here hx rfl (hb hby at_106) rfl ?_
        show sT p e below T36 (mkF m 108 #[iv p0, iv p1, iv p2, iv p3, iv p4, dw da, sn, dw db, sn, dw dc, sn, dw de, sn, iv 2, iv 1, rv b29, un, un, un, un, un, un] [(.int 1)]) tz
        refine XS.ifNo X36.here hx rfl (hb hby at_108) rfl ((if0 _ _).trans (feq (by decide : ¬ ((1 : Int32) = (0 : Int32)))).1) ?_
        show sT p e below T36 (mkF m 111 #[iv p0, iv p1, iv p2, iv p3, iv p4, dw da, sn, dw db, sn, dw dc, sn, dw de, sn, iv 2, iv 1, rv b29, un, un, un, un, un, un] []) tz
        refine XS.aload X36.here hx rfl (hb hby at_111) rfl rfl ?_
        show sT p e below T36 (mkF m 113 #[iv p0, iv p1, iv p2, iv p3, iv p4, dw da, sn, dw db, sn, dw dc, sn, dw de, sn, iv 2, iv 1, rv b29, un, un, un, un, un, un] [(.ref b29)]) tz
        refine XS.iload X36.here hx rfl (hb hby at_113) rfl ?_
        show sT p e below T36 (mkF m 115 #[iv p0, iv p1, iv p2, iv p3, iv p4, dw da, sn, dw db, sn, dw dc, sn, dw de, sn, iv 2, iv 1, rv b29, un, un, un, un, un, un] [(.int 2), (.ref b29)]) tz
        refine XS.dload X36.here hx rfl (hb hby at_115) rfl ?_
        exact kz
      obtain ⟨cq51, kq51, q51a, q51b, q51c⟩ := isOf hZ rfl D36.exa
      obtain ⟨_, _, ⟨T51, L51, k51, n51⟩, -, X51, ⟨Lc51, hQ51, l51, y51, z51⟩, st51⟩ := X36.virtualBack hx (y := (⟨"com/example/vows_to_moves/vowstomoves/model/DoubleColumn", "set", "(ID)V"⟩ : MethodName)) (z := (⟨"com/example/vows_to_moves/vowstomoves/model/DoubleColumn", "set", "(ID)V"⟩ : MethodName)) hown (mvT hZ (own_w hw 141 rfl)) (mvT hZ (own_w hw 74 rfl)) (notFace_of_selects (args := #[]) (mvT hZ (own_w hw 76 rfl))) (mvT hZ (own_w hw 76 rfl)) (mvT hZ (own_w hw 75 rfl)) (by decide) (backOf (W := 0) (rm112 l Z a0 hw [] b29 de (3 : Int32) da db dc (1 + 1 + 1) T36.heap n0 Oq36 D36 (by decide)) hZ (own_w hw 77 rfl) (own_w hw 2 rfl) (by decide) (by decide)) q51a q51c (g := (mkF m 117 #[iv p0, iv p1, iv p2, iv p3, iv p4, dw da, sn, dw db, sn, dw dc, sn, dw de, sn, iv 2, iv 1, rv b29, un, un, un, un, un, un] [(.double de), (.int 2), (.ref b29)])) rfl (by rw [hml]; rfl) (Steps.refl _) (argsL := [(.int (2 : Int32)), (.double de)]) (rest := []) (lenOf own_pd12 rfl) rfl (by show 2 * 0 + _ ≤ _; exact Nat.le_of_eq rfl) (hb hby at_117) (fun _ _ => ⟨rfl, rfl, (by decide : 9 + 0 ≤ _), (by decide : 65603 + 0 ≤ _)⟩)
      dsimp only [Pt.U, Pt.locs, Pt.cells, Pt.slots] at X51 l51 y51 z51 st51 hQ51
      subst l51 y51 z51
      obtain ⟨rfl, Nq51, Oq51, D51⟩ := hQ51
      have N51 := Fr.app N36 Nq51
      refine own_on (B := T51.setTop (mkF m 120 #[iv p0, iv p1, iv p2, iv p3, iv p4, dw da, sn, dw db, sn, dw dc, sn, dw de, sn, iv 2, iv 1, rv b29, un, un, un, un, un, un] [])) (fun tz kz => st51.trans kz) ?_
      refine own_on (B := T51.setTop (mkF m 181 #[iv p0, iv p1, iv p2, iv p3, iv p4, dw da, sn, dw db, sn, dw dc, sn, dw de, sn, iv 2, iv 1, rv b29, dw da, sn, dw db, sn, dw de, sn] [(.ref b29)])) (fun tz kz => ?_) ?_
      · show sT p e below T51 (mkF m 120 #[iv p0, iv p1, iv p2, iv p3, iv p4, dw da, sn, dw db, sn, dw dc, sn, dw de, sn, iv 2, iv 1, rv b29, un, un, un, un, un, un] []) tz
        refine XS.iload X51.here hx rfl (hb hby at_120) rfl ?_
        show sT p e below T51 (mkF m 122 #[iv p0, iv p1, iv p2, iv p3, iv p4, dw da, sn, dw db, sn, dw dc, sn, dw de, sn, iv 2, iv 1, rv b29, un, un, un, un, un, un] [(.int 1)]) tz
        refine XS.ifNo X51.here hx rfl (hb hby at_122) rfl ((if0 _ _).trans (feq (by decide : ¬ ((1 : Int32) = (0 : Int32)))).1) ?_
        show sT p e below T51 (mkF m 125 #[iv p0, iv p1, iv p2, iv p3, iv p4, dw da, sn, dw db, sn, dw dc, sn, dw de, sn, iv 2, iv 1, rv b29, un, un, un, un, un, un] []) tz
        refine XS.iload X51.here hx rfl (hb hby at_125) rfl ?_
        show sT p e below T51 (mkF m 127 #[iv p0, iv p1, iv p2, iv p3, iv p4, dw da, sn, dw db, sn, dw dc, sn, dw de, sn, iv 2, iv 1, rv b29, un, un, un, un, un, un] [(.int 2)]) tz
        refine XS.ifYes X51.here hx rfl (pc0 := 127) (pc' := 135) rfl (hb hby at_127) rfl ((if0 _ _).trans (feq (by decide : ¬ ((2 : Int32) = (0 : Int32)))).2) (by decide) (by decide) ?_
        show sT p e below T51 (mkF m 135 #[iv p0, iv p1, iv p2, iv p3, iv p4, dw da, sn, dw db, sn, dw dc, sn, dw de, sn, iv 2, iv 1, rv b29, un, un, un, un, un, un] []) tz
        refine XS.dload X51.here hx rfl (hb hby at_135) rfl ?_
        show sT p e below T51 (mkF m 137 #[iv p0, iv p1, iv p2, iv p3, iv p4, dw da, sn, dw db, sn, dw dc, sn, dw de, sn, iv 2, iv 1, rv b29, un, un, un, un, un, un] [(.double da)]) tz
        refine XS.dstore X51.here hx rfl (hb hby at_137) rfl (l' := #[iv p0, iv p1, iv p2, iv p3, iv p4, dw da, sn, dw db, sn, dw dc, sn, dw de, sn, iv 2, iv 1, rv b29, dw da, sn, un, un, un, un]) rfl ?_
        show sT p e below T51 (mkF m 139 #[iv p0, iv p1, iv p2, iv p3, iv p4, dw da, sn, dw db, sn, dw dc, sn, dw de, sn, iv 2, iv 1, rv b29, dw da, sn, un, un, un, un] []) tz
        refine XS.iload X51.here hx rfl (hb hby at_139) rfl ?_
        show sT p e below T51 (mkF m 141 #[iv p0, iv p1, iv p2, iv p3, iv p4, dw da, sn, dw db, sn, dw dc, sn, dw de, sn, iv 2, iv 1, rv b29, dw da, sn, un, un, un, un] [(.int 1)]) tz
        refine XS.ifNo X51.here hx rfl (hb hby at_141) rfl ((if0 _ _).trans (feq (by decide : ¬ ((1 : Int32) = (0 : Int32)))).1) ?_
        show sT p e below T51 (mkF m 144 #[iv p0, iv p1, iv p2, iv p3, iv p4, dw da, sn, dw db, sn, dw dc, sn, dw de, sn, iv 2, iv 1, rv b29, dw da, sn, un, un, un, un] []) tz
        refine XS.iload X51.here hx rfl (hb hby at_144) rfl ?_
        show sT p e below T51 (mkF m 146 #[iv p0, iv p1, iv p2, iv p3, iv p4, dw da, sn, dw db, sn, dw dc, sn, dw de, sn, iv 2, iv 1, rv b29, dw da, sn, un, un, un, un] [(.int 2)]) tz
        refine XS.iconst X51.here hx rfl (hb hby at_146) ?_
        show sT p e below T51 (mkF m 147 #[iv p0, iv p1, iv p2, iv p3, iv p4, dw da, sn, dw db, sn, dw dc, sn, dw de, sn, iv 2, iv 1, rv b29, dw da, sn, un, un, un, un] [(.int 1), (.int 2)]) tz
        refine XS.icmpYes X51.here hx rfl (pc0 := 147) (pc' := 155) rfl (hb hby at_147) rfl (feq (by decide : ¬ ((2 : Int32) = (1 : Int32)))).2 (by decide) (by decide) ?_
        show sT p e below T51 (mkF m 155 #[iv p0, iv p1, iv p2, iv p3, iv p4, dw da, sn, dw db, sn, dw dc, sn, dw de, sn, iv 2, iv 1, rv b29, dw da, sn, un, un, un, un] []) tz
        refine XS.dload X51.here hx rfl (hb hby at_155) rfl ?_
        show sT p e below T51 (mkF m 157 #[iv p0, iv p1, iv p2, iv p3, iv p4, dw da, sn, dw db, sn, dw dc, sn, dw de, sn, iv 2, iv 1, rv b29, dw da, sn, un, un, un, un] [(.double db)]) tz
        refine XS.dstore X51.here hx rfl (hb hby at_157) rfl (l' := #[iv p0, iv p1, iv p2, iv p3, iv p4, dw da, sn, dw db, sn, dw dc, sn, dw de, sn, iv 2, iv 1, rv b29, dw da, sn, dw db, sn, un, un]) rfl ?_
        show sT p e below T51 (mkF m 159 #[iv p0, iv p1, iv p2, iv p3, iv p4, dw da, sn, dw db, sn, dw dc, sn, dw de, sn, iv 2, iv 1, rv b29, dw da, sn, dw db, sn, un, un] []) tz
        refine XS.iload X51.here hx rfl (hb hby at_159) rfl ?_
        show sT p e below T51 (mkF m 161 #[iv p0, iv p1, iv p2, iv p3, iv p4, dw da, sn, dw db, sn, dw dc, sn, dw de, sn, iv 2, iv 1, rv b29, dw da, sn, dw db, sn, un, un] [(.int 1)]) tz
        refine XS.ifNo X51.here hx rfl (hb hby at_161) rfl ((if0 _ _).trans (feq (by decide : ¬ ((1 : Int32) = (0 : Int32)))).1) ?_
        show sT p e below T51 (mkF m 164 #[iv p0, iv p1, iv p2, iv p3, iv p4, dw da, sn, dw db, sn, dw dc, sn, dw de, sn, iv 2, iv 1, rv b29, dw da, sn, dw db, sn, un, un] []) tz
        refine XS.iload X51.here hx rfl (hb hby at_164) rfl ?_
        show sT p e below T51 (mkF m 166 #[iv p0, iv p1, iv p2, iv p3, iv p4, dw da, sn, dw db, sn, dw dc, sn, dw de, sn, iv 2, iv 1, rv b29, dw da, sn, dw db, sn, un, un] [(.int 2)]) tz
        refine XS.iconst X51.here hx rfl (hb hby at_166) ?_
        show sT p e below T51 (mkF m 167 #[iv p0, iv p1, iv p2, iv p3, iv p4, dw da, sn, dw db, sn, dw dc, sn, dw de, sn, iv 2, iv 1, rv b29, dw da, sn, dw db, sn, un, un] [(.int 2), (.int 2)]) tz
        refine XS.icmpNo X51.here hx rfl (hb hby at_167) rfl (teq rfl).2 ?_
        show sT p e below T51 (mkF m 170 #[iv p0, iv p1, iv p2, iv p3, iv p4, dw da, sn, dw db, sn, dw dc, sn, dw de, sn, iv 2, iv 1, rv b29, dw da, sn, dw db, sn, un, un] []) tz
        refine XS.dload X51.here hx rfl (hb hby at_170) rfl ?_
        show sT p e below T51 (mkF m 172 #[iv p0, iv p1, iv p2, iv p3, iv p4, dw da, sn, dw db, sn, dw dc, sn, dw de, sn, iv 2, iv 1, rv b29, dw da, sn, dw db, sn, un, un] [(.double de)]) tz
        refine XS.goto X51.here hx rfl (pc0 := 172) (pc' := 177) rfl (hb hby at_172) (by decide) (by decide) ?_
        show sT p e below T51 (mkF m 177 #[iv p0, iv p1, iv p2, iv p3, iv p4, dw da, sn, dw db, sn, dw dc, sn, dw de, sn, iv 2, iv 1, rv b29, dw da, sn, dw db, sn, un, un] [(.double de)]) tz
        refine XS.dstore X51.here hx rfl (hb hby at_177) rfl (l' := #[iv p0, iv p1, iv p2, iv p3, iv p4, dw da, sn, dw db, sn, dw dc, sn, dw de, sn, iv 2, iv 1, rv b29, dw da, sn, dw db, sn, dw de, sn]) rfl ?_
        show sT p e below T51 (mkF m 179 #[iv p0, iv p1, iv p2, iv p3, iv p4, dw da, sn, dw db, sn, dw dc, sn, dw de, sn, iv 2, iv 1, rv b29, dw da, sn, dw db, sn, dw de, sn] []) tz
        refine XS.aload X51.here hx rfl (hb hby at_179) rfl rfl ?_
        exact kz
      obtain ⟨cq52, kq52, q52a, q52b, q52c⟩ := isOf hZ rfl D51.exa
      obtain ⟨_, _, ⟨T52, L52, k52, n52⟩, -, X52, ⟨Lc52, hQ52, l52, y52, z52⟩, st52⟩ := X51.virtualBack hx (y := (⟨"com/example/vows_to_moves/vowstomoves/model/DoubleColumn", "size", "()I"⟩ : MethodName)) (z := (⟨"com/example/vows_to_moves/vowstomoves/model/DoubleColumn", "size", "()I"⟩ : MethodName)) hown (mvT hZ (own_w hw 126 rfl)) (mvT hZ (own_w hw 127 rfl)) (notFace_of_selects (args := #[]) (mvT hZ (own_w hw 129 rfl))) (mvT hZ (own_w hw 129 rfl)) (mvT hZ (own_w hw 128 rfl)) (by decide) (backOf (W := 0) (rm20 l Z a0 hw [] b29 (3 : Int32) T51.heap n0 Oq51 D51.len) hZ (own_w hw 130 rfl) (own_w hw 2 rfl) (by decide) (by decide)) q52a q52c (g := (mkF m 181 #[iv p0, iv p1, iv p2, iv p3, iv p4, dw da, sn, dw db, sn, dw dc, sn, dw de, sn, iv 2, iv 1, rv b29, dw da, sn, dw db, sn, dw de, sn] [(.ref b29)])) rfl (by rw [hml]; rfl) (Steps.refl _) (argsL := []) (rest := []) (lenOf own_pd6 rfl) rfl (by show 2 * 0 + _ ≤ _; exact Nat.le_of_eq rfl) (hb hby at_181) (fun _ _ => ⟨rfl, rfl, (by decide : 9 + 0 ≤ _), (by decide : 65603 + 0 ≤ _)⟩)
      dsimp only [Pt.U, Pt.locs, Pt.cells, Pt.slots] at X52 l52 y52 z52 st52 hQ52
      subst l52 y52 z52
      obtain ⟨rfl, Nq52, e52⟩ := hQ52
      have N52 := Fr.app N51 Nq52
      refine own_on (B := T52.setTop (mkF m 184 #[iv p0, iv p1, iv p2, iv p3, iv p4, dw da, sn, dw db, sn, dw dc, sn, dw de, sn, iv 2, iv 1, rv b29, dw da, sn, dw db, sn, dw de, sn] [(.int 3)])) (fun tz kz => st52.trans kz) ?_
      refine own_on (B := T52.setTop (mkF m 191 #[iv p0, iv p1, iv p2, iv p3, iv p4, dw da, sn, dw db, sn, dw dc, sn, dw de, sn, iv 2, iv 1, rv b29, dw da, sn, dw db, sn, dw de, sn] [(.int 0), (.ref b29)])) (fun tz kz => ?_) ?_
      · show sT p e below T52 (mkF m 184 #[iv p0, iv p1, iv p2, iv p3, iv p4, dw da, sn, dw db, sn, dw dc, sn, dw de, sn, iv 2, iv 1, rv b29, dw da, sn, dw db, sn, dw de, sn] [(.int 3)]) tz
        refine XS.iconst X52.here hx rfl (hb hby at_184) ?_
        show sT p e below T52 (mkF m 185 #[iv p0, iv p1, iv p2, iv p3, iv p4, dw da, sn, dw db, sn, dw dc, sn, dw de, sn, iv 2, iv 1, rv b29, dw da, sn, dw db, sn, dw de, sn] [(.int 3), (.int 3)]) tz
        refine XS.icmpNo X52.here hx rfl (hb hby at_185) rfl (teq rfl).2 ?_
        show sT p e below T52 (mkF m 188 #[iv p0, iv p1, iv p2, iv p3, iv p4, dw da, sn, dw db, sn, dw dc, sn, dw de, sn, iv 2, iv 1, rv b29, dw da, sn, dw db, sn, dw de, sn] []) tz
        refine XS.aload X52.here hx rfl (hb hby at_188) rfl rfl ?_
        show sT p e below T52 (mkF m 190 #[iv p0, iv p1, iv p2, iv p3, iv p4, dw da, sn, dw db, sn, dw dc, sn, dw de, sn, iv 2, iv 1, rv b29, dw da, sn, dw db, sn, dw de, sn] [(.ref b29)]) tz
        refine XS.iconst X52.here hx rfl (hb hby at_190) ?_
        exact kz
      obtain ⟨cq53, kq53, q53a, q53b, q53c⟩ := isOf hZ e52 D51.exa
      obtain ⟨_, _, ⟨T53, L53, k53, n53⟩, -, X53, ⟨Lc53, hQ53, l53, y53, z53⟩, st53⟩ := X52.virtualBack hx (y := (⟨"com/example/vows_to_moves/vowstomoves/model/DoubleColumn", "get", "(I)D"⟩ : MethodName)) (z := (⟨"com/example/vows_to_moves/vowstomoves/model/DoubleColumn", "get", "(I)D"⟩ : MethodName)) hown (mvT hZ (own_w hw 131 rfl)) (mvT hZ (own_w hw 132 rfl)) (notFace_of_selects (args := #[]) (mvT hZ (own_w hw 134 rfl))) (mvT hZ (own_w hw 134 rfl)) (mvT hZ (own_w hw 133 rfl)) (by decide) (backOf (W := 0) (rm210 l Z a0 hw [] b29 (3 : Int32) da db de (1 + 1 + 1 + 1) T51.heap n0 Oq51 D51 (by decide)) hZ (own_w hw 135 rfl) (own_w hw 2 rfl) (by decide) (by decide)) q53a q53c (g := (mkF m 191 #[iv p0, iv p1, iv p2, iv p3, iv p4, dw da, sn, dw db, sn, dw dc, sn, dw de, sn, iv 2, iv 1, rv b29, dw da, sn, dw db, sn, dw de, sn] [(.int 0), (.ref b29)])) rfl (by rw [hml]; rfl) (Steps.refl _) (argsL := [(.int (0 : Int32))]) (rest := []) (lenOf own_pd14 rfl) rfl (by show 2 * 0 + _ ≤ _; exact Nat.le_of_eq rfl) (hb hby at_191) (fun _ _ => ⟨rfl, e52, (by decide : 9 + 0 ≤ _), (by decide : 65603 + 0 ≤ _)⟩)
      dsimp only [Pt.U, Pt.locs, Pt.cells, Pt.slots] at X53 l53 y53 z53 st53 hQ53
      subst l53 y53 z53
      obtain ⟨rfl, Nq53, e53⟩ := hQ53
      have N53 := Fr.app N52 Nq53
      refine own_on (B := T53.setTop (mkF m 194 #[iv p0, iv p1, iv p2, iv p3, iv p4, dw da, sn, dw db, sn, dw dc, sn, dw de, sn, iv 2, iv 1, rv b29, dw da, sn, dw db, sn, dw de, sn] [(.double da)])) (fun tz kz => st53.trans kz) ?_
      refine own_on (B := T53.setTop (mkF m 203 #[iv p0, iv p1, iv p2, iv p3, iv p4, dw da, sn, dw db, sn, dw dc, sn, dw de, sn, iv 2, iv 1, rv b29, dw da, sn, dw db, sn, dw de, sn] [(.int 1), (.ref b29)])) (fun tz kz => ?_) ?_
      · show sT p e below T53 (mkF m 194 #[iv p0, iv p1, iv p2, iv p3, iv p4, dw da, sn, dw db, sn, dw dc, sn, dw de, sn, iv 2, iv 1, rv b29, dw da, sn, dw db, sn, dw de, sn] [(.double da)]) tz
        refine XS.dload X53.here hx rfl (hb hby at_194) rfl ?_
        show sT p e below T53 (mkF m 196 #[iv p0, iv p1, iv p2, iv p3, iv p4, dw da, sn, dw db, sn, dw dc, sn, dw de, sn, iv 2, iv 1, rv b29, dw da, sn, dw db, sn, dw de, sn] [(.double da), (.double da)]) tz
        refine XS.dcmpS X53.here hx rfl (hb hby at_196) rfl (v := (cmpValue (FP.dcmp da da) .l)) rfl ?_
        show sT p e below T53 (mkF m 197 #[iv p0, iv p1, iv p2, iv p3, iv p4, dw da, sn, dw db, sn, dw dc, sn, dw de, sn, iv 2, iv 1, rv b29, dw da, sn, dw db, sn, dw de, sn] [(.int (cmpValue (FP.dcmp da da) .l))]) tz
        refine XS.ifNo X53.here hx rfl (hb hby at_197) rfl ((if0 _ _).trans (teq (dcmpV_self nn_da .l)).2) ?_
        show sT p e below T53 (mkF m 200 #[iv p0, iv p1, iv p2, iv p3, iv p4, dw da, sn, dw db, sn, dw dc, sn, dw de, sn, iv 2, iv 1, rv b29, dw da, sn, dw db, sn, dw de, sn] []) tz
        refine XS.aload X53.here hx rfl (hb hby at_200) rfl rfl ?_
        show sT p e below T53 (mkF m 202 #[iv p0, iv p1, iv p2, iv p3, iv p4, dw da, sn, dw db, sn, dw dc, sn, dw de, sn, iv 2, iv 1, rv b29, dw da, sn, dw db, sn, dw de, sn] [(.ref b29)]) tz
        refine XS.iconst X53.here hx rfl (hb hby at_202) ?_
        exact kz
      obtain ⟨cq54, kq54, q54a, q54b, q54c⟩ := isOf hZ e53 D51.exa
      obtain ⟨_, _, ⟨T54, L54, k54, n54⟩, -, X54, ⟨Lc54, hQ54, l54, y54, z54⟩, st54⟩ := X53.virtualBack hx (y := (⟨"com/example/vows_to_moves/vowstomoves/model/DoubleColumn", "get", "(I)D"⟩ : MethodName)) (z := (⟨"com/example/vows_to_moves/vowstomoves/model/DoubleColumn", "get", "(I)D"⟩ : MethodName)) hown (mvT hZ (own_w hw 131 rfl)) (mvT hZ (own_w hw 132 rfl)) (notFace_of_selects (args := #[]) (mvT hZ (own_w hw 134 rfl))) (mvT hZ (own_w hw 134 rfl)) (mvT hZ (own_w hw 133 rfl)) (by decide) (backOf (W := 0) (rm211 l Z a0 hw [] b29 (3 : Int32) da db de (1 + 1 + 1 + 1) T51.heap n0 Oq51 D51 (by decide)) hZ (own_w hw 135 rfl) (own_w hw 2 rfl) (by decide) (by decide)) q54a q54c (g := (mkF m 203 #[iv p0, iv p1, iv p2, iv p3, iv p4, dw da, sn, dw db, sn, dw dc, sn, dw de, sn, iv 2, iv 1, rv b29, dw da, sn, dw db, sn, dw de, sn] [(.int 1), (.ref b29)])) rfl (by rw [hml]; rfl) (Steps.refl _) (argsL := [(.int (1 : Int32))]) (rest := []) (lenOf own_pd14 rfl) rfl (by show 2 * 0 + _ ≤ _; exact Nat.le_of_eq rfl) (hb hby at_203) (fun _ _ => ⟨rfl, e53, (by decide : 9 + 0 ≤ _), (by decide : 65603 + 0 ≤ _)⟩)
      dsimp only [Pt.U, Pt.locs, Pt.cells, Pt.slots] at X54 l54 y54 z54 st54 hQ54
      subst l54 y54 z54
      obtain ⟨rfl, Nq54, e54⟩ := hQ54
      have N54 := Fr.app N53 Nq54
      refine own_on (B := T54.setTop (mkF m 206 #[iv p0, iv p1, iv p2, iv p3, iv p4, dw da, sn, dw db, sn, dw dc, sn, dw de, sn, iv 2, iv 1, rv b29, dw da, sn, dw db, sn, dw de, sn] [(.double db)])) (fun tz kz => st54.trans kz) ?_
      refine own_on (B := T54.setTop (mkF m 215 #[iv p0, iv p1, iv p2, iv p3, iv p4, dw da, sn, dw db, sn, dw dc, sn, dw de, sn, iv 2, iv 1, rv b29, dw da, sn, dw db, sn, dw de, sn] [(.int 2), (.ref b29)])) (fun tz kz => ?_) ?_
      · show sT p e below T54 (mkF m 206 #[iv p0, iv p1, iv p2, iv p3, iv p4, dw da, sn, dw db, sn, dw dc, sn, dw de, sn, iv 2, iv 1, rv b29, dw da, sn, dw db, sn, dw de, sn] [(.double db)]) tz
        refine XS.dload X54.here hx rfl (hb hby at_206) rfl ?_
        show sT p e below T54 (mkF m 208 #[iv p0, iv p1, iv p2, iv p3, iv p4, dw da, sn, dw db, sn, dw dc, sn, dw de, sn, iv 2, iv 1, rv b29, dw da, sn, dw db, sn, dw de, sn] [(.double db), (.double db)]) tz
        refine XS.dcmpS X54.here hx rfl (hb hby at_208) rfl (v := (cmpValue (FP.dcmp db db) .l)) rfl ?_
        show sT p e below T54 (mkF m 209 #[iv p0, iv p1, iv p2, iv p3, iv p4, dw da, sn, dw db, sn, dw dc, sn, dw de, sn, iv 2, iv 1, rv b29, dw da, sn, dw db, sn, dw de, sn] [(.int (cmpValue (FP.dcmp db db) .l))]) tz
        refine XS.ifNo X54.here hx rfl (hb hby at_209) rfl ((if0 _ _).trans (teq (dcmpV_self nn_db .l)).2) ?_
        show sT p e below T54 (mkF m 212 #[iv p0, iv p1, iv p2, iv p3, iv p4, dw da, sn, dw db, sn, dw dc, sn, dw de, sn, iv 2, iv 1, rv b29, dw da, sn, dw db, sn, dw de, sn] []) tz
        refine XS.aload X54.here hx rfl (hb hby at_212) rfl rfl ?_
        show sT p e below T54 (mkF m 214 #[iv p0, iv p1, iv p2, iv p3, iv p4, dw da, sn, dw db, sn, dw dc, sn, dw de, sn, iv 2, iv 1, rv b29, dw da, sn, dw db, sn, dw de, sn] [(.ref b29)]) tz
        refine XS.iconst X54.here hx rfl (hb hby at_214) ?_
        exact kz
      obtain ⟨cq55, kq55, q55a, q55b, q55c⟩ := isOf hZ e54 D51.exa
      obtain ⟨_, _, ⟨T55, L55, k55, n55⟩, -, X55, ⟨Lc55, hQ55, l55, y55, z55⟩, st55⟩ := X54.virtualBack hx (y := (⟨"com/example/vows_to_moves/vowstomoves/model/DoubleColumn", "get", "(I)D"⟩ : MethodName)) (z := (⟨"com/example/vows_to_moves/vowstomoves/model/DoubleColumn", "get", "(I)D"⟩ : MethodName)) hown (mvT hZ (own_w hw 131 rfl)) (mvT hZ (own_w hw 132 rfl)) (notFace_of_selects (args := #[]) (mvT hZ (own_w hw 134 rfl))) (mvT hZ (own_w hw 134 rfl)) (mvT hZ (own_w hw 133 rfl)) (by decide) (backOf (W := 0) (rm212 l Z a0 hw [] b29 (3 : Int32) da db de (1 + 1 + 1 + 1) T51.heap n0 Oq51 D51 (by decide)) hZ (own_w hw 135 rfl) (own_w hw 2 rfl) (by decide) (by decide)) q55a q55c (g := (mkF m 215 #[iv p0, iv p1, iv p2, iv p3, iv p4, dw da, sn, dw db, sn, dw dc, sn, dw de, sn, iv 2, iv 1, rv b29, dw da, sn, dw db, sn, dw de, sn] [(.int 2), (.ref b29)])) rfl (by rw [hml]; rfl) (Steps.refl _) (argsL := [(.int (2 : Int32))]) (rest := []) (lenOf own_pd14 rfl) rfl (by show 2 * 0 + _ ≤ _; exact Nat.le_of_eq rfl) (hb hby at_215) (fun _ _ => ⟨rfl, e54, (by decide : 9 + 0 ≤ _), (by decide : 65603 + 0 ≤ _)⟩)
      dsimp only [Pt.U, Pt.locs, Pt.cells, Pt.slots] at X55 l55 y55 z55 st55 hQ55
      subst l55 y55 z55
      obtain ⟨rfl, Nq55, e55⟩ := hQ55
      have N55 := Fr.app N54 Nq55
      refine own_on (B := T55.setTop (mkF m 218 #[iv p0, iv p1, iv p2, iv p3, iv p4, dw da, sn, dw db, sn, dw dc, sn, dw de, sn, iv 2, iv 1, rv b29, dw da, sn, dw db, sn, dw de, sn] [(.double de)])) (fun tz kz => st55.trans kz) ?_
      refine own_on (B := T55.setTop (mkF m 229 #[iv p0, iv p1, iv p2, iv p3, iv p4, dw da, sn, dw db, sn, dw dc, sn, dw de, sn, iv 2, iv 1, rv b29, dw da, sn, dw db, sn, dw de, sn] [(.int 1)])) (fun tz kz => ?_) ?_
      · show sT p e below T55 (mkF m 218 #[iv p0, iv p1, iv p2, iv p3, iv p4, dw da, sn, dw db, sn, dw dc, sn, dw de, sn, iv 2, iv 1, rv b29, dw da, sn, dw db, sn, dw de, sn] [(.double de)]) tz
        refine XS.dload X55.here hx rfl (hb hby at_218) rfl ?_
        show sT p e below T55 (mkF m 220 #[iv p0, iv p1, iv p2, iv p3, iv p4, dw da, sn, dw db, sn, dw dc, sn, dw de, sn, iv 2, iv 1, rv b29, dw da, sn, dw db, sn, dw de, sn] [(.double de), (.double de)]) tz
        refine XS.dcmpS X55.here hx rfl (hb hby at_220) rfl (v := (cmpValue (FP.dcmp de de) .l)) rfl ?_
        show sT p e below T55 (mkF m 221 #[iv p0, iv p1, iv p2, iv p3, iv p4, dw da, sn, dw db, sn, dw dc, sn, dw de, sn, iv 2, iv 1, rv b29, dw da, sn, dw db, sn, dw de, sn] [(.int (cmpValue (FP.dcmp de de) .l))]) tz
        refine XS.ifNo X55.here hx rfl (hb hby at_221) rfl ((if0 _ _).trans (teq (dcmpV_self nn_de .l)).2) ?_
        show sT p e below T55 (mkF m 224 #[iv p0, iv p1, iv p2, iv p3, iv p4, dw da, sn, dw db, sn, dw dc, sn, dw de, sn, iv 2, iv 1, rv b29, dw da, sn, dw db, sn, dw de, sn] []) tz
        refine XS.iconst X55.here hx rfl (hb hby at_224) ?_
        show sT p e below T55 (mkF m 225 #[iv p0, iv p1, iv p2, iv p3, iv p4, dw da, sn, dw db, sn, dw dc, sn, dw de, sn, iv 2, iv 1, rv b29, dw da, sn, dw db, sn, dw de, sn] [(.int 1)]) tz
        refine XS.goto X55.here hx rfl (pc0 := 225) (pc' := 229) rfl (hb hby at_225) (by decide) (by decide) ?_
        exact kz
      obtain ⟨fs, hr, hrun, hended, hW, hsame⟩ := X55.leave (v := some (.int (1 : Int32))) (fun h => by rw [Bd.returns] at h; cases h)
      refine own_of ⟨_, _, ?_, hrun, hended, _, _, rfl, ?_, ⟨_, rfl⟩, hW, hsame.mono (by decide) (by decide)⟩
      · show sT p e below T55 (mkF m 229 #[iv p0, iv p1, iv p2, iv p3, iv p4, dw da, sn, dw db, sn, dw dc, sn, dw de, sn, iv 2, iv 1, rv b29, dw da, sn, dw db, sn, dw de, sn] [(.int 1)]) _
        exact own_retN X55 hx (t := .boolean) Bd.returns (by simp) (by first | rfl | (split <;> first | rfl | (split <;> first | rfl | (split <;> rfl)))) (hb hby at_229) hr
      · show Q0 Z p0 p1 p2 p3 p4 h0 n0 _ T55.heap _
        rw [e55]
        exact ⟨rfl, N55⟩
set_option maxRecDepth 65536 in
set_option maxHeartbeats 40000000 in
theorem comes_1 {Post : Tables → Env → Array Value → State → Outcome → State → Prop} (hpost : ∀ tb e args s v u, (limb_1_1.after args s (.returned v) u = true ∧ limb_1_2.after args s (.returned v) u = true ∧ True) → FrameEnd s (.returned v) u (Jvm.fieldLocs frame_1_writes args s ++ Jvm.arrayLocs frame_1_arrays args s ++ Jvm.staticLocs frame_1_statics s) 32 131328 → Post tb e args s (.returned v) u) :
    ArmFor flags0 classFile x code maxLocals ret World_1 tables_1 room_1 Calls_1 rest_1 Pre_1 Post := by
  intro l hfl _ _ p e ha hc hk s m args below hf hA hF happ hP
  obtain ⟨hcalls, hrest, hpre⟩ := hP
  obtain ⟨-, -, -, hnamed, -, -, -, hat⟩ := (Spec.applies_iff hf).mp happ
  obtain ⟨hg, hn⟩ := and_e (Cond.before_iff.mp (show (Jvm.Cond.and given_1 narrow_1).before args s = true from hpre))
  obtain ⟨hcnt, hg0⟩ := and_e hg
  obtain ⟨ha0, hg1⟩ := and_e hg0
  obtain ⟨ha1, hg2⟩ := and_e hg1
  obtain ⟨ha2, hg3⟩ := and_e hg2
  obtain ⟨ha3, hg4⟩ := and_e hg3
  have ha4 := hg4
  obtain ⟨w0, w1, w2, w3, w4, rfl⟩ : ∃ w0 w1 w2 w3 w4 : Value, args = #[w0, w1, w2, w3, w4] := by
    have hs : args.size = 5 := by simpa [Cond.value, given_1] using hcnt
    obtain ⟨L⟩ := args
    match L, hs with
    | [w0, w1, w2, w3, w4], _ => exact ⟨w0, w1, w2, w3, w4, rfl⟩
  have hw := fun d (hd : d ∈ tables_1) => atoms_spec (ws := Jvm.Cond.code x code maxLocals ret :: tables_1) hat d (List.mem_cons_of_mem _ hd)
  have hfit : Fit s := fun {y c} hc i hi => by
    obtain ⟨ha, rfl⟩ := Array.getElem?_eq_some_iff.mp hc
    have q := List.all_eq_true.mp ((Array.all_eq_true_iff_forall_mem.mp hF) _ (Array.getElem_mem ha)) i (List.mem_range.mpr hi)
    simpa [Array.getElem?_eq_getElem hi] using q
  obtain ⟨i0, ei0⟩ := is_v ha0
  obtain rfl : w0 = (.int i0) := Option.some.inj ei0
  obtain ⟨i1, ei1⟩ := is_v ha1
  obtain rfl : w1 = (.int i1) := Option.some.inj ei1
  obtain ⟨i2, ei2⟩ := is_v ha2
  obtain rfl : w2 = (.int i2) := Option.some.inj ei2
  obtain ⟨i3, ei3⟩ := is_v ha3
  obtain rfl : w3 = (.int i3) := Option.some.inj ei3
  obtain ⟨i4, ei4⟩ := is_v ha4
  obtain rfl : w4 = (.int i4) := Option.some.inj ei4
  obtain ⟨n, o, h1, h2, h3, _, L, rfl, ⟨rfl, N⟩, hq⟩ := rm0 l s _ hw tables_1 i0 i1 i2 i3 i4 s.heap s.heap.size (Old.start s) p e ha hc hk s m _ below hf ((Spec.applies_iff_loose hf).mp happ).1 ⟨rfl, State.Warmed39.refl s, rfl⟩ trivial
  refine ⟨n, _, h1, h2, h3, hpost _ _ _ _ _ _ ⟨Cond.after_iff.mpr rfl, Cond.after_iff.mpr (eq_i res_at (Term.int_eval (1)) rfl), trivial⟩ ⟨hq.1, hq.2.1, (hq.2.2.sift fun y hy => Or.inr (N y hy)).mono (by decide) (by decide)⟩⟩
theorem main_1_1 : Claimed_1_1 := comes_1 fun _ _ _ _ _ _ h hF => ⟨h.1, hF⟩
theorem main_1_2 : Claimed_1_2 := comes_1 fun _ _ _ _ _ _ h hF => ⟨h.2.1, hF⟩
end Jvm.Pilot.@@N@@
namespace Jvm.Pilot.@@N@@
open Jvm Jvm.ClassFile Sem Op Lib Jvm.Free Jvm.Stand Jvm.Pilot.@@N@@.Jvm.D
/-! MADE BY PROGRAM (witnessworld.py) out of the Statement's table words and the real class files: 27 classes; the members and pool entries that the words name. The judged class is class 1, her method 1. -/
namespace start1
open Jvm.ClassFile
def u (s : String) : CpInfo := .utf8 (stringToUtf16 s)
/-- a pool by its gaps: so many unusable entries, then the entry; so many at the end -/
def gap : Nat → List CpInfo → List CpInfo
  | 0, r => r
  | n + 1, r => .unusable :: gap n r
def poolList (es : List (Nat × CpInfo)) (last : Nat) : List CpInfo := es.foldr (fun e r => gap e.1 (e.2 :: r)) (gap last [])
def pool (es : List (Nat × CpInfo)) (last : Nat) : Array CpInfo := ⟨poolList es last⟩
def fileOf (pool : Array CpInfo) (this : Nat) (attrs : Array Attribute := #[]) (ms : Array MethodInfo := #[]) (fl : Nat := 33) (sup : Nat := 0) (ifs : Array Nat := #[]) (fds : Array FieldInfo := #[]) : ClassFile where
  minorVersion := 0
  majorVersion := 65
  constantPool := pool
  accessFlags := fl
  thisClass := this
  superClass := sup
  interfaces := ifs
  fields := fds
  methods := ms
  attributes := attrs
def plain (name : String) (sup : Option ClassId) : Class where
  name := name
  kind := .ordinary
  loader := none
  accessFlags := 33
  super := sup
  interfaces := #[]
  cf := none
  fields := #[]
  methods := #[]
  instanceTypes := #[]
  staticTypes := #[]
  resolved := #[]
  callSites := []
  init := .initialized
  statics := none
  mirror := none

def pool0 : Array CpInfo := pool [(5, u "<init>"), (0, u "()V"), (1, .class_ 10), (1, u "java/lang/Object")] 113

def k0c0 : Code := { maxStack := 0, maxLocals := 1, code := object_method_1_code, exceptionTable := #[], attributes := #[] }
def k0m0 : Method := { name := "<init>", desc := "()V", sig := { parameters := [], returnType := none }, accessFlags := 1, code := some k0c0 }
/-- java/lang/Object -/
def k0 : Class := { plain "java/lang/Object" none with
  accessFlags := 33
  interfaces := #[]
  cf := some (fileOf pool0 8 #[] #[{ accessFlags := 1, nameIndex := 5, descriptorIndex := 6, attributes := #[] }] 33 0 #[] #[])
  fields := #[]
  methods := #[k0m0]
  instanceTypes := #[]
  staticTypes := #[]
  resolved := Array.replicate 124 none
  statics := none }

def pool1 : Array CpInfo := pool [(2, .class_ 4), (0, .nameAndType 5 6), (0, u "java/lang/Object"), (0, u "<init>"), (0, u "()V"), (0, .class_ 8), (0, u "com/example/vows_to_moves/vowstomoves/model/DoubleColumn"), (0, .methodref 7 3), (0, .methodref 7 11), (0, .nameAndType 12 13), (0, u "add"), (0, u "(D)V"), (0, .methodref 7 15), (0, .nameAndType 16 17), (0, u "set"), (0, u "(ID)V"), (0, .methodref 7 19), (0, .nameAndType 20 21), (0, u "size"), (0, u "()I"), (0, .methodref 7 23), (0, .nameAndType 24 25), (0, u "get"), (0, u "(I)D"), (0, .class_ 27), (0, u "com/example/vows_to_moves/vowstomoves/model/DoubleColumnGetPinLaw"), (2, u "law"), (0, u "(IIIII)Z")] 3

def k1m0 : Method := { name := "<init>", desc := "()V", sig := { parameters := [], returnType := none }, accessFlags := 1, code := none }
def k1c1 : Code := { maxStack := 4, maxLocals := 22, code := code, exceptionTable := #[], attributes := #[] }
def k1m1 : Method := { name := "law", desc := "(IIIII)Z", sig := { parameters := [.int, .int, .int, .int, .int], returnType := some .boolean }, accessFlags := 9, code := some k1c1 }
/-- com/example/vows_to_moves/vowstomoves/model/DoubleColumnGetPinLaw -/
def k1 : Class := { plain "com/example/vows_to_moves/vowstomoves/model/DoubleColumnGetPinLaw" (some 0) with
  accessFlags := 49
  interfaces := #[]
  cf := some (fileOf pool1 26 #[] #[{ accessFlags := 1, nameIndex := 5, descriptorIndex := 6, attributes := #[] }, { accessFlags := 9, nameIndex := 30, descriptorIndex := 31, attributes := #[] }] 49 2 #[] #[])
  fields := #[]
  methods := #[k1m0, k1m1]
  instanceTypes := #[]
  staticTypes := #[]
  resolved := Array.replicate 35 none
  statics := none }

def pool2 : Array CpInfo := pool [(3, .methodref 4 5), (0, .class_ 6), (0, .nameAndType 7 8), (0, u "java/lang/Object"), (0, u "<init>"), (0, u "()V"), (0, .class_ 10), (0, u "com/example/vows_to_moves/vowstomoves/model/LongNumbering"), (0, .methodref 9 12), (0, .nameAndType 7 13), (0, u "(I)V"), (0, .fieldref 15 16), (0, .class_ 17), (0, .nameAndType 18 19), (0, u "com/example/vows_to_moves/vowstomoves/model/DoubleColumn"), (0, u "distinct"), (0, u "Lcom/example/vows_to_moves/vowstomoves/model/LongNumbering;"), (0, .fieldref 15 21), (0, .nameAndType 22 23), (0, u "values"), (0, u "[D"), (0, .class_ 25), (0, u "[C"), (0, .fieldref 15 27), (0, .nameAndType 28 29), (0, u "codes"), (0, u "[[C"), (0, .fieldref 15 31), (0, .nameAndType 32 33), (0, u "size"), (0, u "I"), (2, .fieldref 15 37), (0, .nameAndType 38 39), (0, u "plain"), (0, u "[[D"), (0, .methodref 15 41), (0, .nameAndType 42 43), (0, u "code"), (0, u "(D)I"), (10, .integer 32768), (1, .methodref 15 57), (0, .nameAndType 58 59), (0, u "set"), (0, u "(ID)V"), (2, u "get"), (0, u "(I)D"), (0, .methodref 65 66), (0, .class_ 67), (0, .nameAndType 68 69), (0, u "java/lang/Double"), (0, u "doubleToRawLongBits"), (0, u "(D)J"), (0, .methodref 9 71), (0, .nameAndType 72 73), (0, u "count"), (0, u "()I"), (0, .methodref 9 75), (0, .nameAndType 76 77), (0, u "number"), (0, u "(J)I"), (0, .integer 65536), (4, u "MOST_CODES"), (4, u "add"), (0, u "(D)V")] 4

def k2c0 : Code := { maxStack := 4, maxLocals := 1, code := prog_72_method_1_code, exceptionTable := #[], attributes := #[] }
def k2m0 : Method := { name := "<init>", desc := "()V", sig := { parameters := [], returnType := none }, accessFlags := 0, code := some k2c0 }
def k2c1 : Code := { maxStack := 1, maxLocals := 1, code := prog_72_method_2_code, exceptionTable := #[], attributes := #[] }
def k2m1 : Method := { name := "size", desc := "()I", sig := { parameters := [], returnType := some .int }, accessFlags := 0, code := some k2c1 }
def k2c2 : Code := { maxStack := 4, maxLocals := 3, code := prog_72_method_3_code, exceptionTable := #[], attributes := #[] }
def k2m2 : Method := { name := "get", desc := "(I)D", sig := { parameters := [.int], returnType := some .double }, accessFlags := 0, code := some k2c2 }
def k2c3 : Code := { maxStack := 4, maxLocals := 6, code := prog_72_method_4_code, exceptionTable := #[], attributes := #[] }
def k2m3 : Method := { name := "set", desc := "(ID)V", sig := { parameters := [.int, .double], returnType := none }, accessFlags := 0, code := some k2c3 }
def k2c4 : Code := { maxStack := 4, maxLocals := 4, code := prog_72_method_5_code, exceptionTable := #[], attributes := #[] }
def k2m4 : Method := { name := "add", desc := "(D)V", sig := { parameters := [.double], returnType := none }, accessFlags := 0, code := some k2c4 }
def k2c5 : Code := { maxStack := 4, maxLocals := 7, code := prog_72_method_7_code, exceptionTable := #[], attributes := #[] }
def k2m5 : Method := { name := "code", desc := "(D)I", sig := { parameters := [.double], returnType := some .int }, accessFlags := 2, code := some k2c5 }
/-- com/example/vows_to_moves/vowstomoves/model/DoubleColumn -/
def k2 : Class := { plain "com/example/vows_to_moves/vowstomoves/model/DoubleColumn" (some 0) with
  accessFlags := 48
  interfaces := #[]
  cf := some (fileOf pool2 15 #[] #[{ accessFlags := 0, nameIndex := 7, descriptorIndex := 8, attributes := #[] }, { accessFlags := 0, nameIndex := 32, descriptorIndex := 73, attributes := #[] }, { accessFlags := 0, nameIndex := 62, descriptorIndex := 63, attributes := #[] }, { accessFlags := 0, nameIndex := 58, descriptorIndex := 59, attributes := #[] }, { accessFlags := 0, nameIndex := 88, descriptorIndex := 89, attributes := #[] }, { accessFlags := 2, nameIndex := 42, descriptorIndex := 43, attributes := #[] }] 48 4 #[] #[{ accessFlags := 24, nameIndex := 83, descriptorIndex := 33, attributes := #[] }, { accessFlags := 2, nameIndex := 18, descriptorIndex := 19, attributes := #[] }, { accessFlags := 2, nameIndex := 22, descriptorIndex := 23, attributes := #[] }, { accessFlags := 2, nameIndex := 28, descriptorIndex := 29, attributes := #[] }, { accessFlags := 2, nameIndex := 38, descriptorIndex := 39, attributes := #[] }, { accessFlags := 2, nameIndex := 32, descriptorIndex := 33, attributes := #[] }])
  fields := #[{ name := "MOST_CODES", type := .int, accessFlags := 24, slot := 0, constantValue := 0 }, { name := "distinct", type := (.object "com/example/vows_to_moves/vowstomoves/model/LongNumbering"), accessFlags := 2, slot := 0, constantValue := 0 }, { name := "values", type := (.array .double), accessFlags := 2, slot := 1, constantValue := 0 }, { name := "codes", type := (.array (.array .char)), accessFlags := 2, slot := 2, constantValue := 0 }, { name := "plain", type := (.array (.array .double)), accessFlags := 2, slot := 3, constantValue := 0 }, { name := "size", type := .int, accessFlags := 2, slot := 4, constantValue := 0 }]
  methods := #[k2m0, k2m1, k2m2, k2m3, k2m4, k2m5]
  instanceTypes := #[(.object "com/example/vows_to_moves/vowstomoves/model/LongNumbering"), (.array .double), (.array (.array .char)), (.array (.array .double)), .int]
  staticTypes := #[.int]
  resolved := Array.replicate 94 none
  statics := none }

def pool3 : Array CpInfo := pool [(1, .class_ 2), (0, u "com/example/vows_to_moves/vowstomoves/model/LongNumbering"), (0, .methodref 4 5), (0, .class_ 6), (0, .nameAndType 7 8), (0, u "java/lang/Object"), (0, u "<init>"), (0, u "()V"), (0, .class_ 10), (0, u "com/example/vows_to_moves/vowstomoves/model/LongColumn"), (0, .methodref 9 5), (0, .fieldref 1 13), (0, .nameAndType 14 15), (0, u "keys"), (0, u "Lcom/example/vows_to_moves/vowstomoves/model/LongColumn;"), (0, .methodref 17 18), (0, .class_ 19), (0, .nameAndType 20 21), (0, u "java/lang/Math"), (0, u "max"), (0, u "(II)I"), (0, .methodref 23 24), (0, .class_ 25), (0, .nameAndType 26 27), (0, u "java/lang/Integer"), (0, u "highestOneBit"), (0, u "(I)I"), (0, .methodref 1 29), (0, .nameAndType 30 31), (0, u "freeSlots"), (0, u "(I)[I"), (0, .fieldref 1 33), (0, .nameAndType 34 35), (0, u "slots"), (0, u "[I"), (0, .methodref 1 37), (0, .nameAndType 38 39), (0, u "slotOf"), (0, u "(J)I"), (0, .methodref 9 41), (0, .nameAndType 42 43), (0, u "size"), (0, u "()I"), (0, .methodref 1 45), (0, .nameAndType 46 47), (0, u "add"), (0, u "(J)V"), (0, .methodref 9 49), (0, .nameAndType 50 51), (0, u "get"), (0, u "(I)J"), (0, .integer 939524096), (4, u "(I)V"), (0, .methodref 9 45), (0, .integer 1073741824), (3, .methodref 1 64), (0, .nameAndType 65 66), (0, u "firstSlot"), (0, u "(JI)I"), (0, .long 13787848793156543929), (1, .long 10723151780598845931), (1, .methodref 72 73), (0, .class_ 74), (0, .nameAndType 75 76), (0, u "java/util/Arrays"), (0, u "fill"), (0, u "([II)V"), (0, u "FREE"), (0, u "I"), (2, u "MOST_SLOTS"), (0, u "MOST_KEYS"), (2, u "number"), (3, u "count")] 3

def k3c0 : Code := { maxStack := 3, maxLocals := 2, code := prog_82_method_1_code, exceptionTable := #[], attributes := #[] }
def k3m0 : Method := { name := "<init>", desc := "(I)V", sig := { parameters := [.int], returnType := none }, accessFlags := 0, code := some k3c0 }
def k3c1 : Code := { maxStack := 3, maxLocals := 4, code := prog_82_method_2_code, exceptionTable := #[], attributes := #[] }
def k3m1 : Method := { name := "number", desc := "(J)I", sig := { parameters := [.long], returnType := some .int }, accessFlags := 0, code := some k3c1 }
def k3c2 : Code := { maxStack := 1, maxLocals := 1, code := prog_82_method_5_code, exceptionTable := #[], attributes := #[] }
def k3m2 : Method := { name := "count", desc := "()I", sig := { parameters := [], returnType := some .int }, accessFlags := 0, code := some k3c2 }
def k3c3 : Code := { maxStack := 3, maxLocals := 3, code := prog_82_method_7_code, exceptionTable := #[], attributes := #[] }
def k3m3 : Method := { name := "add", desc := "(J)V", sig := { parameters := [.long], returnType := none }, accessFlags := 2, code := some k3c3 }
def k3c4 : Code := { maxStack := 4, maxLocals := 6, code := prog_82_method_9_code, exceptionTable := #[], attributes := #[] }
def k3m4 : Method := { name := "slotOf", desc := "(J)I", sig := { parameters := [.long], returnType := some .int }, accessFlags := 2, code := some k3c4 }
def k3c5 : Code := { maxStack := 5, maxLocals := 5, code := prog_82_method_10_code, exceptionTable := #[], attributes := #[] }
def k3m5 : Method := { name := "firstSlot", desc := "(JI)I", sig := { parameters := [.long, .int], returnType := some .int }, accessFlags := 10, code := some k3c5 }
def k3c6 : Code := { maxStack := 2, maxLocals := 2, code := prog_82_method_11_code, exceptionTable := #[], attributes := #[] }
def k3m6 : Method := { name := "freeSlots", desc := "(I)[I", sig := { parameters := [.int], returnType := some (.array .int) }, accessFlags := 10, code := some k3c6 }
/-- com/example/vows_to_moves/vowstomoves/model/LongNumbering -/
def k3 : Class := { plain "com/example/vows_to_moves/vowstomoves/model/LongNumbering" (some 0) with
  accessFlags := 48
  interfaces := #[]
  cf := some (fileOf pool3 1 #[] #[{ accessFlags := 0, nameIndex := 7, descriptorIndex := 57, attributes := #[] }, { accessFlags := 0, nameIndex := 85, descriptorIndex := 39, attributes := #[] }, { accessFlags := 0, nameIndex := 89, descriptorIndex := 43, attributes := #[] }, { accessFlags := 2, nameIndex := 46, descriptorIndex := 47, attributes := #[] }, { accessFlags := 2, nameIndex := 38, descriptorIndex := 39, attributes := #[] }, { accessFlags := 10, nameIndex := 65, descriptorIndex := 66, attributes := #[] }, { accessFlags := 10, nameIndex := 30, descriptorIndex := 31, attributes := #[] }] 48 4 #[] #[{ accessFlags := 26, nameIndex := 77, descriptorIndex := 78, attributes := #[] }, { accessFlags := 26, nameIndex := 81, descriptorIndex := 78, attributes := #[] }, { accessFlags := 26, nameIndex := 82, descriptorIndex := 78, attributes := #[] }, { accessFlags := 18, nameIndex := 14, descriptorIndex := 15, attributes := #[] }, { accessFlags := 2, nameIndex := 34, descriptorIndex := 35, attributes := #[] }])
  fields := #[{ name := "FREE", type := .int, accessFlags := 26, slot := 0, constantValue := 0 }, { name := "MOST_SLOTS", type := .int, accessFlags := 26, slot := 1, constantValue := 0 }, { name := "MOST_KEYS", type := .int, accessFlags := 26, slot := 2, constantValue := 0 }, { name := "keys", type := (.object "com/example/vows_to_moves/vowstomoves/model/LongColumn"), accessFlags := 18, slot := 0, constantValue := 0 }, { name := "slots", type := (.array .int), accessFlags := 2, slot := 1, constantValue := 0 }]
  methods := #[k3m0, k3m1, k3m2, k3m3, k3m4, k3m5, k3m6]
  instanceTypes := #[(.object "com/example/vows_to_moves/vowstomoves/model/LongColumn"), (.array .int)]
  staticTypes := #[.int, .int, .int]
  resolved := Array.replicate 93 none
  statics := none }

def pool4 : Array CpInfo := pool [(1, .methodref 2 3), (0, .class_ 4), (0, .nameAndType 5 6), (0, u "java/lang/Object"), (0, u "<init>"), (0, u "()V"), (0, .class_ 8), (0, u "[J"), (0, .fieldref 10 11), (0, .class_ 12), (0, .nameAndType 13 14), (0, u "com/example/vows_to_moves/vowstomoves/model/LongColumn"), (0, u "chunks"), (0, u "[[J"), (0, .fieldref 10 16), (0, .nameAndType 17 18), (0, u "size"), (0, u "I"), (9, .integer 32768), (2, u "()I"), (0, u "get"), (0, u "(I)J"), (0, u "add"), (0, u "(J)V")] 3

def k4c0 : Code := { maxStack := 2, maxLocals := 1, code := prog_81_method_1_code, exceptionTable := #[], attributes := #[] }
def k4m0 : Method := { name := "<init>", desc := "()V", sig := { parameters := [], returnType := none }, accessFlags := 0, code := some k4c0 }
def k4c1 : Code := { maxStack := 1, maxLocals := 1, code := prog_81_method_2_code, exceptionTable := #[], attributes := #[] }
def k4m1 : Method := { name := "size", desc := "()I", sig := { parameters := [], returnType := some .int }, accessFlags := 0, code := some k4c1 }
def k4c2 : Code := { maxStack := 3, maxLocals := 2, code := prog_81_method_3_code, exceptionTable := #[], attributes := #[] }
def k4m2 : Method := { name := "get", desc := "(I)J", sig := { parameters := [.int], returnType := some .long }, accessFlags := 0, code := some k4c2 }
def k4c3 : Code := { maxStack := 4, maxLocals := 4, code := prog_81_method_4_code, exceptionTable := #[], attributes := #[] }
def k4m3 : Method := { name := "add", desc := "(J)V", sig := { parameters := [.long], returnType := none }, accessFlags := 0, code := some k4c3 }
/-- com/example/vows_to_moves/vowstomoves/model/LongColumn -/
def k4 : Class := { plain "com/example/vows_to_moves/vowstomoves/model/LongColumn" (some 0) with
  accessFlags := 48
  interfaces := #[]
  cf := some (fileOf pool4 10 #[] #[{ accessFlags := 0, nameIndex := 5, descriptorIndex := 6, attributes := #[] }, { accessFlags := 0, nameIndex := 17, descriptorIndex := 31, attributes := #[] }, { accessFlags := 0, nameIndex := 32, descriptorIndex := 33, attributes := #[] }, { accessFlags := 0, nameIndex := 34, descriptorIndex := 35, attributes := #[] }] 48 2 #[] #[{ accessFlags := 2, nameIndex := 13, descriptorIndex := 14, attributes := #[] }, { accessFlags := 2, nameIndex := 17, descriptorIndex := 18, attributes := #[] }])
  fields := #[{ name := "chunks", type := (.array (.array .long)), accessFlags := 2, slot := 0, constantValue := 0 }, { name := "size", type := .int, accessFlags := 2, slot := 1, constantValue := 0 }]
  methods := #[k4m0, k4m1, k4m2, k4m3]
  instanceTypes := #[(.array (.array .long)), .int]
  staticTypes := #[]
  resolved := Array.replicate 39 none
  statics := none }

def pool5 : Array CpInfo := pool [(1, .class_ 2), (0, u "java/lang/Math"), (1, .class_ 6), (1, u "java/lang/Object"), (0, u "<init>"), (0, u "()V"), (89, .class_ 100), (1, u "java/lang/Math$RandomNumberGeneratorHolder"), (71, u "negativeZeroFloatBits"), (0, u "J"), (2, u "negativeZeroDoubleBits"), (21, u "max"), (46, u "$assertionsDisabled"), (0, u "Z"), (88, u "(II)I"), (2, u "twoToTheDoubleScaleDown"), (0, u "D"), (4, u "twoToTheDoubleScaleUp"), (9, u "E"), (3, u "PI"), (2, u "TAU"), (2, u "DEGREES_TO_RADIANS"), (0, u "RADIANS_TO_DEGREES")] 94

def k5m0 : Method := { name := "<init>", desc := "()V", sig := { parameters := [], returnType := none }, accessFlags := 2, code := none }
def k5c1 : Code := { maxStack := 2, maxLocals := 2, code := jdk_29_method_65_code, exceptionTable := #[], attributes := #[] }
def k5m1 : Method := { name := "max", desc := "(II)I", sig := { parameters := [.int, .int], returnType := some .int }, accessFlags := 9, code := some k5c1 }
/-- java/lang/Math -/
def k5 : Class := { plain "java/lang/Math" (some 0) with
  accessFlags := 49
  interfaces := #[]
  cf := some (fileOf pool5 1 #[.nestMembers #[98]] #[{ accessFlags := 2, nameIndex := 7, descriptorIndex := 8, attributes := #[] }, { accessFlags := 9, nameIndex := 198, descriptorIndex := 335, attributes := #[] }] 49 4 #[] #[{ accessFlags := 25, nameIndex := 354, descriptorIndex := 339, attributes := #[] }, { accessFlags := 25, nameIndex := 358, descriptorIndex := 339, attributes := #[] }, { accessFlags := 25, nameIndex := 361, descriptorIndex := 339, attributes := #[] }, { accessFlags := 26, nameIndex := 364, descriptorIndex := 339, attributes := #[] }, { accessFlags := 26, nameIndex := 365, descriptorIndex := 339, attributes := #[] }, { accessFlags := 26, nameIndex := 172, descriptorIndex := 173, attributes := #[] }, { accessFlags := 26, nameIndex := 176, descriptorIndex := 173, attributes := #[] }, { accessFlags := 8, nameIndex := 344, descriptorIndex := 339, attributes := #[] }, { accessFlags := 8, nameIndex := 338, descriptorIndex := 339, attributes := #[] }, { accessFlags := 4120, nameIndex := 245, descriptorIndex := 246, attributes := #[] }])
  fields := #[{ name := "E", type := .double, accessFlags := 25, slot := 0, constantValue := 0 }, { name := "PI", type := .double, accessFlags := 25, slot := 1, constantValue := 0 }, { name := "TAU", type := .double, accessFlags := 25, slot := 2, constantValue := 0 }, { name := "DEGREES_TO_RADIANS", type := .double, accessFlags := 26, slot := 3, constantValue := 0 }, { name := "RADIANS_TO_DEGREES", type := .double, accessFlags := 26, slot := 4, constantValue := 0 }, { name := "negativeZeroFloatBits", type := .long, accessFlags := 26, slot := 5, constantValue := 0 }, { name := "negativeZeroDoubleBits", type := .long, accessFlags := 26, slot := 6, constantValue := 0 }, { name := "twoToTheDoubleScaleUp", type := .double, accessFlags := 8, slot := 7, constantValue := 0 }, { name := "twoToTheDoubleScaleDown", type := .double, accessFlags := 8, slot := 8, constantValue := 0 }, { name := "$assertionsDisabled", type := .boolean, accessFlags := 4120, slot := 9, constantValue := 0 }]
  methods := #[k5m0, k5m1]
  instanceTypes := #[]
  staticTypes := #[.double, .double, .double, .double, .double, .long, .long, .double, .double, .boolean]
  resolved := Array.replicate 460 none
  statics := none }

def pool6 : Array CpInfo := pool [(1, .class_ 2), (0, u "java/io/Serializable"), (0, .class_ 4), (0, u "java/lang/Object")] 2

/-- java/io/Serializable -/
def k6 : Class := { plain "java/io/Serializable" (some 0) with
  accessFlags := 1537
  interfaces := #[]
  cf := some (fileOf pool6 1 #[] #[] 1537 3 #[] #[])
  fields := #[]
  methods := #[]
  instanceTypes := #[]
  staticTypes := #[]
  resolved := Array.replicate 7 none
  statics := none }

def pool7 : Array CpInfo := pool [(2, .class_ 4), (1, u "java/lang/Object"), (0, u "<init>"), (0, u "()V"), (1, .class_ 10), (1, u "java/lang/Number"), (2, .class_ 14), (0, u "java/io/Serializable"), (0, u "serialVersionUID"), (0, u "J")] 20

def k7m0 : Method := { name := "<init>", desc := "()V", sig := { parameters := [], returnType := none }, accessFlags := 1, code := none }
/-- java/lang/Number -/
def k7 : Class := { plain "java/lang/Number" (some 0) with
  accessFlags := 1057
  interfaces := #[6]
  cf := some (fileOf pool7 8 #[] #[{ accessFlags := 1, nameIndex := 5, descriptorIndex := 6, attributes := #[] }] 1057 2 #[13] #[{ accessFlags := 26, nameIndex := 15, descriptorIndex := 16, attributes := #[] }])
  fields := #[{ name := "serialVersionUID", type := .long, accessFlags := 26, slot := 0, constantValue := 0 }]
  methods := #[k7m0]
  instanceTypes := #[]
  staticTypes := #[.long]
  resolved := Array.replicate 37 none
  statics := none }

def pool8 : Array CpInfo := pool [(1, .class_ 2), (0, u "java/lang/Comparable"), (0, .class_ 4), (0, u "java/lang/Object")] 7

/-- java/lang/Comparable -/
def k8 : Class := { plain "java/lang/Comparable" (some 0) with
  accessFlags := 1537
  interfaces := #[]
  cf := some (fileOf pool8 1 #[] #[] 1537 3 #[] #[])
  fields := #[]
  methods := #[]
  instanceTypes := #[]
  staticTypes := #[]
  resolved := Array.replicate 12 none
  statics := none }

def pool9 : Array CpInfo := pool [(1, .class_ 2), (0, u "java/lang/constant/Constable"), (0, .class_ 4), (0, u "java/lang/Object")] 6

/-- java/lang/constant/Constable -/
def k9 : Class := { plain "java/lang/constant/Constable" (some 0) with
  accessFlags := 1537
  interfaces := #[]
  cf := some (fileOf pool9 1 #[] #[] 1537 3 #[] #[])
  fields := #[]
  methods := #[]
  instanceTypes := #[]
  staticTypes := #[]
  resolved := Array.replicate 11 none
  statics := none }

def pool10 : Array CpInfo := pool [(1, .class_ 2), (0, u "java/lang/constant/ConstantDesc"), (0, .class_ 4), (0, u "java/lang/Object")] 32

/-- java/lang/constant/ConstantDesc -/
def k10 : Class := { plain "java/lang/constant/ConstantDesc" (some 0) with
  accessFlags := 1537
  interfaces := #[]
  cf := some (fileOf pool10 1 #[] #[] 1537 3 #[] #[])
  fields := #[]
  methods := #[]
  instanceTypes := #[]
  staticTypes := #[]
  resolved := Array.replicate 37 none
  statics := none }

def pool11 : Array CpInfo := pool [(1, .class_ 2), (0, u "java/lang/Integer"), (16, u "digits"), (0, u "[C"), (30, .methodref 1 52), (0, .nameAndType 53 54), (0, u "numberOfLeadingZeros"), (0, u "(I)I"), (30, u "DigitOnes"), (0, u "[B"), (2, u "DigitTens"), (37, .integer 2147483648), (61, .class_ 190), (0, u "java/lang/Integer$IntegerCache"), (3, u "I"), (8, .class_ 204), (0, u "java/lang/Number"), (2, u "value"), (56, .integer 65536), (37, u "TYPE"), (0, u "Ljava/lang/Class;"), (0, .class_ 305), (0, u "java/lang/Comparable"), (0, .class_ 307), (0, u "java/lang/constant/Constable"), (0, .class_ 309), (0, u "java/lang/constant/ConstantDesc"), (0, u "MIN_VALUE"), (1, u "MAX_VALUE"), (3, u "SIZE"), (1, u "BYTES"), (1, u "serialVersionUID"), (0, u "J"), (81, u "highestOneBit")] 49

def k11c0 : Code := { maxStack := 3, maxLocals := 1, code := jdk_33_method_45_code, exceptionTable := #[], attributes := #[] }
def k11m0 : Method := { name := "highestOneBit", desc := "(I)I", sig := { parameters := [.int], returnType := some .int }, accessFlags := 9, code := some k11c0 }
def k11c1 : Code := { maxStack := 3, maxLocals := 2, code := jdk_33_method_47_code, exceptionTable := #[], attributes := #[] }
def k11m1 : Method := { name := "numberOfLeadingZeros", desc := "(I)I", sig := { parameters := [.int], returnType := some .int }, accessFlags := 9, code := some k11c1 }
/-- java/lang/Integer -/
def k11 : Class := { plain "java/lang/Integer" (some 7) with
  accessFlags := 49
  interfaces := #[8, 9, 10]
  cf := some (fileOf pool11 1 #[.nestMembers #[189]] #[{ accessFlags := 9, nameIndex := 403, descriptorIndex := 54, attributes := #[] }, { accessFlags := 9, nameIndex := 53, descriptorIndex := 54, attributes := #[] }] 49 203 #[304, 306, 308] #[{ accessFlags := 25, nameIndex := 310, descriptorIndex := 194, attributes := #[] }, { accessFlags := 25, nameIndex := 312, descriptorIndex := 194, attributes := #[] }, { accessFlags := 25, nameIndex := 302, descriptorIndex := 303, attributes := #[] }, { accessFlags := 24, nameIndex := 19, descriptorIndex := 20, attributes := #[] }, { accessFlags := 24, nameIndex := 89, descriptorIndex := 86, attributes := #[] }, { accessFlags := 24, nameIndex := 85, descriptorIndex := 86, attributes := #[] }, { accessFlags := 18, nameIndex := 207, descriptorIndex := 194, attributes := #[] }, { accessFlags := 25, nameIndex := 316, descriptorIndex := 194, attributes := #[] }, { accessFlags := 25, nameIndex := 318, descriptorIndex := 194, attributes := #[] }, { accessFlags := 26, nameIndex := 320, descriptorIndex := 321, attributes := #[] }])
  fields := #[{ name := "MIN_VALUE", type := .int, accessFlags := 25, slot := 0, constantValue := 0 }, { name := "MAX_VALUE", type := .int, accessFlags := 25, slot := 1, constantValue := 0 }, { name := "TYPE", type := (.object "java/lang/Class"), accessFlags := 25, slot := 2, constantValue := 0 }, { name := "digits", type := (.array .char), accessFlags := 24, slot := 3, constantValue := 0 }, { name := "DigitTens", type := (.array .byte), accessFlags := 24, slot := 4, constantValue := 0 }, { name := "DigitOnes", type := (.array .byte), accessFlags := 24, slot := 5, constantValue := 0 }, { name := "value", type := .int, accessFlags := 18, slot := 0, constantValue := 0 }, { name := "SIZE", type := .int, accessFlags := 25, slot := 6, constantValue := 0 }, { name := "BYTES", type := .int, accessFlags := 25, slot := 7, constantValue := 0 }, { name := "serialVersionUID", type := .long, accessFlags := 26, slot := 8, constantValue := 0 }]
  methods := #[k11m0, k11m1]
  instanceTypes := #[.int]
  staticTypes := #[.int, .int, (.object "java/lang/Class"), (.array .char), (.array .byte), (.array .byte), .int, .int, .long]
  resolved := Array.replicate 453 none
  statics := none }

def pool12 : Array CpInfo := pool [(2, .class_ 4), (1, u "java/lang/Object"), (0, u "<init>"), (0, u "()V"), (7, .class_ 16), (1, u "java/util/Arrays"), (57, .class_ 76), (1, u "java/util/Arrays$NaturalOrder"), (36, .class_ 115), (1, u "java/util/Arrays$LegacyMergeSort"), (1, u "Z"), (257, .class_ 376), (0, u "java/util/Arrays$ArrayList"), (68, u "$assertionsDisabled"), (269, u "MIN_ARRAY_SORT_GRAN"), (0, u "I"), (2, u "INSERTIONSORT_THRESHOLD"), (120, u "fill"), (4, u "([II)V"), (129, .class_ 976), (0, u "java/util/Arrays$ArrayItr")] 52

def k12m0 : Method := { name := "<init>", desc := "()V", sig := { parameters := [], returnType := none }, accessFlags := 2, code := none }
def k12c1 : Code := { maxStack := 3, maxLocals := 4, code := jdk_65_method_103_code, exceptionTable := #[], attributes := #[] }
def k12m1 : Method := { name := "fill", desc := "([II)V", sig := { parameters := [(.array .int), .int], returnType := none }, accessFlags := 9, code := some k12c1 }
/-- java/util/Arrays -/
def k12 : Class := { plain "java/util/Arrays" (some 0) with
  accessFlags := 49
  interfaces := #[]
  cf := some (fileOf pool12 14 #[.nestMembers #[975, 375, 113, 74]] #[{ accessFlags := 2, nameIndex := 5, descriptorIndex := 6, attributes := #[] }, { accessFlags := 9, nameIndex := 840, descriptorIndex := 845, attributes := #[] }] 49 2 #[] #[{ accessFlags := 26, nameIndex := 715, descriptorIndex := 716, attributes := #[] }, { accessFlags := 26, nameIndex := 719, descriptorIndex := 716, attributes := #[] }, { accessFlags := 4120, nameIndex := 445, descriptorIndex := 117, attributes := #[] }])
  fields := #[{ name := "MIN_ARRAY_SORT_GRAN", type := .int, accessFlags := 26, slot := 0, constantValue := 0 }, { name := "INSERTIONSORT_THRESHOLD", type := .int, accessFlags := 26, slot := 1, constantValue := 0 }, { name := "$assertionsDisabled", type := .boolean, accessFlags := 4120, slot := 2, constantValue := 0 }]
  methods := #[k12m0, k12m1]
  instanceTypes := #[]
  staticTypes := #[.int, .int, .boolean]
  resolved := Array.replicate 1029 none
  statics := none }

def pool13 : Array CpInfo := pool [(1, .class_ 2), (0, u "java/lang/Double"), (46, u "(D)J"), (64, .class_ 116), (1, u "java/lang/Number"), (3, u "value"), (0, u "D"), (14, u "doubleToRawLongBits"), (36, u "TYPE"), (0, u "Ljava/lang/Class;"), (0, .class_ 176), (0, u "java/lang/Comparable"), (0, .class_ 178), (0, u "java/lang/constant/Constable"), (0, .class_ 180), (0, u "java/lang/constant/ConstantDesc"), (0, u "POSITIVE_INFINITY"), (3, u "NEGATIVE_INFINITY"), (2, u "NaN"), (2, u "MAX_VALUE"), (0, u "MIN_NORMAL"), (0, u "MIN_VALUE"), (2, u "SIZE"), (0, u "I"), (1, u "PRECISION"), (1, u "MAX_EXPONENT"), (1, u "MIN_EXPONENT"), (1, u "BYTES"), (3, u "serialVersionUID"), (0, u "J")] 79

def k13m0 : Method := { name := "doubleToRawLongBits", desc := "(D)J", sig := { parameters := [.double], returnType := some .long }, accessFlags := 265, code := none }
/-- java/lang/Double -/
def k13 : Class := { plain "java/lang/Double" (some 7) with
  accessFlags := 49
  interfaces := #[8, 9, 10]
  cf := some (fileOf pool13 1 #[] #[{ accessFlags := 265, nameIndex := 136, descriptorIndex := 49, attributes := #[] }] 49 114 #[175, 177, 179] #[{ accessFlags := 25, nameIndex := 181, descriptorIndex := 121, attributes := #[] }, { accessFlags := 25, nameIndex := 185, descriptorIndex := 121, attributes := #[] }, { accessFlags := 25, nameIndex := 188, descriptorIndex := 121, attributes := #[] }, { accessFlags := 25, nameIndex := 191, descriptorIndex := 121, attributes := #[] }, { accessFlags := 25, nameIndex := 192, descriptorIndex := 121, attributes := #[] }, { accessFlags := 25, nameIndex := 193, descriptorIndex := 121, attributes := #[] }, { accessFlags := 25, nameIndex := 196, descriptorIndex := 197, attributes := #[] }, { accessFlags := 25, nameIndex := 199, descriptorIndex := 197, attributes := #[] }, { accessFlags := 25, nameIndex := 201, descriptorIndex := 197, attributes := #[] }, { accessFlags := 25, nameIndex := 203, descriptorIndex := 197, attributes := #[] }, { accessFlags := 25, nameIndex := 205, descriptorIndex := 197, attributes := #[] }, { accessFlags := 25, nameIndex := 173, descriptorIndex := 174, attributes := #[] }, { accessFlags := 18, nameIndex := 120, descriptorIndex := 121, attributes := #[] }, { accessFlags := 26, nameIndex := 209, descriptorIndex := 210, attributes := #[] }])
  fields := #[{ name := "POSITIVE_INFINITY", type := .double, accessFlags := 25, slot := 0, constantValue := 0 }, { name := "NEGATIVE_INFINITY", type := .double, accessFlags := 25, slot := 1, constantValue := 0 }, { name := "NaN", type := .double, accessFlags := 25, slot := 2, constantValue := 0 }, { name := "MAX_VALUE", type := .double, accessFlags := 25, slot := 3, constantValue := 0 }, { name := "MIN_NORMAL", type := .double, accessFlags := 25, slot := 4, constantValue := 0 }, { name := "MIN_VALUE", type := .double, accessFlags := 25, slot := 5, constantValue := 0 }, { name := "SIZE", type := .int, accessFlags := 25, slot := 6, constantValue := 0 }, { name := "PRECISION", type := .int, accessFlags := 25, slot := 7, constantValue := 0 }, { name := "MAX_EXPONENT", type := .int, accessFlags := 25, slot := 8, constantValue := 0 }, { name := "MIN_EXPONENT", type := .int, accessFlags := 25, slot := 9, constantValue := 0 }, { name := "BYTES", type := .int, accessFlags := 25, slot := 10, constantValue := 0 }, { name := "TYPE", type := (.object "java/lang/Class"), accessFlags := 25, slot := 11, constantValue := 0 }, { name := "value", type := .double, accessFlags := 18, slot := 0, constantValue := 0 }, { name := "serialVersionUID", type := .long, accessFlags := 26, slot := 12, constantValue := 0 }]
  methods := #[k13m0]
  instanceTypes := #[.double]
  staticTypes := #[.double, .double, .double, .double, .double, .double, .int, .int, .int, .int, .int, (.object "java/lang/Class"), .long]
  resolved := Array.replicate 290 none
  statics := none }

def pool14 : Array CpInfo := pool [(1, u "java/lang/Cloneable"), (0, .class_ 1), (0, u "java/lang/Object"), (0, .class_ 3)] 3

/-- java/lang/Cloneable -/
def k14 : Class := { plain "java/lang/Cloneable" (some 0) with
  accessFlags := 1537
  interfaces := #[]
  cf := some (fileOf pool14 2 #[] #[] 1537 4 #[] #[])
  fields := #[]
  methods := #[]
  instanceTypes := #[]
  staticTypes := #[]
  resolved := Array.replicate 8 none
  statics := none }

/-- the primitive byte -/
def k15 : Class := { plain "byte" none with kind := .primitive 'B', accessFlags := 0x411 }
/-- [B -/
def k16 : Class := { plain "[B" (some 0) with kind := .array 15 .byte, interfaces := #[14, 6], accessFlags := 1041 }

/-- the primitive char -/
def k17 : Class := { plain "char" none with kind := .primitive 'C', accessFlags := 0x411 }
/-- [C -/
def k18 : Class := { plain "[C" (some 0) with kind := .array 17 .char, interfaces := #[14, 6], accessFlags := 1041 }

/-- the primitive double -/
def k19 : Class := { plain "double" none with kind := .primitive 'D', accessFlags := 0x411 }
/-- [D -/
def k20 : Class := { plain "[D" (some 0) with kind := .array 19 .double, interfaces := #[14, 6], accessFlags := 1041 }

/-- the primitive int -/
def k21 : Class := { plain "int" none with kind := .primitive 'I', accessFlags := 0x411 }
/-- [I -/
def k22 : Class := { plain "[I" (some 0) with kind := .array 21 .int, interfaces := #[14, 6], accessFlags := 1041 }

/-- the primitive long -/
def k23 : Class := { plain "long" none with kind := .primitive 'J', accessFlags := 0x411 }
/-- [J -/
def k24 : Class := { plain "[J" (some 0) with kind := .array 23 .long, interfaces := #[14, 6], accessFlags := 1041 }

/-- [[J -/
def k25 : Class := { plain "[[J" (some 0) with kind := .array 24 (.array .long), interfaces := #[14, 6], accessFlags := 1041 }

/-- [[C -/
def k26 : Class := { plain "[[C" (some 0) with kind := .array 18 (.array .char), interfaces := #[14, 6], accessFlags := 1041 }

def heap : Heap := #[]
def classes : Array Class := #[k0, k1, k2, k3, k4, k5, k6, k7, k8, k9, k10, k11, k12, k13, k14, k15, k16, k17, k18, k19, k20, k21, k22, k23, k24, k25, k26]
def interned : List (Array UInt16 × Addr) := []
def slotsUsed : Nat := 0
def theMethod : MethodId := ⟨1, 1⟩
def args0 : Array Value := #[.int 1, .int 2, .int 3, .int 4, .int 197]
def aboutOver (below : List Frame) : State where
  vm := { classes := classes, interned := interned.toArray }
  heap := heap
  slotsUsed := slotsUsed
  threads := #[{ frames := .invoking theMethod args0 :: below }]
def below0 : List Frame := [.native { method := ⟨0, 0⟩, args := #[] }]
def about1 : State := aboutOver below0
def p0 : Program := .bare "" "" ""
def e0 : Env := launch0.env 0 0 0
theorem w_frames : about1.frames = Frame.invoking theMethod args0 :: below0 := rfl
set_option maxRecDepth 65536 in
theorem w_args : argsFit about1.vm theMethod args0 = true := by decide +kernel
set_option maxRecDepth 65536 in
theorem w_heap : heapFits about1 = true := by decide +kernel
set_option maxRecDepth 65536 in
theorem w_runnable : about1.curStatus? = some .runnable := by decide +kernel
set_option maxRecDepth 65536 in
theorem w_alone : about1.alone = true := by decide +kernel
set_option maxRecDepth 65536 in
theorem w_named : about1.methodNamed? x = some theMethod := by decide +kernel
set_option maxRecDepth 65536 in
theorem w_hears : about1.hears theMethod below0 = true := by decide +kernel
set_option maxRecDepth 65536 in
theorem w_ripe : about1.ripe theMethod args0 below0 = true := by decide +kernel
theorem w_running : about1.status = .running := rfl
set_option maxRecDepth 65536 in
theorem w_room : about1.hasRoom e0.platform room_1 = true :=
  launch0.hasRoom_least _ room_1 (by decide +kernel) (by decide +kernel) (by decide +kernel) (by decide +kernel) (by decide +kernel) (by decide +kernel)
theorem allAtoms_all (ts : List Jvm.Cond) (a : Array Jvm.Value) (st : Jvm.State) : (allAtoms ts).before a st = ts.all (fun c => c.before a st) := by
  induction ts with
  | nil => rfl
  | cons c t ih =>
    show (Jvm.Cond.and c (allAtoms t)).before a st = _
    rw [Jvm.Cond.before_and, ih, List.all_cons]
def words1 : List Jvm.Cond := Jvm.Cond.code x code maxLocals ret :: tables_1
/-- a 'code' word, met by the world's own term for the bytes: nothing is compared byte by byte -/
theorem code_word {y : MethodName} {bytes : ByteArray} {mx : Nat} {rt : Option FieldType} {a : Array Value} {s : State} {m : MethodId} {meth : Method} {c : Code} (h1 : s.methodNamed? y = some m) (h2 : s.vm.method? m = some meth) (h3 : meth.code = some c) (h4 : c.code = bytes)
    (h5 : (c.maxLocals == mx && c.exceptionTable.isEmpty && decide (c.maxStack ≤ mostOperands) && decide (meth.sig.returnType = rt) && !meth.locks && decide (parseMethodDescriptor y.desc = some meth.sig)) = true) : (Jvm.Cond.code y bytes mx rt).before a s = true := by
  simp only [Bool.and_eq_true, beq_iff_eq, Bool.not_eq_true', decide_eq_true_eq] at h5
  obtain ⟨⟨⟨⟨⟨g1, g2⟩, g3⟩, g4⟩, g5⟩, g6⟩ := h5
  simp [Cond.before, Cond.holds, Cond.value, h1, h2, h3, h4, g1, g2, g3, g4, g5, g6]
def isCode : Jvm.Cond → Bool
  | .code _ _ _ _ => true
  | _ => false
theorem all_split {L : List Jvm.Cond} {P : Jvm.Cond → Bool} (h1 : L.all (fun c => isCode c || P c) = true) (h2 : ∀ c ∈ L.filter isCode, P c = true) : L.all P = true := by
  refine List.all_eq_true.mpr fun c hc => ?_
  have h := List.all_eq_true.mp h1 c hc
  rcases Bool.eq_false_or_eq_true (isCode c) with hi | hi
  · exact h2 c (List.mem_filter.mpr ⟨hc, hi⟩)
  · simpa [hi] using h
set_option maxRecDepth 65536 in
theorem w_c0 : (Jvm.Cond.code x code maxLocals ret).before args0 about1 = true := code_word (m := ⟨1, 1⟩) (meth := k1m1) (c := k1c1) (by decide +kernel) rfl rfl rfl (by decide +kernel)
set_option maxRecDepth 65536 in
theorem w_c1 : (Jvm.Cond.code ({ cls := "com/example/vows_to_moves/vowstomoves/model/DoubleColumn", name := "<init>", desc := "()V" } : Jvm.MethodName) prog_72_method_1_code (1 : Nat) (Option.none : Option Jvm.ClassFile.FieldType)).before args0 about1 = true := code_word (m := ⟨2, 0⟩) (meth := k2m0) (c := k2c0) (by decide +kernel) rfl rfl rfl (by decide +kernel)
set_option maxRecDepth 65536 in
theorem w_c2 : (Jvm.Cond.code ({ cls := "java/lang/Object", name := "<init>", desc := "()V" } : Jvm.MethodName) object_method_1_code (1 : Nat) (Option.none : Option Jvm.ClassFile.FieldType)).before args0 about1 = true := code_word (m := ⟨0, 0⟩) (meth := k0m0) (c := k0c0) (by decide +kernel) rfl rfl rfl (by decide +kernel)
set_option maxRecDepth 65536 in
theorem w_c3 : (Jvm.Cond.code ({ cls := "com/example/vows_to_moves/vowstomoves/model/LongNumbering", name := "<init>", desc := "(I)V" } : Jvm.MethodName) prog_82_method_1_code (2 : Nat) (Option.none : Option Jvm.ClassFile.FieldType)).before args0 about1 = true := code_word (m := ⟨3, 0⟩) (meth := k3m0) (c := k3c0) (by decide +kernel) rfl rfl rfl (by decide +kernel)
set_option maxRecDepth 65536 in
theorem w_c4 : (Jvm.Cond.code ({ cls := "com/example/vows_to_moves/vowstomoves/model/LongColumn", name := "<init>", desc := "()V" } : Jvm.MethodName) prog_81_method_1_code (1 : Nat) (Option.none : Option Jvm.ClassFile.FieldType)).before args0 about1 = true := code_word (m := ⟨4, 0⟩) (meth := k4m0) (c := k4c0) (by decide +kernel) rfl rfl rfl (by decide +kernel)
set_option maxRecDepth 65536 in
theorem w_c5 : (Jvm.Cond.code ({ cls := "java/lang/Math", name := "max", desc := "(II)I" } : Jvm.MethodName) jdk_29_method_65_code (2 : Nat) (Option.some Jvm.ClassFile.FieldType.int)).before args0 about1 = true := code_word (m := ⟨5, 1⟩) (meth := k5m1) (c := k5c1) (by decide +kernel) rfl rfl rfl (by decide +kernel)
set_option maxRecDepth 65536 in
theorem w_c6 : (Jvm.Cond.code ({ cls := "java/lang/Integer", name := "highestOneBit", desc := "(I)I" } : Jvm.MethodName) jdk_33_method_45_code (1 : Nat) (Option.some Jvm.ClassFile.FieldType.int)).before args0 about1 = true := code_word (m := ⟨11, 0⟩) (meth := k11m0) (c := k11c0) (by decide +kernel) rfl rfl rfl (by decide +kernel)
set_option maxRecDepth 65536 in
theorem w_c7 : (Jvm.Cond.code ({ cls := "java/lang/Integer", name := "numberOfLeadingZeros", desc := "(I)I" } : Jvm.MethodName) jdk_33_method_47_code (2 : Nat) (Option.some Jvm.ClassFile.FieldType.int)).before args0 about1 = true := code_word (m := ⟨11, 1⟩) (meth := k11m1) (c := k11c1) (by decide +kernel) rfl rfl rfl (by decide +kernel)
set_option maxRecDepth 65536 in
theorem w_c8 : (Jvm.Cond.code ({ cls := "com/example/vows_to_moves/vowstomoves/model/LongNumbering", name := "freeSlots", desc := "(I)[I" } : Jvm.MethodName) prog_82_method_11_code (2 : Nat) (Option.some (Jvm.ClassFile.FieldType.array Jvm.ClassFile.FieldType.int))).before args0 about1 = true := code_word (m := ⟨3, 6⟩) (meth := k3m6) (c := k3c6) (by decide +kernel) rfl rfl rfl (by decide +kernel)
set_option maxRecDepth 65536 in
theorem w_c9 : (Jvm.Cond.code ({ cls := "java/util/Arrays", name := "fill", desc := "([II)V" } : Jvm.MethodName) jdk_65_method_103_code (4 : Nat) (Option.none : Option Jvm.ClassFile.FieldType)).before args0 about1 = true := code_word (m := ⟨12, 1⟩) (meth := k12m1) (c := k12c1) (by decide +kernel) rfl rfl rfl (by decide +kernel)
set_option maxRecDepth 65536 in
theorem w_c10 : (Jvm.Cond.code ({ cls := "com/example/vows_to_moves/vowstomoves/model/DoubleColumn", name := "add", desc := "(D)V" } : Jvm.MethodName) prog_72_method_5_code (4 : Nat) (Option.none : Option Jvm.ClassFile.FieldType)).before args0 about1 = true := code_word (m := ⟨2, 4⟩) (meth := k2m4) (c := k2c4) (by decide +kernel) rfl rfl rfl (by decide +kernel)
set_option maxRecDepth 65536 in
theorem w_c11 : (Jvm.Cond.code ({ cls := "com/example/vows_to_moves/vowstomoves/model/DoubleColumn", name := "set", desc := "(ID)V" } : Jvm.MethodName) prog_72_method_4_code (6 : Nat) (Option.none : Option Jvm.ClassFile.FieldType)).before args0 about1 = true := code_word (m := ⟨2, 3⟩) (meth := k2m3) (c := k2c3) (by decide +kernel) rfl rfl rfl (by decide +kernel)
set_option maxRecDepth 65536 in
theorem w_c12 : (Jvm.Cond.code ({ cls := "com/example/vows_to_moves/vowstomoves/model/DoubleColumn", name := "code", desc := "(D)I" } : Jvm.MethodName) prog_72_method_7_code (7 : Nat) (Option.some Jvm.ClassFile.FieldType.int)).before args0 about1 = true := code_word (m := ⟨2, 5⟩) (meth := k2m5) (c := k2c5) (by decide +kernel) rfl rfl rfl (by decide +kernel)
set_option maxRecDepth 65536 in
theorem w_c13 : (Jvm.Cond.code ({ cls := "com/example/vows_to_moves/vowstomoves/model/LongNumbering", name := "count", desc := "()I" } : Jvm.MethodName) prog_82_method_5_code (1 : Nat) (Option.some Jvm.ClassFile.FieldType.int)).before args0 about1 = true := code_word (m := ⟨3, 2⟩) (meth := k3m2) (c := k3c2) (by decide +kernel) rfl rfl rfl (by decide +kernel)
set_option maxRecDepth 65536 in
theorem w_c14 : (Jvm.Cond.code ({ cls := "com/example/vows_to_moves/vowstomoves/model/LongColumn", name := "size", desc := "()I" } : Jvm.MethodName) prog_81_method_2_code (1 : Nat) (Option.some Jvm.ClassFile.FieldType.int)).before args0 about1 = true := code_word (m := ⟨4, 1⟩) (meth := k4m1) (c := k4c1) (by decide +kernel) rfl rfl rfl (by decide +kernel)
set_option maxRecDepth 65536 in
theorem w_c15 : (Jvm.Cond.code ({ cls := "com/example/vows_to_moves/vowstomoves/model/LongNumbering", name := "number", desc := "(J)I" } : Jvm.MethodName) prog_82_method_2_code (4 : Nat) (Option.some Jvm.ClassFile.FieldType.int)).before args0 about1 = true := code_word (m := ⟨3, 1⟩) (meth := k3m1) (c := k3c1) (by decide +kernel) rfl rfl rfl (by decide +kernel)
set_option maxRecDepth 65536 in
theorem w_c16 : (Jvm.Cond.code ({ cls := "com/example/vows_to_moves/vowstomoves/model/LongNumbering", name := "slotOf", desc := "(J)I" } : Jvm.MethodName) prog_82_method_9_code (6 : Nat) (Option.some Jvm.ClassFile.FieldType.int)).before args0 about1 = true := code_word (m := ⟨3, 4⟩) (meth := k3m4) (c := k3c4) (by decide +kernel) rfl rfl rfl (by decide +kernel)
set_option maxRecDepth 65536 in
theorem w_c17 : (Jvm.Cond.code ({ cls := "com/example/vows_to_moves/vowstomoves/model/LongNumbering", name := "firstSlot", desc := "(JI)I" } : Jvm.MethodName) prog_82_method_10_code (5 : Nat) (Option.some Jvm.ClassFile.FieldType.int)).before args0 about1 = true := code_word (m := ⟨3, 5⟩) (meth := k3m5) (c := k3c5) (by decide +kernel) rfl rfl rfl (by decide +kernel)
set_option maxRecDepth 65536 in
theorem w_c18 : (Jvm.Cond.code ({ cls := "com/example/vows_to_moves/vowstomoves/model/LongNumbering", name := "add", desc := "(J)V" } : Jvm.MethodName) prog_82_method_7_code (3 : Nat) (Option.none : Option Jvm.ClassFile.FieldType)).before args0 about1 = true := code_word (m := ⟨3, 3⟩) (meth := k3m3) (c := k3c3) (by decide +kernel) rfl rfl rfl (by decide +kernel)
set_option maxRecDepth 65536 in
theorem w_c19 : (Jvm.Cond.code ({ cls := "com/example/vows_to_moves/vowstomoves/model/LongColumn", name := "add", desc := "(J)V" } : Jvm.MethodName) prog_81_method_4_code (4 : Nat) (Option.none : Option Jvm.ClassFile.FieldType)).before args0 about1 = true := code_word (m := ⟨4, 3⟩) (meth := k4m3) (c := k4c3) (by decide +kernel) rfl rfl rfl (by decide +kernel)
set_option maxRecDepth 65536 in
theorem w_c20 : (Jvm.Cond.code ({ cls := "com/example/vows_to_moves/vowstomoves/model/DoubleColumn", name := "size", desc := "()I" } : Jvm.MethodName) prog_72_method_2_code (1 : Nat) (Option.some Jvm.ClassFile.FieldType.int)).before args0 about1 = true := code_word (m := ⟨2, 1⟩) (meth := k2m1) (c := k2c1) (by decide +kernel) rfl rfl rfl (by decide +kernel)
set_option maxRecDepth 65536 in
theorem w_c21 : (Jvm.Cond.code ({ cls := "com/example/vows_to_moves/vowstomoves/model/DoubleColumn", name := "get", desc := "(I)D" } : Jvm.MethodName) prog_72_method_3_code (3 : Nat) (Option.some Jvm.ClassFile.FieldType.double)).before args0 about1 = true := code_word (m := ⟨2, 2⟩) (meth := k2m2) (c := k2c2) (by decide +kernel) rfl rfl rfl (by decide +kernel)
set_option maxRecDepth 65536 in
theorem w_c22 : (Jvm.Cond.code ({ cls := "com/example/vows_to_moves/vowstomoves/model/LongColumn", name := "get", desc := "(I)J" } : Jvm.MethodName) prog_81_method_3_code (2 : Nat) (Option.some Jvm.ClassFile.FieldType.long)).before args0 about1 = true := code_word (m := ⟨4, 2⟩) (meth := k4m2) (c := k4c2) (by decide +kernel) rfl rfl rfl (by decide +kernel)
def codes1 : List Jvm.Cond := [Jvm.Cond.code x code maxLocals ret, Jvm.Cond.code ({ cls := "com/example/vows_to_moves/vowstomoves/model/DoubleColumn", name := "<init>", desc := "()V" } : Jvm.MethodName) prog_72_method_1_code (1 : Nat) (Option.none : Option Jvm.ClassFile.FieldType), Jvm.Cond.code ({ cls := "java/lang/Object", name := "<init>", desc := "()V" } : Jvm.MethodName) object_method_1_code (1 : Nat) (Option.none : Option Jvm.ClassFile.FieldType), Jvm.Cond.code ({ cls := "com/example/vows_to_moves/vowstomoves/model/LongNumbering", name := "<init>", desc := "(I)V" } : Jvm.MethodName) prog_82_method_1_code (2 : Nat) (Option.none : Option Jvm.ClassFile.FieldType), Jvm.Cond.code ({ cls := "com/example/vows_to_moves/vowstomoves/model/LongColumn", name := "<init>", desc := "()V" } : Jvm.MethodName) prog_81_method_1_code (1 : Nat) (Option.none : Option Jvm.ClassFile.FieldType), Jvm.Cond.code ({ cls := "java/lang/Math", name := "max", desc := "(II)I" } : Jvm.MethodName) jdk_29_method_65_code (2 : Nat) (Option.some Jvm.ClassFile.FieldType.int), Jvm.Cond.code ({ cls := "java/lang/Integer", name := "highestOneBit", desc := "(I)I" } : Jvm.MethodName) jdk_33_method_45_code (1 : Nat) (Option.some Jvm.ClassFile.FieldType.int), Jvm.Cond.code ({ cls := "java/lang/Integer", name := "numberOfLeadingZeros", desc := "(I)I" } : Jvm.MethodName) jdk_33_method_47_code (2 : Nat) (Option.some Jvm.ClassFile.FieldType.int), Jvm.Cond.code ({ cls := "com/example/vows_to_moves/vowstomoves/model/LongNumbering", name := "freeSlots", desc := "(I)[I" } : Jvm.MethodName) prog_82_method_11_code (2 : Nat) (Option.some (Jvm.ClassFile.FieldType.array Jvm.ClassFile.FieldType.int)), Jvm.Cond.code ({ cls := "java/util/Arrays", name := "fill", desc := "([II)V" } : Jvm.MethodName) jdk_65_method_103_code (4 : Nat) (Option.none : Option Jvm.ClassFile.FieldType), Jvm.Cond.code ({ cls := "com/example/vows_to_moves/vowstomoves/model/DoubleColumn", name := "add", desc := "(D)V" } : Jvm.MethodName) prog_72_method_5_code (4 : Nat) (Option.none : Option Jvm.ClassFile.FieldType), Jvm.Cond.code ({ cls := "com/example/vows_to_moves/vowstomoves/model/DoubleColumn", name := "set", desc := "(ID)V" } : Jvm.MethodName) prog_72_method_4_code (6 : Nat) (Option.none : Option Jvm.ClassFile.FieldType), Jvm.Cond.code ({ cls := "com/example/vows_to_moves/vowstomoves/model/DoubleColumn", name := "code", desc := "(D)I" } : Jvm.MethodName) prog_72_method_7_code (7 : Nat) (Option.some Jvm.ClassFile.FieldType.int), Jvm.Cond.code ({ cls := "com/example/vows_to_moves/vowstomoves/model/LongNumbering", name := "count", desc := "()I" } : Jvm.MethodName) prog_82_method_5_code (1 : Nat) (Option.some Jvm.ClassFile.FieldType.int), Jvm.Cond.code ({ cls := "com/example/vows_to_moves/vowstomoves/model/LongColumn", name := "size", desc := "()I" } : Jvm.MethodName) prog_81_method_2_code (1 : Nat) (Option.some Jvm.ClassFile.FieldType.int), Jvm.Cond.code ({ cls := "com/example/vows_to_moves/vowstomoves/model/LongNumbering", name := "number", desc := "(J)I" } : Jvm.MethodName) prog_82_method_2_code (4 : Nat) (Option.some Jvm.ClassFile.FieldType.int), Jvm.Cond.code ({ cls := "com/example/vows_to_moves/vowstomoves/model/LongNumbering", name := "slotOf", desc := "(J)I" } : Jvm.MethodName) prog_82_method_9_code (6 : Nat) (Option.some Jvm.ClassFile.FieldType.int), Jvm.Cond.code ({ cls := "com/example/vows_to_moves/vowstomoves/model/LongNumbering", name := "firstSlot", desc := "(JI)I" } : Jvm.MethodName) prog_82_method_10_code (5 : Nat) (Option.some Jvm.ClassFile.FieldType.int), Jvm.Cond.code ({ cls := "com/example/vows_to_moves/vowstomoves/model/LongNumbering", name := "add", desc := "(J)V" } : Jvm.MethodName) prog_82_method_7_code (3 : Nat) (Option.none : Option Jvm.ClassFile.FieldType), Jvm.Cond.code ({ cls := "com/example/vows_to_moves/vowstomoves/model/LongColumn", name := "add", desc := "(J)V" } : Jvm.MethodName) prog_81_method_4_code (4 : Nat) (Option.none : Option Jvm.ClassFile.FieldType), Jvm.Cond.code ({ cls := "com/example/vows_to_moves/vowstomoves/model/DoubleColumn", name := "size", desc := "()I" } : Jvm.MethodName) prog_72_method_2_code (1 : Nat) (Option.some Jvm.ClassFile.FieldType.int), Jvm.Cond.code ({ cls := "com/example/vows_to_moves/vowstomoves/model/DoubleColumn", name := "get", desc := "(I)D" } : Jvm.MethodName) prog_72_method_3_code (3 : Nat) (Option.some Jvm.ClassFile.FieldType.double), Jvm.Cond.code ({ cls := "com/example/vows_to_moves/vowstomoves/model/LongColumn", name := "get", desc := "(I)J" } : Jvm.MethodName) prog_81_method_3_code (2 : Nat) (Option.some Jvm.ClassFile.FieldType.long)]
set_option maxRecDepth 65536 in
theorem codes_eq : words1.filter isCode = codes1 := rfl
theorem w_codes : ∀ c ∈ words1.filter isCode, c.before args0 about1 = true := by
  rw [codes_eq]
  intro c hc
  simp only [codes1, List.mem_cons, List.not_mem_nil, or_false] at hc
  rcases hc with rfl | rfl | rfl | rfl | rfl | rfl | rfl | rfl | rfl | rfl | rfl | rfl | rfl | rfl | rfl | rfl | rfl | rfl | rfl | rfl | rfl | rfl | rfl
  · exact w_c0
  · exact w_c1
  · exact w_c2
  · exact w_c3
  · exact w_c4
  · exact w_c5
  · exact w_c6
  · exact w_c7
  · exact w_c8
  · exact w_c9
  · exact w_c10
  · exact w_c11
  · exact w_c12
  · exact w_c13
  · exact w_c14
  · exact w_c15
  · exact w_c16
  · exact w_c17
  · exact w_c18
  · exact w_c19
  · exact w_c20
  · exact w_c21
  · exact w_c22
set_option maxRecDepth 65536 in
theorem w_t1 : (words1.take 24).all (fun c => isCode c || c.before args0 about1) = true := by decide +kernel
set_option maxRecDepth 65536 in
theorem w_t2 : ((words1.drop 24).take 24).all (fun c => isCode c || c.before args0 about1) = true := by decide +kernel
set_option maxRecDepth 65536 in
theorem w_t3 : (((words1.drop 24).drop 24).take 24).all (fun c => isCode c || c.before args0 about1) = true := by decide +kernel
set_option maxRecDepth 65536 in
theorem w_t4 : ((((words1.drop 24).drop 24).drop 24).take 24).all (fun c => isCode c || c.before args0 about1) = true := by decide +kernel
set_option maxRecDepth 65536 in
theorem w_t5 : (((((words1.drop 24).drop 24).drop 24).drop 24).take 24).all (fun c => isCode c || c.before args0 about1) = true := by decide +kernel
set_option maxRecDepth 65536 in
theorem w_t6 : (((((words1.drop 24).drop 24).drop 24).drop 24).drop 24).all (fun c => isCode c || c.before args0 about1) = true := by decide +kernel
theorem w_tables : (allAtoms (Jvm.Cond.code x code maxLocals ret :: tables_1)).before args0 about1 = true := by
  rw [allAtoms_all]
  show words1.all (fun c => c.before args0 about1) = true
  refine all_split ?_ w_codes
  rw [← List.take_append_drop 24 words1, List.all_append, w_t1, ← List.take_append_drop 24 (words1.drop 24), List.all_append, w_t2, ← List.take_append_drop 24 ((words1.drop 24).drop 24), List.all_append, w_t3, ← List.take_append_drop 24 (((words1.drop 24).drop 24).drop 24), List.all_append, w_t4, ← List.take_append_drop 24 ((((words1.drop 24).drop 24).drop 24).drop 24), List.all_append, w_t5, w_t6]
  rfl
set_option maxRecDepth 65536 in
theorem w_case : (Jvm.Cond.and given_1 narrow_1).before args0 about1 = true := by decide +kernel
theorem w_applies : (headSpec (Jvm.Cond.code x code maxLocals ret :: tables_1) room_1).applies x e0.platform about1 = true :=
  (Spec.applies_iff w_frames).mpr ⟨w_running, w_runnable, w_alone, w_named, w_hears, w_ripe, w_room, w_tables⟩
theorem atStart : AtStart classFile x code maxLocals ret World_1 tables_1 room_1 Calls_1 rest_1 Pre_1 launch0 p0 e0 about1 theMethod args0 below0 :=
  ⟨lists_1, trivial, launch0.admits_env _ _ _, launch0.least_env, fairChoices_fair.cas, fairChoices_fair.clock, w_frames, w_args, w_heap, w_applies, trivial, trivial, w_case⟩
end start1
theorem witness_1 : WitnessClaimed_1 := ⟨start1.p0, start1.e0, start1.about1, start1.theMethod, start1.args0, start1.below0, start1.atStart⟩
end Jvm.Pilot.@@N@@
