import JvmDerived
import JvmDerived.Pilot.@@N@@Statement
import JvmDerived.Pilot.@@N@@Code
set_option linter.unusedVariables false
set_option linter.unusedSimpArgs false
namespace Jvm.Pilot.@@N@@
open Jvm Jvm.ClassFile Sem Op Lib Jvm.Free Jvm.Stand Jvm.LawKit Jvm.RoadKit Bundle Jvm.Pilot.@@N@@.Jvm.D
/-! own: the run from A ends well -/
def Go (tb : Tables) (e : Env) (below : List Frame) (A : State) (P : State → Outcome → Prop) : Prop := ∃ t o, Steps tb e below A t ∧ P t o
theorem own_on {tb : Tables} {e : Env} {below : List Frame} {A B : State} {P : State → Outcome → Prop} (k : ∀ t, Steps tb e below B t → Steps tb e below A t) (h : Go tb e below B P) : Go tb e below A P := by
  obtain ⟨t, o, h1, h2⟩ := h
  exact ⟨t, o, k t h1, h2⟩
theorem own_of {tb : Tables} {e : Env} {below : List Frame} {A : State} {P : State → Outcome → Prop} (h : Go tb e below A P) : ∃ t o, Steps tb e below A t ∧ P t o := h
theorem own_old {Z : State} {n0 : Nat} {h : Heap} (O : Old Z n0 h) : n0 ≤ h.size := O.1 ▸ O.2.1
theorem own_retV {p : Program} {l : Launch} {e : Env} {R : Room} {s : State} {m : MethodId} {args : Array Value} {below : List Frame} {meth : Method} {c : Code} {T : State} {locs : List Loc} {cells slots : Nat}
    (X : Stand p l e R s m args below meth c T locs cells slots) (hx : p.tables.exec = Jvm.exec) {pc : Nat} {Ls : Array Slot} {w : Value} {t : FieldType} {rest : List Value} (hret : meth.sig.returnType = some t) (ht : t.isReference = true) (hw : w.isRef = true) (hd : decode c.code pc = .ok (.areturn, 1)) {fs : List Frame}
    (hl : ∀ (f : JFrame) (acts : List Action), f.method = m → f.locked = none → f.entered = [] → (doReturn e (T.setTop f) acts (some w)).1 = T.setFrames fs) : Steps p.tables e below (T.setTop (mkF m pc Ls (w :: rest))) (T.setFrames fs) :=
  retOut X hx hret (by cases t <;> first | (simp [FieldType.isReference] at ht; done) | (cases w <;> first | rfl | (simp [Value.isRef] at hw))) (Or.inr (Or.inr (Or.inr (Or.inr ⟨rfl, ht, hw⟩)))) hd hl
theorem own_retI {p : Program} {l : Launch} {e : Env} {R : Room} {s : State} {m : MethodId} {args : Array Value} {below : List Frame} {meth : Method} {c : Code} {T : State} {locs : List Loc} {cells slots : Nat}
    (X : Stand p l e R s m args below meth c T locs cells slots) (hx : p.tables.exec = Jvm.exec) {pc : Nat} {Ls : Array Slot} {z : Int32} {rest : List Value} (hret : meth.sig.returnType = some .int) (hd : decode c.code pc = .ok (.ireturn, 1)) {fs : List Frame}
    (hl : ∀ (f : JFrame) (acts : List Action), f.method = m → f.locked = none → f.entered = [] → (doReturn e (T.setTop f) acts (some (.int z))).1 = T.setFrames fs) : Steps p.tables e below (T.setTop (mkF m pc Ls (.int z :: rest))) (T.setFrames fs) :=
  retOut X hx hret rfl (Or.inl ⟨rfl, Or.inl rfl, z, rfl⟩) hd hl
theorem own_retN {p : Program} {l : Launch} {e : Env} {R : Room} {s : State} {m : MethodId} {args : Array Value} {below : List Frame} {meth : Method} {c : Code} {T : State} {locs : List Loc} {cells slots : Nat}
    (X : Stand p l e R s m args below meth c T locs cells slots) (hx : p.tables.exec = Jvm.exec) {pc : Nat} {Ls : Array Slot} {z : Int32} {t : FieldType} {rest : List Value} (hret : meth.sig.returnType = some t) (ht : t = .boolean ∨ t = .byte ∨ t = .char ∨ t = .short) (hz : nar t z = z) (hd : decode c.code pc = .ok (.ireturn, 1)) {fs : List Frame}
    (hl : ∀ (f : JFrame) (acts : List Action), f.method = m → f.locked = none → f.entered = [] → (doReturn e (T.setTop f) acts (some (.int z))).1 = T.setFrames fs) : Steps p.tables e below (T.setTop (mkF m pc Ls (.int z :: rest))) (T.setFrames fs) :=
  retN X hx hret ht hd (by rw [hz]; exact hl)
theorem own_retD {p : Program} {l : Launch} {e : Env} {R : Room} {s : State} {m : MethodId} {args : Array Value} {below : List Frame} {meth : Method} {c : Code} {T : State} {locs : List Loc} {cells slots : Nat}
    (X : Stand p l e R s m args below meth c T locs cells slots) (hx : p.tables.exec = Jvm.exec) {pc : Nat} {Ls : Array Slot} {z : UInt64} {rest : List Value} (hret : meth.sig.returnType = some .double) (hd : decode c.code pc = .ok (.dreturn, 1)) {fs : List Frame}
    (hl : ∀ (f : JFrame) (acts : List Action), f.method = m → f.locked = none → f.entered = [] → (doReturn e (T.setTop f) acts (some (.double z))).1 = T.setFrames fs) : Steps p.tables e below (T.setTop (mkF m pc Ls (.double z :: rest))) (T.setFrames fs) :=
  retOut X hx hret rfl (Or.inr (Or.inr (Or.inl ⟨rfl, rfl, z, rfl⟩))) hd hl
theorem own_retJ {p : Program} {l : Launch} {e : Env} {R : Room} {s : State} {m : MethodId} {args : Array Value} {below : List Frame} {meth : Method} {c : Code} {T : State} {locs : List Loc} {cells slots : Nat}
    (X : Stand p l e R s m args below meth c T locs cells slots) (hx : p.tables.exec = Jvm.exec) {pc : Nat} {Ls : Array Slot} {z : Int64} {rest : List Value} (hret : meth.sig.returnType = some .long) (hd : decode c.code pc = .ok (.lreturn, 1)) {fs : List Frame}
    (hl : ∀ (f : JFrame) (acts : List Action), f.method = m → f.locked = none → f.entered = [] → (doReturn e (T.setTop f) acts (some (.long z))).1 = T.setFrames fs) : Steps p.tables e below (T.setTop (mkF m pc Ls (.long z :: rest))) (T.setFrames fs) :=
  retOut X hx hret rfl (Or.inr (Or.inl ⟨rfl, rfl, z, rfl⟩)) hd hl
theorem own_fldI {Z : State} {args : Array Value} {t : Term} {x : Addr} {C n d : String} {k : Int32} (ev : t.eval args Z none [] Z = some (.ref x)) (h : (Cond.eq (.field t C n d) (.int k)).value args Z none Z [] = some true) : Fld Z Z.heap x C n d (.int k) := by
  refine Fld.start ?_
  cases hf : Z.fieldOf? x C n d with
  | none => simp [Cond.value, Term.eval, ev, hf] at h
  | some v => cases v <;> simp [Cond.value, Term.eval, ev, hf] at h; subst h; rfl
theorem own_nar {t : FieldType} {v : Value} (h : v.isRef = true) : narrow t v = v := by rcases ref_cases h with rfl | ⟨r, rfl⟩ <;> cases t <;> rfl
theorem own_fit {t : FieldType} {v : Value} (h : v.isRef = true) (ht : t.isReference = true := by rfl) : fits t v = true := by rcases ref_cases h with rfl | ⟨r, rfl⟩ <;> cases t <;> first | rfl | (simp [FieldType.isReference] at ht)
theorem own_st {l l' : Array Slot} {i : Nat} {v : Value} {o : Slot} (hold : l[i]? = some o) (ho : o = .unset ∨ ∃ w, o = .val w ∧ w.category = 1) (hv : v.category = 1) (e : l.setIfInBounds i (.val v) = l' := by rfl) : storeLocals l i v = some l' := e ▸ Jvm.Free.XS.store1 hold ho hv
theorem own_lremM {p : Program} {l : Launch} {e : Env} {R : Room} {s : State} {m : MethodId} {args : Array Value} {below : List Frame} {meth : Method} {c : Code} {T : State} {locs : List Loc} {cells slots : Nat} {g : JFrame} {target : State}
    (X : Stand p l e R s m args below meth c T locs cells slots) (hx : p.tables.exec = Jvm.exec) (hg : g.method = m) {x y : Int64} {rest : List Value} (hd : decode c.code g.pc = .ok (.lrem, 1)) (hs : g.stack = .long y :: .long x :: rest) (hy : y ≠ 0)
    (hr : Steps p.tables e below (T.setTop { g with pc := g.pc + 1, stack := .long (x % y) :: rest }) target) : Steps p.tables e below (T.setTop g) target :=
  Jvm.Free.XT.lrem X.here hx hg hd hs hy (by rw [lrem_mod]; exact hr)
/-! own: an array of a known length, whatever it holds -/
def OwnArz (Z : State) (h : Heap) (a : Addr) (ty : FieldType) (n : Int32) : Prop := ∃ c : Cell, Arr Z h a c ty ∧ c.slots.size = n.toNatClampNeg ∧ ¬ n < 0
theorem OwnArz.of {Z : State} {h : Heap} {a : Addr} {k : ClassId} {ty : FieldType} {n : Int32} {vs : List Value} {d : Value} (F : Arv Z h a k ty n vs d) : OwnArz Z h a ty n := by obtain ⟨c, A, -, S, M, -⟩ := F; exact ⟨c, A, S, M⟩
theorem OwnArz.lt {Z : State} {h : Heap} {a : Addr} {ty : FieldType} {n : Int32} (F : OwnArz Z h a ty n) : a < h.size := by obtain ⟨c, A, -⟩ := F; exact A.lt
theorem OwnArz.ext {Z : State} {h h' : Heap} {a : Addr} {ty : FieldType} {n : Int32} (F : OwnArz Z h a ty n) (E : Ext h h') : OwnArz Z h' a ty n := by obtain ⟨c, A, r⟩ := F; exact ⟨c, A.ext E, r⟩
theorem OwnArz.other {Z : State} {h h' : Heap} {a b : Addr} {sl : Nat} {v : Value} {ty : FieldType} {n : Int32} (F : OwnArz Z h b ty n) (W : Wr h h' a sl v) (q : b ≠ a) : OwnArz Z h' b ty n := by obtain ⟨c, A, r⟩ := F; exact ⟨c, A.other W q, r⟩
theorem OwnArz.keep {Z : State} {h h' : Heap} {a : Addr} {ws : List Addr} {ty : FieldType} {n : Int32} (F : OwnArz Z h a ty n) (K : Keep h h' ws) (q : a ∉ ws) : OwnArz Z h' a ty n := by obtain ⟨c, A, r⟩ := F; exact ⟨c, ⟨K.2.1 a c A.1 q, A.2⟩, r⟩
theorem OwnArz.set {Z : State} {h h' : Heap} {a : Addr} {sl : Nat} {v : Value} {ty : FieldType} {n : Int32} {c : Cell} (A : Arr Z h a c ty) (S : c.slots.size = n.toNatClampNeg) (M : ¬ n < 0) (W : Wr h h' a sl v) : OwnArz Z h' a ty n := ⟨_, A.same W, by rw [sz_set]; exact S, M⟩
theorem own_fldN {Z : State} {args : Array Value} {t : Term} {x : Addr} {C n d : String} (ev : t.eval args Z none [] Z = some (.ref x)) (h : (Cond.eq (.field t C n d) .null).value args Z none Z [] = some true) : Fld Z Z.heap x C n d .null :=
  Fld.start ((fld_at ev).symm.trans (null_v h))
theorem own_arz {Z : State} {args : Array Value} {t : Term} {x : Addr} {ty : FieldType} {n : Int32} (ev : t.eval args Z none [] Z = some (.ref x)) (ha : (Cond.arrayOf t ty).value args Z none Z [] = some true) (hl : (Cond.eq (.length t) (.int n)).value args Z none Z [] = some true) : OwnArz Z Z.heap x ty n := by
  obtain ⟨c, A⟩ := Arr.start ev ha
  have hat := A.fin (Vm.Alike.refl _)
  by_cases hs : c.slots.size < 2 ^ 31
  · have e : (Term.length t).eval args Z none [] Z = some (.int c.slots.size.toInt32) := len_f ev hat hs
    have e2 : (Term.int n).eval args Z none [] Z = some (.int n) := rfl
    have q : c.slots.size.toInt32 = n := by
      simp only [Cond.value, e, e2] at hl
      simpa using hl
    have r := len_toInt hs
    rw [q] at r
    have z : (0 : Int32).toInt = 0 := rfl
    refine ⟨c, A, ?_, ?_⟩
    · show c.slots.size = n.toInt.toNat; omega
    · rw [Int32.lt_iff_toInt_lt]; omega
  · have e : (Term.length t).eval args Z none [] Z = none := by simp [Term.eval, ev, hat, hs]
    simp [Cond.value, e] at hl
theorem own_pn_java_util_List : plainName "java/util/List" = true := by first | (simp [plainName, overriddenIn]; done) | decide +kernel
theorem own_ef_2 (m : MethodId)  : entryFrame m #[] 0 = mkF m 0 #[] [] := by first | (simp [entryFrame, mkF, argsToLocals, Value.category]; done) | rfl
def Q2 (Z : State) (wL : Addr) (h0 : Heap) (n0 : Nat) (v : Option Value) (h : Heap) (L : List Loc) : Prop := v = some (.ref wL) ∧ Fr n0 L ∧ h = h0
theorem own_d2_0 : decode jdk_40_method_36_code 0 = .ok (.getstatic 90, 3) := by decide +kernel
theorem own_d2_3 : decode jdk_40_method_36_code 3 = .ok (.areturn, 1) := by decide +kernel
set_option maxRecDepth 65536 in
set_option maxHeartbeats 40000000 in
theorem rm2 (l : Launch) (Z : State) (a0 : Array Value) (hw : ∀ d ∈ tables_1, d.before a0 Z = true) (ws : List Jvm.Cond) (wL : Addr) (h0 : Heap) (n0 : Nat) (O0 : Old Z n0 h0) (S_L : Sta Z Z.heap "java/util/ImmutableCollections" "EMPTY_LIST" "Ljava/util/ImmutableCollections$ListN;" (.ref wL)) :
    MetFree l (⟨"java/util/List", "of", "()Ljava/util/List;"⟩ : MethodName) (head1 (Jvm.Cond.code (⟨"java/util/List", "of", "()Ljava/util/List;"⟩ : MethodName) jdk_40_method_36_code 0 (some (.object "java/util/List")) :: ws) ({ frames := 0, cells := 0, slots := 0, locals := 0 } : Room)) (fun a U => a = #[] ∧ Z.Warmed39 U.vm ∧ U.heap = h0) (fun _ _ _ _ _ => True) (fun _ U o U' => ∃ v L, o = .returned v ∧ Q2 Z wL h0 n0 v U'.heap L ∧ FrameEnd U o U' L ({ frames := 0, cells := 0, slots := 0, locals := 0 } : Room).cells ({ frames := 0, cells := 0, slots := 0, locals := 0 } : Room).slots) := by
  refine MetFree.of_bodySF (plainFor_of_name own_pn_java_util_List) hisR ?_
  intro p e s m args below meth c s₁ Bd hml0 hP hK
  obtain ⟨rfl, hZ, hh⟩ := hP
  have hx := Bd.exec
  have hby := Bd.bytes
  have hml : c.maxLocals = 0 := hml0
  have hown : s.vm.findClass "java/util/List" = some m.cls := findClass_of_methodNamed Bd.named
  have hnm := (name_of_methodNamed Bd.named Bd.method).1
  have X0 : Stand p l e ({ frames := 0, cells := 0, slots := 0, locals := 0 } : Room) s m #[] below meth c s₁ [] 0 0 := Stand.of_body Bd
  have e0 : s₁.heap = h0 := by rw [← hh, Bd.state]; rfl
  have N0 := Fr.nil n0
  change Go p.tables e below _ _
  refine own_on (B := s₁.setTop (mkF m 0 #[] [])) (fun tz kz => castTop (own_ef_2 m ) kz) ?_
  obtain ⟨T1, X1, e1, st1⟩ := getS2 X0 hx hZ hown (host := "") (Or.inl (hw _ (List.mem_of_getElem? (i := 15) rfl))) Via.refl e0 (S_L.ext O0.2) (g := (mkF m 0 #[] [])) rfl (hb hby own_d2_0)
  refine own_on (B := T1.setTop (mkF m 3 #[] [(.ref wL)])) (fun tz kz => st1 _ kz) ?_
  obtain ⟨fs, hr, hrun, hended, hW, hsame⟩ := X1.leave (v := some (.ref wL)) (fun h => by rw [Bd.returns] at h; cases h)
  refine own_of ⟨_, _, ?_, hrun, hended, _, _, rfl, ?_, ⟨_, rfl⟩, hW, hsame.mono (by decide) (by decide)⟩
  · show Steps p.tables e below (T1.setTop (mkF m 3 #[] [(.ref wL)])) _
    exact own_retV X1 hx Bd.returns rfl rfl (hb hby own_d2_3) hr
  · show Q2 Z wL h0 n0 _ T1.heap _
    rw [e1]
    exact ⟨rfl, N0, rfl⟩
theorem own_pn_java_util_ImmutableCollections_ListN : plainName "java/util/ImmutableCollections$ListN" = true := by first | (simp [plainName, overriddenIn]; done) | decide +kernel
theorem own_ef_6 (m : MethodId) (x0 : Addr) : entryFrame m #[(.ref x0)] 1 = mkF m 0 #[.val (.ref x0)] [] := by first | (simp [entryFrame, mkF, argsToLocals, Value.category]; done) | rfl
def Q6 (Z : State) (wL : Addr) (ea : Addr) (h0 : Heap) (n0 : Nat) (v : Option Value) (h : Heap) (L : List Loc) : Prop := v = some (.int 0) ∧ Fr n0 L ∧ h = h0
theorem own_d6_0 : decode jdk_45_method_3_code 0 = .ok (.aload_n 0, 1) := by decide +kernel
theorem own_d6_1 : decode jdk_45_method_3_code 1 = .ok (.getfield 7, 3) := by decide +kernel
theorem own_d6_4 : decode jdk_45_method_3_code 4 = .ok (.arraylength, 1) := by decide +kernel
theorem own_d6_5 : decode jdk_45_method_3_code 5 = .ok (.ireturn, 1) := by decide +kernel
set_option maxRecDepth 65536 in
set_option maxHeartbeats 40000000 in
theorem rm6 (l : Launch) (Z : State) (a0 : Array Value) (hw : ∀ d ∈ tables_1, d.before a0 Z = true) (ws : List Jvm.Cond) (wL : Addr) (ea : Addr) (h0 : Heap) (n0 : Nat) (O0 : Old Z n0 h0) (F_e : Fld Z Z.heap wL "java/util/ImmutableCollections$ListN" "elements" "[Ljava/lang/Object;" (.ref ea)) (A_e : OwnArz Z Z.heap ea (.object "java/lang/Object") 0) :
    MetFree l (⟨"java/util/ImmutableCollections$ListN", "size", "()I"⟩ : MethodName) (head1 (Jvm.Cond.code (⟨"java/util/ImmutableCollections$ListN", "size", "()I"⟩ : MethodName) jdk_45_method_3_code 1 (some .int) :: ws) ({ frames := 0, cells := 0, slots := 0, locals := 0 } : Room)) (fun a U => a = #[(.ref wL)] ∧ Z.Warmed39 U.vm ∧ U.heap = h0) (fun _ _ _ _ _ => True) (fun _ U o U' => ∃ v L, o = .returned v ∧ Q6 Z wL ea h0 n0 v U'.heap L ∧ FrameEnd U o U' L ({ frames := 0, cells := 0, slots := 0, locals := 0 } : Room).cells ({ frames := 0, cells := 0, slots := 0, locals := 0 } : Room).slots) := by
  refine MetFree.of_bodySF (plainFor_of_name own_pn_java_util_ImmutableCollections_ListN) hisR ?_
  intro p e s m args below meth c s₁ Bd hml0 hP hK
  obtain ⟨rfl, hZ, hh⟩ := hP
  have hx := Bd.exec
  have hby := Bd.bytes
  have hml : c.maxLocals = 1 := hml0
  have hown : s.vm.findClass "java/util/ImmutableCollections$ListN" = some m.cls := findClass_of_methodNamed Bd.named
  have hnm := (name_of_methodNamed Bd.named Bd.method).1
  have X0 : Stand p l e ({ frames := 0, cells := 0, slots := 0, locals := 0 } : Room) s m #[(.ref wL)] below meth c s₁ [] 0 0 := Stand.of_body Bd
  have e0 : s₁.heap = h0 := by rw [← hh, Bd.state]; rfl
  have N0 := Fr.nil n0
  change Go p.tables e below _ _
  refine own_on (B := s₁.setTop (mkF m 0 #[.val (.ref wL)] [])) (fun tz kz => castTop (own_ef_6 m wL) kz) ?_
  refine own_on (B := s₁.setTop (mkF m 1 #[.val (.ref wL)] [(.ref wL)])) (fun tz kz => ?_) ?_
  · show Steps p.tables e below (s₁.setTop (mkF m 0 #[.val (.ref wL)] [])) tz
    refine XS.aloadN X0.here hx rfl (hb hby own_d6_0) rfl rfl ?_
    exact kz
  obtain ⟨T1, X1, e1, st1⟩ := getF X0 hx hZ hown (host := "") (Or.inl (hw _ (List.mem_of_getElem? (i := 49) rfl))) Via.refl e0 (F_e.ext O0.2) (g := (mkF m 1 #[.val (.ref wL)] [(.ref wL)])) rfl rfl (hb hby own_d6_1)
  refine own_on (B := T1.setTop (mkF m 4 #[.val (.ref wL)] [(.ref ea)])) (fun tz kz => st1 _ kz) ?_
  obtain ⟨cl2, Ar2, S2, M2⟩ := id (A_e.ext O0.2)
  refine own_on (B := T1.setTop (mkF m 5 #[.val (.ref wL)] [(.int (0 : Int32))])) (fun tz kz => ?_) ?_
  · show Steps p.tables e below (T1.setTop (mkF m 4 #[.val (.ref wL)] [(.ref ea)])) tz
    refine X1.arraylength hx (by rw [e1]; exact Ar2.1) (State.isArrayOf_alike hZ.alike Ar2.2.1) (g := (mkF m 4 #[.val (.ref wL)] [(.ref ea)])) rfl rfl (hb hby own_d6_4) _ ?_
    rw [len_of S2 M2]
    exact kz
  obtain ⟨fs, hr, hrun, hended, hW, hsame⟩ := X1.leave (v := some (.int (0 : Int32))) (fun h => by rw [Bd.returns] at h; cases h)
  refine own_of ⟨_, _, ?_, hrun, hended, _, _, rfl, ?_, ⟨_, rfl⟩, hW, hsame.mono (by decide) (by decide)⟩
  · show Steps p.tables e below (T1.setTop (mkF m 5 #[.val (.ref wL)] [(.int (0 : Int32))])) _
    exact own_retI X1 hx Bd.returns (hb hby own_d6_5) hr
  · show Q6 Z wL ea h0 n0 _ T1.heap _
    rw [e1]
    exact ⟨rfl, N0, rfl⟩
theorem own_pn_java_util_ImmutableCollections_ListItr : plainName "java/util/ImmutableCollections$ListItr" = true := by first | (simp [plainName, overriddenIn]; done) | decide +kernel
theorem own_ef_7 (m : MethodId) (x0 : Addr) (x1 : Addr) (x2 : Int32) : entryFrame m #[(.ref x0), (.ref x1), (.int x2)] 3 = mkF m 0 #[.val (.ref x0), .val (.ref x1), .val (.int x2)] [] := by first | (simp [entryFrame, mkF, argsToLocals, Value.category]; done) | rfl
def Q7 (Z : State) (u0 : Addr) (u1 : Addr) (p2 : Int32) (h0 : Heap) (n0 : Nat) (v : Option Value) (h : Heap) (L : List Loc) : Prop := v = none ∧ Fr n0 L ∧ Keep h0 h [u0] ∧ Fld Z h u0 "java/util/ImmutableCollections$ListItr" "size" "I" (.int p2) ∧ Fld Z h u0 "java/util/ImmutableCollections$ListItr" "cursor" "I" (.int 0)
theorem own_d7_0 : decode jdk_53_method_1_code 0 = .ok (.aload_n 0, 1) := by decide +kernel
theorem own_d7_1 : decode jdk_53_method_1_code 1 = .ok (.invokespecial 1, 3) := by decide +kernel
theorem own_d7_4 : decode jdk_53_method_1_code 4 = .ok (.aload_n 0, 1) := by decide +kernel
theorem own_d7_5 : decode jdk_53_method_1_code 5 = .ok (.aload_n 1, 1) := by decide +kernel
theorem own_d7_6 : decode jdk_53_method_1_code 6 = .ok (.putfield 7, 3) := by decide +kernel
theorem own_d7_9 : decode jdk_53_method_1_code 9 = .ok (.aload_n 0, 1) := by decide +kernel
theorem own_d7_10 : decode jdk_53_method_1_code 10 = .ok (.iload_n 2, 1) := by decide +kernel
theorem own_d7_11 : decode jdk_53_method_1_code 11 = .ok (.putfield 13, 3) := by decide +kernel
theorem own_d7_14 : decode jdk_53_method_1_code 14 = .ok (.aload_n 0, 1) := by decide +kernel
theorem own_d7_15 : decode jdk_53_method_1_code 15 = .ok (.iconst 0, 1) := by decide +kernel
theorem own_d7_16 : decode jdk_53_method_1_code 16 = .ok (.putfield 17, 3) := by decide +kernel
theorem own_d7_19 : decode jdk_53_method_1_code 19 = .ok (.aload_n 0, 1) := by decide +kernel
theorem own_d7_20 : decode jdk_53_method_1_code 20 = .ok (.iconst 0, 1) := by decide +kernel
theorem own_d7_21 : decode jdk_53_method_1_code 21 = .ok (.putfield 20, 3) := by decide +kernel
theorem own_d7_24 : decode jdk_53_method_1_code 24 = .ok (.return_, 1) := by decide +kernel
set_option maxRecDepth 65536 in
set_option maxHeartbeats 40000000 in
theorem rm7 (l : Launch) (Z : State) (a0 : Array Value) (hw : ∀ d ∈ tables_1, d.before a0 Z = true) (ws : List Jvm.Cond) (u0 : Addr) (u1 : Addr) (p2 : Int32) (h0 : Heap) (n0 : Nat) (O0 : Old Z n0 h0) (E_u0 : Exa Z h0 u0 "java/util/ImmutableCollections$ListItr") (g_u0 : n0 ≤ u0) (F_list : Fld Z h0 u0 "java/util/ImmutableCollections$ListItr" "list" "Ljava/util/List;" .null) (F_size : Fld Z h0 u0 "java/util/ImmutableCollections$ListItr" "size" "I" (.int (0 : Int32))) (F_cursor : Fld Z h0 u0 "java/util/ImmutableCollections$ListItr" "cursor" "I" (.int (0 : Int32))) (F_isListIterator : Fld Z h0 u0 "java/util/ImmutableCollections$ListItr" "isListIterator" "Z" (.int (0 : Int32))) :
    MetFree l (⟨"java/util/ImmutableCollections$ListItr", "<init>", "(Ljava/util/List;I)V"⟩ : MethodName) (head1 (Jvm.Cond.code (⟨"java/util/ImmutableCollections$ListItr", "<init>", "(Ljava/util/List;I)V"⟩ : MethodName) jdk_53_method_1_code 3 none :: ws) ({ frames := 1, cells := 0, slots := 0, locals := 12 } : Room)) (fun a U => a = #[(.ref u0), (.ref u1), (.int p2)] ∧ Z.Warmed39 U.vm ∧ U.heap = h0) (fun _ _ _ _ _ => True) (fun _ U o U' => ∃ v L, o = .returned v ∧ Q7 Z u0 u1 p2 h0 n0 v U'.heap L ∧ FrameEnd U o U' L ({ frames := 1, cells := 0, slots := 0, locals := 12 } : Room).cells ({ frames := 1, cells := 0, slots := 0, locals := 12 } : Room).slots) := by
  refine MetFree.of_bodySF (plainFor_of_name own_pn_java_util_ImmutableCollections_ListItr) hisR ?_
  intro p e s m args below meth c s₁ Bd hml0 hP hK
  obtain ⟨rfl, hZ, hh⟩ := hP
  have hx := Bd.exec
  have hby := Bd.bytes
  have hml : c.maxLocals = 3 := hml0
  have hown : s.vm.findClass "java/util/ImmutableCollections$ListItr" = some m.cls := findClass_of_methodNamed Bd.named
  have hnm := (name_of_methodNamed Bd.named Bd.method).1
  have X0 : Stand p l e ({ frames := 1, cells := 0, slots := 0, locals := 12 } : Room) s m #[(.ref u0), (.ref u1), (.int p2)] below meth c s₁ [] 0 0 := Stand.of_body Bd
  have e0 : s₁.heap = h0 := by rw [← hh, Bd.state]; rfl
  have N0 := Fr.nil n0
  change Go p.tables e below _ _
  refine own_on (B := s₁.setTop (mkF m 0 #[.val (.ref u0), .val (.ref u1), .val (.int p2)] [])) (fun tz kz => castTop (own_ef_7 m u0 u1 p2) kz) ?_
  refine own_on (B := s₁.setTop (mkF m 1 #[.val (.ref u0), .val (.ref u1), .val (.int p2)] [(.ref u0)])) (fun tz kz => ?_) ?_
  · show Steps p.tables e below (s₁.setTop (mkF m 0 #[.val (.ref u0), .val (.ref u1), .val (.int p2)] [])) tz
    refine XS.aloadN X0.here hx rfl (hb hby own_d7_0) rfl rfl ?_
    exact kz
  obtain ⟨T1, X1, e1, st1⟩ := initO X0 hx hZ hown (hw _ (List.mem_of_getElem? (i := 55) rfl)) (hw _ (List.mem_of_getElem? (i := 23) rfl)) (hw _ (List.mem_of_getElem? (i := 24) rfl)) e0 (g := (mkF m 1 #[.val (.ref u0), .val (.ref u1), .val (.int p2)] [(.ref u0)])) rfl (by rw [hml]; rfl) rfl (hb hby own_d7_1) (by decide) (W := 0) (by show 2 * 0 + _ ≤ _; exact Nat.le_of_eq rfl) (by decide)
  refine own_on (B := T1.setTop (mkF m 4 #[.val (.ref u0), .val (.ref u1), .val (.int p2)] [])) (fun tz kz => st1 _ kz) ?_
  refine own_on (B := T1.setTop (mkF m 6 #[.val (.ref u0), .val (.ref u1), .val (.int p2)] [(.ref u1), (.ref u0)])) (fun tz kz => ?_) ?_
  · show Steps p.tables e below (T1.setTop (mkF m 4 #[.val (.ref u0), .val (.ref u1), .val (.int p2)] [])) tz
    refine XS.aloadN X1.here hx rfl (hb hby own_d7_4) rfl rfl ?_
    show Steps p.tables e below (T1.setTop (mkF m 5 #[.val (.ref u0), .val (.ref u1), .val (.int p2)] [(.ref u0)])) tz
    refine XS.aloadN X1.here hx rfl (hb hby own_d7_5) rfl rfl ?_
    exact kz
  obtain ⟨T2, h2, X2, e2, W2, st2⟩ := putF X1 hx hZ hown (host := "") (Or.inl (hw _ (List.mem_of_getElem? (i := 56) rfl))) Via.refl e1 F_list E_u0 (Or.inr ⟨(hw _ (List.mem_of_getElem? (i := 57) rfl)), rfl, hnm⟩) (hw _ (List.mem_of_getElem? (i := 40) rfl)) (ty := (.object "java/util/List")) (by decide) rfl rfl (g := (mkF m 6 #[.val (.ref u0), .val (.ref u1), .val (.int p2)] [(.ref u1), (.ref u0)])) rfl rfl (hb hby own_d7_6)
  have Fw2 := F_list.same W2
  have N2 := Fr.snoc X2 N0 g_u0
  have O3 := O0.wr W2 g_u0
  have K3 : Keep h0 h2 [u0] := (Keep.refl h0 [u0]).wr W2 (Or.inl (List.mem_of_getElem? (i := 0) rfl))
  refine own_on (B := T2.setTop (mkF m 9 #[.val (.ref u0), .val (.ref u1), .val (.int p2)] [])) (fun tz kz => st2 _ kz) ?_
  refine own_on (B := T2.setTop (mkF m 11 #[.val (.ref u0), .val (.ref u1), .val (.int p2)] [(.int p2), (.ref u0)])) (fun tz kz => ?_) ?_
  · show Steps p.tables e below (T2.setTop (mkF m 9 #[.val (.ref u0), .val (.ref u1), .val (.int p2)] [])) tz
    refine XS.aloadN X2.here hx rfl (hb hby own_d7_9) rfl rfl ?_
    show Steps p.tables e below (T2.setTop (mkF m 10 #[.val (.ref u0), .val (.ref u1), .val (.int p2)] [(.ref u0)])) tz
    refine XS.iloadN X2.here hx rfl (hb hby own_d7_10) rfl ?_
    exact kz
  have f_4 := (F_size.other W2 (Or.inr (slot_ne (Or.inr (hw _ (List.mem_of_getElem? (i := 59) rfl))) (Or.inr (hw _ (List.mem_of_getElem? (i := 57) rfl))) (by decide) (t := .int) (t' := (.object "java/util/List")) (by decide) (by decide))))
  have f_5 := (E_u0.wr W2)
  obtain ⟨T6, h6, X6, e6, W6, st6⟩ := putF X2 hx hZ hown (host := "") (Or.inl (hw _ (List.mem_of_getElem? (i := 58) rfl))) Via.refl e2 f_4 f_5 (Or.inr ⟨(hw _ (List.mem_of_getElem? (i := 59) rfl)), rfl, hnm⟩) (hw _ (List.mem_of_getElem? (i := 40) rfl)) (ty := .int) (by decide) rfl rfl (g := (mkF m 11 #[.val (.ref u0), .val (.ref u1), .val (.int p2)] [(.int p2), (.ref u0)])) rfl rfl (hb hby own_d7_11)
  have Fw6 := f_4.same W6
  have N6 := Fr.snoc X6 N2 g_u0
  have O7 := O3.wr W6 g_u0
  have K7 : Keep h0 h6 [u0] := K3.wr W6 (Or.inl (List.mem_of_getElem? (i := 0) rfl))
  refine own_on (B := T6.setTop (mkF m 14 #[.val (.ref u0), .val (.ref u1), .val (.int p2)] [])) (fun tz kz => st6 _ kz) ?_
  refine own_on (B := T6.setTop (mkF m 16 #[.val (.ref u0), .val (.ref u1), .val (.int p2)] [(.int (0 : Int32)), (.ref u0)])) (fun tz kz => ?_) ?_
  · show Steps p.tables e below (T6.setTop (mkF m 14 #[.val (.ref u0), .val (.ref u1), .val (.int p2)] [])) tz
    refine XS.aloadN X6.here hx rfl (hb hby own_d7_14) rfl rfl ?_
    show Steps p.tables e below (T6.setTop (mkF m 15 #[.val (.ref u0), .val (.ref u1), .val (.int p2)] [(.ref u0)])) tz
    refine XS.iconst X6.here hx rfl (hb hby own_d7_15) ?_
    exact kz
  have f_8 := ((F_cursor.other W2 (Or.inr (slot_ne (Or.inl (hw _ (List.mem_of_getElem? (i := 61) rfl))) (Or.inr (hw _ (List.mem_of_getElem? (i := 57) rfl))) (by decide) (t := .int) (t' := (.object "java/util/List")) (by decide) (by decide)))).other W6 (Or.inr (slot_ne (Or.inl (hw _ (List.mem_of_getElem? (i := 61) rfl))) (Or.inr (hw _ (List.mem_of_getElem? (i := 59) rfl))) (by decide) (t := .int) (t' := .int) (by decide) (by decide))))
  have f_9 := (f_5.wr W6)
  obtain ⟨T10, h10, X10, e10, W10, st10⟩ := putF X6 hx hZ hown (host := "") (Or.inl (hw _ (List.mem_of_getElem? (i := 60) rfl))) Via.refl e6 f_8 f_9 (Or.inl (hw _ (List.mem_of_getElem? (i := 61) rfl))) (hw _ (List.mem_of_getElem? (i := 40) rfl)) (ty := .int) (by decide) rfl rfl (g := (mkF m 16 #[.val (.ref u0), .val (.ref u1), .val (.int p2)] [(.int (0 : Int32)), (.ref u0)])) rfl rfl (hb hby own_d7_16)
  have Fw10 := f_8.same W10
  have N10 := Fr.snoc X10 N6 g_u0
  have O11 := O7.wr W10 g_u0
  have K11 : Keep h0 h10 [u0] := K7.wr W10 (Or.inl (List.mem_of_getElem? (i := 0) rfl))
  refine own_on (B := T10.setTop (mkF m 19 #[.val (.ref u0), .val (.ref u1), .val (.int p2)] [])) (fun tz kz => st10 _ kz) ?_
  refine own_on (B := T10.setTop (mkF m 21 #[.val (.ref u0), .val (.ref u1), .val (.int p2)] [(.int (0 : Int32)), (.ref u0)])) (fun tz kz => ?_) ?_
  · show Steps p.tables e below (T10.setTop (mkF m 19 #[.val (.ref u0), .val (.ref u1), .val (.int p2)] [])) tz
    refine XS.aloadN X10.here hx rfl (hb hby own_d7_19) rfl rfl ?_
    show Steps p.tables e below (T10.setTop (mkF m 20 #[.val (.ref u0), .val (.ref u1), .val (.int p2)] [(.ref u0)])) tz
    refine XS.iconst X10.here hx rfl (hb hby own_d7_20) ?_
    exact kz
  have f_12 := (((F_isListIterator.other W2 (Or.inr (slot_ne (Or.inr (hw _ (List.mem_of_getElem? (i := 63) rfl))) (Or.inr (hw _ (List.mem_of_getElem? (i := 57) rfl))) (by decide) (t := .boolean) (t' := (.object "java/util/List")) (by decide) (by decide)))).other W6 (Or.inr (slot_ne (Or.inr (hw _ (List.mem_of_getElem? (i := 63) rfl))) (Or.inr (hw _ (List.mem_of_getElem? (i := 59) rfl))) (by decide) (t := .boolean) (t' := .int) (by decide) (by decide)))).other W10 (Or.inr (slot_ne (Or.inr (hw _ (List.mem_of_getElem? (i := 63) rfl))) (Or.inl (hw _ (List.mem_of_getElem? (i := 61) rfl))) (by decide) (t := .boolean) (t' := .int) (by decide) (by decide))))
  have f_13 := (f_9.wr W10)
  obtain ⟨T14, h14, X14, e14, W14, st14⟩ := putFN X10 hx hZ hown (hw _ (List.mem_of_getElem? (i := 62) rfl)) Via.refl e10 f_12 f_13 (Or.inr ⟨(hw _ (List.mem_of_getElem? (i := 63) rfl)), rfl, hnm⟩) (hw _ (List.mem_of_getElem? (i := 40) rfl)) (ty := .boolean) (v' := (.int (nar .boolean (0 : Int32)))) (by decide) rfl (fits_nar_bool _) (g := (mkF m 21 #[.val (.ref u0), .val (.ref u1), .val (.int p2)] [(.int (0 : Int32)), (.ref u0)])) rfl rfl (hb hby own_d7_21)
  have Fw14 := f_12.same W14
  have N14 := Fr.snoc X14 N10 g_u0
  have O15 := O11.wr W14 g_u0
  have K15 : Keep h0 h14 [u0] := K11.wr W14 (Or.inl (List.mem_of_getElem? (i := 0) rfl))
  refine own_on (B := T14.setTop (mkF m 24 #[.val (.ref u0), .val (.ref u1), .val (.int p2)] [])) (fun tz kz => st14 _ kz) ?_
  have f_16 := ((Fw6.other W10 (Or.inr (slot_ne (Or.inr (hw _ (List.mem_of_getElem? (i := 59) rfl))) (Or.inl (hw _ (List.mem_of_getElem? (i := 61) rfl))) (by decide) (t := .int) (t' := .int) (by decide) (by decide)))).other W14 (Or.inr (slot_ne (Or.inr (hw _ (List.mem_of_getElem? (i := 59) rfl))) (Or.inr (hw _ (List.mem_of_getElem? (i := 63) rfl))) (by decide) (t := .int) (t' := .boolean) (by decide) (by decide))))
  have f_17 := (Fw10.other W14 (Or.inr (slot_ne (Or.inl (hw _ (List.mem_of_getElem? (i := 61) rfl))) (Or.inr (hw _ (List.mem_of_getElem? (i := 63) rfl))) (by decide) (t := .int) (t' := .boolean) (by decide) (by decide))))
  obtain ⟨fs, hr, hrun, hended, hW, hsame⟩ := X14.leave (v := none) (fun _ => rfl)
  refine own_of ⟨_, _, ?_, hrun, hended, _, _, rfl, ?_, ⟨_, rfl⟩, hW, hsame.mono (by decide) (by decide)⟩
  · show Steps p.tables e below (T14.setTop (mkF m 24 #[.val (.ref u0), .val (.ref u1), .val (.int p2)] [])) _
    exact X14.returnOut hx Bd.returns (hb hby own_d7_24) hr
  · show Q7 Z u0 u1 p2 h0 n0 _ T14.heap _
    rw [e14]
    exact ⟨rfl, N14, K15, f_16, f_17⟩
theorem own_pn_java_util_ImmutableCollections_AbstractImmutableList : plainName "java/util/ImmutableCollections$AbstractImmutableList" = true := by first | (simp [plainName, overriddenIn]; done) | decide +kernel
theorem own_ef_5 (m : MethodId) (x0 : Addr) : entryFrame m #[(.ref x0)] 1 = mkF m 0 #[.val (.ref x0)] [] := by first | (simp [entryFrame, mkF, argsToLocals, Value.category]; done) | rfl
def Q5 (Z : State) (wL : Addr) (ea : Addr) (h0 : Heap) (n0 : Nat) (v : Option Value) (h : Heap) (L : List Loc) : Prop := ∃ d : Addr, v = some (.ref d) ∧ Fr n0 L ∧ Keep h0 h [] ∧ h0.size ≤ d ∧ Exa Z h d "java/util/ImmutableCollections$ListItr" ∧ Fld Z h d "java/util/ImmutableCollections$ListItr" "size" "I" (.int 0) ∧ Fld Z h d "java/util/ImmutableCollections$ListItr" "cursor" "I" (.int 0)
theorem own_d5_0 : decode jdk_46_method_10_code 0 = .ok (.new 61, 3) := by decide +kernel
theorem own_d5_3 : decode jdk_46_method_10_code 3 = .ok (.dup, 1) := by decide +kernel
theorem own_d5_4 : decode jdk_46_method_10_code 4 = .ok (.aload_n 0, 1) := by decide +kernel
theorem own_d5_5 : decode jdk_46_method_10_code 5 = .ok (.aload_n 0, 1) := by decide +kernel
theorem own_pd0 : parseMethodDescriptor "()I" = some ⟨[], some .int⟩ := by decide +kernel
theorem own_d5_6 : decode jdk_46_method_10_code 6 = .ok (.invokevirtual 13, 3) := by decide +kernel
theorem own_pd1 : parseMethodDescriptor "(Ljava/util/List;I)V" = some ⟨[(.object "java/util/List"), .int], none⟩ := by decide +kernel
theorem own_d5_9 : decode jdk_46_method_10_code 9 = .ok (.invokespecial 63, 3) := by decide +kernel
theorem own_d5_12 : decode jdk_46_method_10_code 12 = .ok (.areturn, 1) := by decide +kernel
set_option maxRecDepth 65536 in
set_option maxHeartbeats 40000000 in
theorem rm5 (l : Launch) (Z : State) (a0 : Array Value) (hw : ∀ d ∈ tables_1, d.before a0 Z = true) (ws : List Jvm.Cond) (wL : Addr) (ea : Addr) (h0 : Heap) (n0 : Nat) (O0 : Old Z n0 h0) (E_L : Exa Z Z.heap wL "java/util/ImmutableCollections$ListN") (F_e : Fld Z Z.heap wL "java/util/ImmutableCollections$ListN" "elements" "[Ljava/lang/Object;" (.ref ea)) (A_e : OwnArz Z Z.heap ea (.object "java/lang/Object") 0) :
    MetFree l (⟨"java/util/ImmutableCollections$AbstractImmutableList", "iterator", "()Ljava/util/Iterator;"⟩ : MethodName) (head1 (Jvm.Cond.code (⟨"java/util/ImmutableCollections$AbstractImmutableList", "iterator", "()Ljava/util/Iterator;"⟩ : MethodName) jdk_46_method_10_code 1 (some (.object "java/util/Iterator")) :: ws) ({ frames := 2, cells := 1, slots := 4, locals := 48 } : Room)) (fun a U => a = #[(.ref wL)] ∧ Z.Warmed39 U.vm ∧ U.heap = h0) (fun _ _ _ _ _ => True) (fun _ U o U' => ∃ v L, o = .returned v ∧ Q5 Z wL ea h0 n0 v U'.heap L ∧ FrameEnd U o U' L ({ frames := 2, cells := 1, slots := 4, locals := 48 } : Room).cells ({ frames := 2, cells := 1, slots := 4, locals := 48 } : Room).slots) := by
  refine MetFree.of_bodySF (plainFor_of_name own_pn_java_util_ImmutableCollections_AbstractImmutableList) hisR ?_
  intro p e s m args below meth c s₁ Bd hml0 hP hK
  obtain ⟨rfl, hZ, hh⟩ := hP
  have hx := Bd.exec
  have hby := Bd.bytes
  have hml : c.maxLocals = 1 := hml0
  have hown : s.vm.findClass "java/util/ImmutableCollections$AbstractImmutableList" = some m.cls := findClass_of_methodNamed Bd.named
  have hnm := (name_of_methodNamed Bd.named Bd.method).1
  have X0 : Stand p l e ({ frames := 2, cells := 1, slots := 4, locals := 48 } : Room) s m #[(.ref wL)] below meth c s₁ [] 0 0 := Stand.of_body Bd
  have e0 : s₁.heap = h0 := by rw [← hh, Bd.state]; rfl
  have N0 := Fr.nil n0
  change Go p.tables e below _ _
  refine own_on (B := s₁.setTop (mkF m 0 #[.val (.ref wL)] [])) (fun tz kz => castTop (own_ef_5 m wL) kz) ?_
  obtain ⟨T1, h1, X1, e1, E1, A1, D1, -, st1⟩ := newO X0 hx hZ hown (hw _ (List.mem_of_getElem? (i := 39) rfl)) (hw _ (List.mem_of_getElem? (i := 40) rfl)) (hw _ (List.mem_of_getElem? (i := 41) rfl)) e0 (g := (mkF m 0 #[.val (.ref wL)] [])) rfl (hb hby own_d5_0) (by decide) (by decide)
  obtain ⟨b1, g1⟩ : ∃ z, z = h0.size := ⟨_, rfl⟩
  rw [← g1] at A1 D1 st1
  have g_b1 : n0 ≤ b1 := Nat.le_trans (own_old O0) (Nat.le_of_eq g1.symm)
  have sz_b1 : h0.size ≤ b1 := Nat.le_trans (Keep.refl h0 []).1 (Nat.le_of_eq g1.symm)
  have O2 := O0.ext E1
  have K2 : Keep h0 h1 [] := (Keep.refl h0 []).ext E1
  have F1_list : Fld Z h1 b1 "java/util/ImmutableCollections$ListItr" "list" "Ljava/util/List;" .null := D1 (Or.inr (hw _ (List.mem_of_getElem? (i := 57) rfl))) (ty := (.object "java/util/List")) (by decide)
  have F1_size : Fld Z h1 b1 "java/util/ImmutableCollections$ListItr" "size" "I" (.int (0 : Int32)) := D1 (Or.inr (hw _ (List.mem_of_getElem? (i := 59) rfl))) (ty := .int) (by decide)
  have F1_cursor : Fld Z h1 b1 "java/util/ImmutableCollections$ListItr" "cursor" "I" (.int (0 : Int32)) := D1 (Or.inl (hw _ (List.mem_of_getElem? (i := 61) rfl))) (ty := .int) (by decide)
  have F1_isListIterator : Fld Z h1 b1 "java/util/ImmutableCollections$ListItr" "isListIterator" "Z" (.int (0 : Int32)) := D1 (Or.inr (hw _ (List.mem_of_getElem? (i := 63) rfl))) (ty := .boolean) (by decide)
  refine own_on (B := T1.setTop (mkF m 3 #[.val (.ref wL)] [(.ref b1)])) (fun tz kz => st1 _ kz) ?_
  refine own_on (B := T1.setTop (mkF m 6 #[.val (.ref wL)] [(.ref wL), (.ref wL), (.ref b1), (.ref b1)])) (fun tz kz => ?_) ?_
  · show Steps p.tables e below (T1.setTop (mkF m 3 #[.val (.ref wL)] [(.ref b1)])) tz
    refine XS.dup X1.here hx rfl (hb hby own_d5_3) rfl rfl ?_
    show Steps p.tables e below (T1.setTop (mkF m 4 #[.val (.ref wL)] [(.ref b1), (.ref b1)])) tz
    refine XS.aloadN X1.here hx rfl (hb hby own_d5_4) rfl rfl ?_
    show Steps p.tables e below (T1.setTop (mkF m 5 #[.val (.ref wL)] [(.ref wL), (.ref b1), (.ref b1)])) tz
    refine XS.aloadN X1.here hx rfl (hb hby own_d5_5) rfl rfl ?_
    exact kz
  obtain ⟨cq3, kq3, q3a, q3b, q3c⟩ := isOf hZ e1 (E_L.ext O2.2)
  obtain ⟨_, _, ⟨T3, L3, k3, n3⟩, -, X3, ⟨Lc3, hQ3, l3, y3, z3⟩, st3⟩ := X1.virtualBackUp hx (x := (⟨"java/util/ImmutableCollections$AbstractImmutableList", "size", "()I"⟩ : MethodName)) (y := (⟨"java/util/ImmutableCollections$ListN", "size", "()I"⟩ : MethodName)) (owner := "java/util/AbstractCollection") hown (mvT hZ (hw _ (List.mem_of_getElem? (i := 42) rfl))) (mvT hZ (hw _ (List.mem_of_getElem? (i := 43) rfl))) (mvT hZ (hw _ (List.mem_of_getElem? (i := 44) rfl))) (by decide) (mvT hZ (hw _ (List.mem_of_getElem? (i := 45) rfl))) (mvT hZ (hw _ (List.mem_of_getElem? (i := 46) rfl))) (backOf (W := 3) (rm6 l Z a0 hw [] wL ea h1 n0 O2 F_e A_e) hZ (hw _ (List.mem_of_getElem? (i := 48) rfl)) (hw _ (List.mem_of_getElem? (i := 47) rfl)) (by decide) (by decide)) q3a q3c (g := (mkF m 6 #[.val (.ref wL)] [(.ref wL), (.ref wL), (.ref b1), (.ref b1)])) rfl (by rw [hml]; rfl) (Steps.refl _) (argsL := []) (rest := [(.ref wL), (.ref b1), (.ref b1)]) (lenOf own_pd0 rfl) rfl (by show 2 * 0 + _ ≤ _; exact Nat.le_of_eq rfl) (hb hby own_d5_6) (fun _ _ => ⟨rfl, e1, (by decide : 1 + 0 ≤ _), (by decide : 4 + 0 ≤ _)⟩)
  dsimp only [Pt.U, Pt.locs, Pt.cells, Pt.slots] at X3 l3 y3 z3 st3 hQ3
  subst l3 y3 z3
  obtain ⟨rfl, Nq3, e3⟩ := hQ3
  have N3 := Fr.app N0 Nq3
  refine own_on (B := T3.setTop (mkF m 9 #[.val (.ref wL)] [(.int (0 : Int32)), (.ref wL), (.ref b1), (.ref b1)])) (fun tz kz => st3.trans kz) ?_
  obtain ⟨_, _, ⟨T4, L4, k4, n4⟩, -, X4, ⟨Lc4, hQ4, l4, y4, z4⟩, st4⟩ := X3.specialBack hx (y := (⟨"java/util/ImmutableCollections$ListItr", "<init>", "(Ljava/util/List;I)V"⟩ : MethodName)) rfl hown (mvT hZ (hw _ (List.mem_of_getElem? (i := 51) rfl))) (mvT hZ (hw _ (List.mem_of_getElem? (i := 52) rfl))) (mvT hZ (hw _ (List.mem_of_getElem? (i := 54) rfl))) (by decide) (backOf (W := 1) (rm7 l Z a0 hw [] b1 wL (0 : Int32)  h1 n0 O2 A1 g_b1 F1_list F1_size F1_cursor F1_isListIterator) hZ (hw _ (List.mem_of_getElem? (i := 54) rfl)) (hw _ (List.mem_of_getElem? (i := 41) rfl)) (by decide) (by decide)) (g := (mkF m 9 #[.val (.ref wL)] [(.int (0 : Int32)), (.ref wL), (.ref b1), (.ref b1)])) rfl (by rw [hml]; rfl) (Steps.refl _) (a := b1) (argsL := [(.ref wL), (.int (0 : Int32))]) (rest := [(.ref b1)]) (lenOf own_pd1 rfl) rfl (by show 2 * 0 + _ ≤ _; exact Nat.le_of_eq rfl) (hb hby own_d5_9) (fun _ _ => ⟨rfl, e3, (by decide : 1 + 0 ≤ _), (by decide : 4 + 0 ≤ _)⟩)
  dsimp only [Pt.U, Pt.locs, Pt.cells, Pt.slots] at X4 l4 y4 z4 st4 hQ4
  subst l4 y4 z4
  obtain ⟨rfl, Nq4, Kq4, Fs4, Fc4⟩ := hQ4
  have N4 := Fr.app N3 Nq4
  have O5 := O2.keep Kq4 (allS g_b1 all0)
  have K5 : Keep h0 T4.heap [] := K2.trans Kq4 (allS (Or.inr sz_b1) all0)
  refine own_on (B := T4.setTop (mkF m 12 #[.val (.ref wL)] [(.ref b1)])) (fun tz kz => st4.trans kz) ?_
  have f_6 := (A1.keep Kq4)
  obtain ⟨fs, hr, hrun, hended, hW, hsame⟩ := X4.leave (v := some (.ref b1)) (fun h => by rw [Bd.returns] at h; cases h)
  refine own_of ⟨_, _, ?_, hrun, hended, _, _, rfl, ?_, ⟨_, rfl⟩, hW, hsame.mono (by decide) (by decide)⟩
  · show Steps p.tables e below (T4.setTop (mkF m 12 #[.val (.ref wL)] [(.ref b1)])) _
    exact own_retV X4 hx Bd.returns rfl rfl (hb hby own_d5_12) hr
  · show Q5 Z wL ea h0 n0 _ T4.heap _
    exact ⟨b1, rfl, N4, K5, sz_b1, f_6, Fs4, Fc4⟩
theorem own_ef_8 (m : MethodId) (x0 : Addr) : entryFrame m #[(.ref x0)] 1 = mkF m 0 #[.val (.ref x0)] [] := by first | (simp [entryFrame, mkF, argsToLocals, Value.category]; done) | rfl
def Q8 (Z : State) (u0 : Addr) (h0 : Heap) (n0 : Nat) (v : Option Value) (h : Heap) (L : List Loc) : Prop := v = some (.int 0) ∧ Fr n0 L ∧ h = h0
theorem own_d8_0 : decode jdk_53_method_3_code 0 = .ok (.aload_n 0, 1) := by decide +kernel
theorem own_d8_1 : decode jdk_53_method_3_code 1 = .ok (.getfield 17, 3) := by decide +kernel
theorem own_d8_4 : decode jdk_53_method_3_code 4 = .ok (.aload_n 0, 1) := by decide +kernel
theorem own_d8_5 : decode jdk_53_method_3_code 5 = .ok (.getfield 13, 3) := by decide +kernel
theorem own_d8_8 : decode jdk_53_method_3_code 8 = .ok (.if_icmp .eq 7, 3) := by decide +kernel
theorem own_d8_15 : decode jdk_53_method_3_code 15 = .ok (.iconst 0, 1) := by decide +kernel
theorem own_d8_16 : decode jdk_53_method_3_code 16 = .ok (.ireturn, 1) := by decide +kernel
set_option maxRecDepth 65536 in
set_option maxHeartbeats 40000000 in
theorem rm8 (l : Launch) (Z : State) (a0 : Array Value) (hw : ∀ d ∈ tables_1, d.before a0 Z = true) (ws : List Jvm.Cond) (u0 : Addr) (h0 : Heap) (n0 : Nat) (O0 : Old Z n0 h0) (Fs : Fld Z h0 u0 "java/util/ImmutableCollections$ListItr" "size" "I" (.int 0)) (Fc : Fld Z h0 u0 "java/util/ImmutableCollections$ListItr" "cursor" "I" (.int 0)) :
    MetFree l (⟨"java/util/ImmutableCollections$ListItr", "hasNext", "()Z"⟩ : MethodName) (head1 (Jvm.Cond.code (⟨"java/util/ImmutableCollections$ListItr", "hasNext", "()Z"⟩ : MethodName) jdk_53_method_3_code 1 (some .boolean) :: ws) ({ frames := 0, cells := 0, slots := 0, locals := 0 } : Room)) (fun a U => a = #[(.ref u0)] ∧ Z.Warmed39 U.vm ∧ U.heap = h0) (fun _ _ _ _ _ => True) (fun _ U o U' => ∃ v L, o = .returned v ∧ Q8 Z u0 h0 n0 v U'.heap L ∧ FrameEnd U o U' L ({ frames := 0, cells := 0, slots := 0, locals := 0 } : Room).cells ({ frames := 0, cells := 0, slots := 0, locals := 0 } : Room).slots) := by
  refine MetFree.of_bodySF (plainFor_of_name own_pn_java_util_ImmutableCollections_ListItr) hisR ?_
  intro p e s m args below meth c s₁ Bd hml0 hP hK
  obtain ⟨rfl, hZ, hh⟩ := hP
  have hx := Bd.exec
  have hby := Bd.bytes
  have hml : c.maxLocals = 1 := hml0
  have hown : s.vm.findClass "java/util/ImmutableCollections$ListItr" = some m.cls := findClass_of_methodNamed Bd.named
  have hnm := (name_of_methodNamed Bd.named Bd.method).1
  have X0 : Stand p l e ({ frames := 0, cells := 0, slots := 0, locals := 0 } : Room) s m #[(.ref u0)] below meth c s₁ [] 0 0 := Stand.of_body Bd
  have e0 : s₁.heap = h0 := by rw [← hh, Bd.state]; rfl
  have N0 := Fr.nil n0
  change Go p.tables e below _ _
  refine own_on (B := s₁.setTop (mkF m 0 #[.val (.ref u0)] [])) (fun tz kz => castTop (own_ef_8 m u0) kz) ?_
  refine own_on (B := s₁.setTop (mkF m 1 #[.val (.ref u0)] [(.ref u0)])) (fun tz kz => ?_) ?_
  · show Steps p.tables e below (s₁.setTop (mkF m 0 #[.val (.ref u0)] [])) tz
    refine XS.aloadN X0.here hx rfl (hb hby own_d8_0) rfl rfl ?_
    exact kz
  obtain ⟨T1, X1, e1, st1⟩ := getF X0 hx hZ hown (host := "") (Or.inl (hw _ (List.mem_of_getElem? (i := 60) rfl))) Via.refl e0 Fc (g := (mkF m 1 #[.val (.ref u0)] [(.ref u0)])) rfl rfl (hb hby own_d8_1)
  refine own_on (B := T1.setTop (mkF m 4 #[.val (.ref u0)] [(.int (0 : Int32))])) (fun tz kz => st1 _ kz) ?_
  refine own_on (B := T1.setTop (mkF m 5 #[.val (.ref u0)] [(.ref u0), (.int (0 : Int32))])) (fun tz kz => ?_) ?_
  · show Steps p.tables e below (T1.setTop (mkF m 4 #[.val (.ref u0)] [(.int (0 : Int32))])) tz
    refine XS.aloadN X1.here hx rfl (hb hby own_d8_4) rfl rfl ?_
    exact kz
  obtain ⟨T2, X2, e2, st2⟩ := getF X1 hx hZ hown (host := "") (Or.inl (hw _ (List.mem_of_getElem? (i := 58) rfl))) Via.refl e1 Fs (g := (mkF m 5 #[.val (.ref u0)] [(.ref u0), (.int (0 : Int32))])) rfl rfl (hb hby own_d8_5)
  refine own_on (B := T2.setTop (mkF m 8 #[.val (.ref u0)] [(.int (0 : Int32)), (.int (0 : Int32))])) (fun tz kz => st2 _ kz) ?_
  refine own_on (B := T2.setTop (mkF m 16 #[.val (.ref u0)] [(.int (0 : Int32))])) (fun tz kz => ?_) ?_
  · show Steps p.tables e below (T2.setTop (mkF m 8 #[.val (.ref u0)] [(.int (0 : Int32)), (.int (0 : Int32))])) tz
    refine XS.icmpYes X2.here hx rfl (pc0 := 8) (pc' := 15) rfl (hb hby own_d8_8) rfl (teq rfl).1 (by decide) (by decide) ?_
    show Steps p.tables e below (T2.setTop (mkF m 15 #[.val (.ref u0)] [])) tz
    refine XS.iconst X2.here hx rfl (hb hby own_d8_15) ?_
    exact kz
  obtain ⟨fs, hr, hrun, hended, hW, hsame⟩ := X2.leave (v := some (.int (0 : Int32))) (fun h => by rw [Bd.returns] at h; cases h)
  refine own_of ⟨_, _, ?_, hrun, hended, _, _, rfl, ?_, ⟨_, rfl⟩, hW, hsame.mono (by decide) (by decide)⟩
  · show Steps p.tables e below (T2.setTop (mkF m 16 #[.val (.ref u0)] [(.int (0 : Int32))])) _
    exact own_retN X2 hx (t := .boolean) Bd.returns (by simp) (by first | rfl | (split <;> first | rfl | (split <;> first | rfl | (split <;> rfl)))) (hb hby own_d8_16) hr
  · show Q8 Z u0 h0 n0 _ T2.heap _
    rw [e2]
    exact ⟨rfl, N0, rfl⟩
theorem own_pn_com_example_focus_on_games_focusongames_io_Expression : plainName "com/example/focus_on_games/focusongames/io/Expression" = true := by first | (simp [plainName, overriddenIn]; done) | decide +kernel
theorem own_ef_3 (m : MethodId) (x0 : Addr) (x1 : Addr) (x2 : Int32) (x3 : Addr) : entryFrame m #[(.ref x0), (.ref x1), (.int x2), (.ref x3)] 7 = mkF m 0 #[.val (.ref x0), .val (.ref x1), .val (.int x2), .val (.ref x3), .unset, .unset, .unset] [] := by first | (simp [entryFrame, mkF, argsToLocals, Value.category]; done) | rfl
def Q3 (Z : State) (u0 : Addr) (u1 : Addr) (p2 : Int32) (wL : Addr) (ea : Addr) (h0 : Heap) (n0 : Nat) (v : Option Value) (h : Heap) (L : List Loc) : Prop := v = none ∧ Fr n0 L ∧ Keep h0 h [u0] ∧ Fld Z h u0 "com/example/focus_on_games/focusongames/io/Expression$Variable" "index" "I" (.int 0)
theorem own_d3_0 : decode prog_20_method_1_code 0 = .ok (.aload_n 0, 1) := by decide +kernel
theorem own_d3_1 : decode prog_20_method_1_code 1 = .ok (.invokespecial 1, 3) := by decide +kernel
theorem own_d3_4 : decode prog_20_method_1_code 4 = .ok (.aload_n 0, 1) := by decide +kernel
theorem own_d3_5 : decode prog_20_method_1_code 5 = .ok (.aload_n 1, 1) := by decide +kernel
theorem own_d3_6 : decode prog_20_method_1_code 6 = .ok (.putfield 7, 3) := by decide +kernel
theorem own_d3_9 : decode prog_20_method_1_code 9 = .ok (.aload_n 0, 1) := by decide +kernel
theorem own_d3_10 : decode prog_20_method_1_code 10 = .ok (.iload_n 2, 1) := by decide +kernel
theorem own_d3_11 : decode prog_20_method_1_code 11 = .ok (.putfield 13, 3) := by decide +kernel
theorem own_d3_14 : decode prog_20_method_1_code 14 = .ok (.iconst 0, 1) := by decide +kernel
theorem own_d3_15 : decode prog_20_method_1_code 15 = .ok (.istore 4, 2) := by decide +kernel
theorem own_d3_17 : decode prog_20_method_1_code 17 = .ok (.aload_n 3, 1) := by decide +kernel
theorem own_pd2 : parseMethodDescriptor "()Ljava/util/Iterator;" = some ⟨[], some (.object "java/util/Iterator")⟩ := by decide +kernel
theorem own_d3_18 : decode prog_20_method_1_code 18 = .ok (.invokeinterface 17 1, 5) := by decide +kernel
theorem own_d3_23 : decode prog_20_method_1_code 23 = .ok (.astore 5, 2) := by decide +kernel
theorem own_d3_25 : decode prog_20_method_1_code 25 = .ok (.aload 5, 2) := by decide +kernel
theorem own_pd3 : parseMethodDescriptor "()Z" = some ⟨[], some .boolean⟩ := by decide +kernel
theorem own_d3_27 : decode prog_20_method_1_code 27 = .ok (.invokeinterface 23 1, 5) := by decide +kernel
theorem own_d3_32 : decode prog_20_method_1_code 32 = .ok (.ifCond .eq 28, 3) := by decide +kernel
theorem own_d3_60 : decode prog_20_method_1_code 60 = .ok (.aload_n 0, 1) := by decide +kernel
theorem own_d3_61 : decode prog_20_method_1_code 61 = .ok (.iload 4, 2) := by decide +kernel
theorem own_d3_63 : decode prog_20_method_1_code 63 = .ok (.putfield 36, 3) := by decide +kernel
theorem own_d3_66 : decode prog_20_method_1_code 66 = .ok (.return_, 1) := by decide +kernel
set_option maxRecDepth 65536 in
set_option maxHeartbeats 40000000 in
theorem rm3 (l : Launch) (Z : State) (a0 : Array Value) (hw : ∀ d ∈ tables_1, d.before a0 Z = true) (ws : List Jvm.Cond) (u0 : Addr) (u1 : Addr) (p2 : Int32) (wL : Addr) (ea : Addr) (h0 : Heap) (n0 : Nat) (O0 : Old Z n0 h0) (E_u0 : Exa Z h0 u0 "com/example/focus_on_games/focusongames/io/Expression$Variable") (g_u0 : n0 ≤ u0) (F_type : Fld Z h0 u0 "com/example/focus_on_games/focusongames/io/Expression" "type" "Lcom/example/focus_on_games/focusongames/io/Expression$Type;" .null) (F_line : Fld Z h0 u0 "com/example/focus_on_games/focusongames/io/Expression" "line" "I" (.int (0 : Int32))) (F_readsVariables : Fld Z h0 u0 "com/example/focus_on_games/focusongames/io/Expression" "readsVariables" "Z" (.int (0 : Int32))) (F_index : Fld Z h0 u0 "com/example/focus_on_games/focusongames/io/Expression$Variable" "index" "I" (.int (0 : Int32))) (E_L : Exa Z Z.heap wL "java/util/ImmutableCollections$ListN") (F_e : Fld Z Z.heap wL "java/util/ImmutableCollections$ListN" "elements" "[Ljava/lang/Object;" (.ref ea)) (A_e : OwnArz Z Z.heap ea (.object "java/lang/Object") 0) :
    MetFree l (⟨"com/example/focus_on_games/focusongames/io/Expression", "<init>", "(Lcom/example/focus_on_games/focusongames/io/Expression$Type;ILjava/util/List;)V"⟩ : MethodName) (head1 (Jvm.Cond.code (⟨"com/example/focus_on_games/focusongames/io/Expression", "<init>", "(Lcom/example/focus_on_games/focusongames/io/Expression$Type;ILjava/util/List;)V"⟩ : MethodName) prog_20_method_1_code 7 none :: ws) ({ frames := 3, cells := 1, slots := 4, locals := 80 } : Room)) (fun a U => a = #[(.ref u0), (.ref u1), (.int p2), (.ref wL)] ∧ Z.Warmed39 U.vm ∧ U.heap = h0) (fun _ _ _ _ _ => True) (fun _ U o U' => ∃ v L, o = .returned v ∧ Q3 Z u0 u1 p2 wL ea h0 n0 v U'.heap L ∧ FrameEnd U o U' L ({ frames := 3, cells := 1, slots := 4, locals := 80 } : Room).cells ({ frames := 3, cells := 1, slots := 4, locals := 80 } : Room).slots) := by
  refine MetFree.of_bodySF (plainFor_of_name own_pn_com_example_focus_on_games_focusongames_io_Expression) hisR ?_
  intro p e s m args below meth c s₁ Bd hml0 hP hK
  obtain ⟨rfl, hZ, hh⟩ := hP
  have hx := Bd.exec
  have hby := Bd.bytes
  have hml : c.maxLocals = 7 := hml0
  have hown : s.vm.findClass "com/example/focus_on_games/focusongames/io/Expression" = some m.cls := findClass_of_methodNamed Bd.named
  have hnm := (name_of_methodNamed Bd.named Bd.method).1
  have X0 : Stand p l e ({ frames := 3, cells := 1, slots := 4, locals := 80 } : Room) s m #[(.ref u0), (.ref u1), (.int p2), (.ref wL)] below meth c s₁ [] 0 0 := Stand.of_body Bd
  have e0 : s₁.heap = h0 := by rw [← hh, Bd.state]; rfl
  have N0 := Fr.nil n0
  change Go p.tables e below _ _
  refine own_on (B := s₁.setTop (mkF m 0 #[.val (.ref u0), .val (.ref u1), .val (.int p2), .val (.ref wL), .unset, .unset, .unset] [])) (fun tz kz => castTop (own_ef_3 m u0 u1 p2 wL) kz) ?_
  refine own_on (B := s₁.setTop (mkF m 1 #[.val (.ref u0), .val (.ref u1), .val (.int p2), .val (.ref wL), .unset, .unset, .unset] [(.ref u0)])) (fun tz kz => ?_) ?_
  · show Steps p.tables e below (s₁.setTop (mkF m 0 #[.val (.ref u0), .val (.ref u1), .val (.int p2), .val (.ref wL), .unset, .unset, .unset] [])) tz
    refine XS.aloadN X0.here hx rfl (hb hby own_d3_0) rfl rfl ?_
    exact kz
  obtain ⟨T1, X1, e1, st1⟩ := initO X0 hx hZ hown (hw _ (List.mem_of_getElem? (i := 22) rfl)) (hw _ (List.mem_of_getElem? (i := 23) rfl)) (hw _ (List.mem_of_getElem? (i := 24) rfl)) e0 (g := (mkF m 1 #[.val (.ref u0), .val (.ref u1), .val (.int p2), .val (.ref wL), .unset, .unset, .unset] [(.ref u0)])) rfl (by rw [hml]; rfl) rfl (hb hby own_d3_1) (by decide) (W := 0) (by show 2 * 0 + _ ≤ _; exact Nat.le_of_eq rfl) (by decide)
  refine own_on (B := T1.setTop (mkF m 4 #[.val (.ref u0), .val (.ref u1), .val (.int p2), .val (.ref wL), .unset, .unset, .unset] [])) (fun tz kz => st1 _ kz) ?_
  refine own_on (B := T1.setTop (mkF m 6 #[.val (.ref u0), .val (.ref u1), .val (.int p2), .val (.ref wL), .unset, .unset, .unset] [(.ref u1), (.ref u0)])) (fun tz kz => ?_) ?_
  · show Steps p.tables e below (T1.setTop (mkF m 4 #[.val (.ref u0), .val (.ref u1), .val (.int p2), .val (.ref wL), .unset, .unset, .unset] [])) tz
    refine XS.aloadN X1.here hx rfl (hb hby own_d3_4) rfl rfl ?_
    show Steps p.tables e below (T1.setTop (mkF m 5 #[.val (.ref u0), .val (.ref u1), .val (.int p2), .val (.ref wL), .unset, .unset, .unset] [(.ref u0)])) tz
    refine XS.aloadN X1.here hx rfl (hb hby own_d3_5) rfl rfl ?_
    exact kz
  obtain ⟨T2, h2, X2, e2, W2, st2⟩ := putF X1 hx hZ hown (host := "") (Or.inl (hw _ (List.mem_of_getElem? (i := 25) rfl))) Via.refl e1 F_type E_u0 (Or.inr ⟨(hw _ (List.mem_of_getElem? (i := 26) rfl)), rfl, hnm⟩) (hw _ (List.mem_of_getElem? (i := 3) rfl)) (ty := (.object "com/example/focus_on_games/focusongames/io/Expression$Type")) (by decide) rfl rfl (g := (mkF m 6 #[.val (.ref u0), .val (.ref u1), .val (.int p2), .val (.ref wL), .unset, .unset, .unset] [(.ref u1), (.ref u0)])) rfl rfl (hb hby own_d3_6)
  have Fw2 := F_type.same W2
  have N2 := Fr.snoc X2 N0 g_u0
  have O3 := O0.wr W2 g_u0
  have K3 : Keep h0 h2 [u0] := (Keep.refl h0 [u0]).wr W2 (Or.inl (List.mem_of_getElem? (i := 0) rfl))
  refine own_on (B := T2.setTop (mkF m 9 #[.val (.ref u0), .val (.ref u1), .val (.int p2), .val (.ref wL), .unset, .unset, .unset] [])) (fun tz kz => st2 _ kz) ?_
  refine own_on (B := T2.setTop (mkF m 11 #[.val (.ref u0), .val (.ref u1), .val (.int p2), .val (.ref wL), .unset, .unset, .unset] [(.int p2), (.ref u0)])) (fun tz kz => ?_) ?_
  · show Steps p.tables e below (T2.setTop (mkF m 9 #[.val (.ref u0), .val (.ref u1), .val (.int p2), .val (.ref wL), .unset, .unset, .unset] [])) tz
    refine XS.aloadN X2.here hx rfl (hb hby own_d3_9) rfl rfl ?_
    show Steps p.tables e below (T2.setTop (mkF m 10 #[.val (.ref u0), .val (.ref u1), .val (.int p2), .val (.ref wL), .unset, .unset, .unset] [(.ref u0)])) tz
    refine XS.iloadN X2.here hx rfl (hb hby own_d3_10) rfl ?_
    exact kz
  have f_4 := (F_line.other W2 (Or.inr (slot_ne (Or.inr (hw _ (List.mem_of_getElem? (i := 28) rfl))) (Or.inr (hw _ (List.mem_of_getElem? (i := 26) rfl))) (by decide) (t := .int) (t' := (.object "com/example/focus_on_games/focusongames/io/Expression$Type")) (by decide) (by decide))))
  have f_5 := (E_u0.wr W2)
  obtain ⟨T6, h6, X6, e6, W6, st6⟩ := putF X2 hx hZ hown (host := "") (Or.inl (hw _ (List.mem_of_getElem? (i := 27) rfl))) Via.refl e2 f_4 f_5 (Or.inr ⟨(hw _ (List.mem_of_getElem? (i := 28) rfl)), rfl, hnm⟩) (hw _ (List.mem_of_getElem? (i := 3) rfl)) (ty := .int) (by decide) rfl rfl (g := (mkF m 11 #[.val (.ref u0), .val (.ref u1), .val (.int p2), .val (.ref wL), .unset, .unset, .unset] [(.int p2), (.ref u0)])) rfl rfl (hb hby own_d3_11)
  have Fw6 := f_4.same W6
  have N6 := Fr.snoc X6 N2 g_u0
  have O7 := O3.wr W6 g_u0
  have K7 : Keep h0 h6 [u0] := K3.wr W6 (Or.inl (List.mem_of_getElem? (i := 0) rfl))
  refine own_on (B := T6.setTop (mkF m 14 #[.val (.ref u0), .val (.ref u1), .val (.int p2), .val (.ref wL), .unset, .unset, .unset] [])) (fun tz kz => st6 _ kz) ?_
  refine own_on (B := T6.setTop (mkF m 18 #[.val (.ref u0), .val (.ref u1), .val (.int p2), .val (.ref wL), .val (.int (0 : Int32)), .unset, .unset] [(.ref wL)])) (fun tz kz => ?_) ?_
  · show Steps p.tables e below (T6.setTop (mkF m 14 #[.val (.ref u0), .val (.ref u1), .val (.int p2), .val (.ref wL), .unset, .unset, .unset] [])) tz
    refine XS.iconst X6.here hx rfl (hb hby own_d3_14) ?_
    show Steps p.tables e below (T6.setTop (mkF m 15 #[.val (.ref u0), .val (.ref u1), .val (.int p2), .val (.ref wL), .unset, .unset, .unset] [(.int (0 : Int32))])) tz
    refine XS.istore X6.here hx rfl (hb hby own_d3_15) rfl (l' := #[.val (.ref u0), .val (.ref u1), .val (.int p2), .val (.ref wL), .val (.int (0 : Int32)), .unset, .unset]) rfl ?_
    show Steps p.tables e below (T6.setTop (mkF m 17 #[.val (.ref u0), .val (.ref u1), .val (.int p2), .val (.ref wL), .val (.int (0 : Int32)), .unset, .unset] [])) tz
    refine XS.aloadN X6.here hx rfl (hb hby own_d3_17) rfl rfl ?_
    exact kz
  obtain ⟨cq8, kq8, q8a, q8b, q8c⟩ := isOf hZ e6 (E_L.ext O7.2)
  obtain ⟨_, _, ⟨T8, L8, k8, n8⟩, -, X8, ⟨Lc8, hQ8, l8, y8, z8⟩, st8⟩ := X6.interfaceBack hx (xi := (⟨"java/util/List", "iterator", "()Ljava/util/Iterator;"⟩ : MethodName)) (y := (⟨"java/util/ImmutableCollections$AbstractImmutableList", "iterator", "()Ljava/util/Iterator;"⟩ : MethodName)) hown (mvT hZ (hw _ (List.mem_of_getElem? (i := 29) rfl))) (mvT hZ (hw _ (List.mem_of_getElem? (i := 30) rfl))) (mvT hZ (hw _ (List.mem_of_getElem? (i := 31) rfl))) (mvT hZ (hw _ (List.mem_of_getElem? (i := 32) rfl))) (mvT hZ (hw _ (List.mem_of_getElem? (i := 33) rfl))) (mvT hZ (hw _ (List.mem_of_getElem? (i := 34) rfl))) (mvT hZ (hw _ (List.mem_of_getElem? (i := 35) rfl))) (mvT hZ (hw _ (List.mem_of_getElem? (i := 36) rfl))) (by decide) (backOf (W := 0) (rm5 l Z a0 hw [] wL ea h6 n0 O7 E_L F_e A_e) hZ (hw _ (List.mem_of_getElem? (i := 38) rfl)) (hw _ (List.mem_of_getElem? (i := 37) rfl)) (by decide) (by decide)) q8a q8b q8c (g := (mkF m 18 #[.val (.ref u0), .val (.ref u1), .val (.int p2), .val (.ref wL), .val (.int (0 : Int32)), .unset, .unset] [(.ref wL)])) rfl (by rw [hml]; rfl) (Steps.refl _) (argsL := []) (rest := []) (lenOf own_pd2 rfl) rfl (by show 2 * 0 + _ ≤ _; exact Nat.le_of_eq rfl) (hb hby own_d3_18) (fun _ _ => ⟨rfl, e6, (by decide : 0 + 1 ≤ _), (by decide : 0 + 4 ≤ _)⟩)
  dsimp only [Pt.U, Pt.locs, Pt.cells, Pt.slots] at X8 l8 y8 z8 st8 hQ8
  subst l8 y8 z8
  obtain ⟨d8, rfl, Nq8, Kq8, zq8, Eq8, Fs8, Fc8⟩ := hQ8
  have N8 := Fr.app N6 Nq8
  have f_9 := (f_5.wr W6)
  have ne_u0_d8 : u0 ≠ d8 := Nat.ne_of_lt (Nat.lt_of_lt_of_le (f_9).lt zq8)
  have g_d8 : n0 ≤ d8 := Nat.le_trans (own_old O7) zq8
  have sz_d8 : h0.size ≤ d8 := Nat.le_trans K7.1 zq8
  have O10 := O7.keep Kq8 all0
  have K10 : Keep h0 T8.heap [u0] := K7.trans Kq8 all0
  refine own_on (B := T8.setTop (mkF m 23 #[.val (.ref u0), .val (.ref u1), .val (.int p2), .val (.ref wL), .val (.int (0 : Int32)), .unset, .unset] [(.ref d8)])) (fun tz kz => st8.trans kz) ?_
  refine own_on (B := T8.setTop (mkF m 27 #[.val (.ref u0), .val (.ref u1), .val (.int p2), .val (.ref wL), .val (.int (0 : Int32)), .val (.ref d8), .unset] [(.ref d8)])) (fun tz kz => ?_) ?_
  · show Steps p.tables e below (T8.setTop (mkF m 23 #[.val (.ref u0), .val (.ref u1), .val (.int p2), .val (.ref wL), .val (.int (0 : Int32)), .unset, .unset] [(.ref d8)])) tz
    refine XS.astore X8.here hx rfl (hb hby own_d3_23) rfl rfl (l' := #[.val (.ref u0), .val (.ref u1), .val (.int p2), .val (.ref wL), .val (.int (0 : Int32)), .val (.ref d8), .unset]) rfl ?_
    show Steps p.tables e below (T8.setTop (mkF m 25 #[.val (.ref u0), .val (.ref u1), .val (.int p2), .val (.ref wL), .val (.int (0 : Int32)), .val (.ref d8), .unset] [])) tz
    refine XS.aload X8.here hx rfl (hb hby own_d3_25) rfl rfl ?_
    exact kz
  obtain ⟨cq11, kq11, q11a, q11b, q11c⟩ := isOf hZ rfl Eq8
  obtain ⟨_, _, ⟨T11, L11, k11, n11⟩, -, X11, ⟨Lc11, hQ11, l11, y11, z11⟩, st11⟩ := X8.interfaceBack hx (xi := (⟨"java/util/Iterator", "hasNext", "()Z"⟩ : MethodName)) (y := (⟨"java/util/ImmutableCollections$ListItr", "hasNext", "()Z"⟩ : MethodName)) hown (mvT hZ (hw _ (List.mem_of_getElem? (i := 64) rfl))) (mvT hZ (hw _ (List.mem_of_getElem? (i := 65) rfl))) (mvT hZ (hw _ (List.mem_of_getElem? (i := 66) rfl))) (mvT hZ (hw _ (List.mem_of_getElem? (i := 67) rfl))) (mvT hZ (hw _ (List.mem_of_getElem? (i := 68) rfl))) (mvT hZ (hw _ (List.mem_of_getElem? (i := 69) rfl))) (mvT hZ (hw _ (List.mem_of_getElem? (i := 70) rfl))) (mvT hZ (hw _ (List.mem_of_getElem? (i := 71) rfl))) (by decide) (backOf (W := 0) (rm8 l Z a0 hw [] d8  T8.heap n0 O10 Fs8 Fc8) hZ (hw _ (List.mem_of_getElem? (i := 72) rfl)) (hw _ (List.mem_of_getElem? (i := 41) rfl)) (by decide) (by decide)) q11a q11b q11c (g := (mkF m 27 #[.val (.ref u0), .val (.ref u1), .val (.int p2), .val (.ref wL), .val (.int (0 : Int32)), .val (.ref d8), .unset] [(.ref d8)])) rfl (by rw [hml]; rfl) (Steps.refl _) (argsL := []) (rest := []) (lenOf own_pd3 rfl) rfl (by show 2 * 0 + _ ≤ _; exact Nat.le_of_eq rfl) (hb hby own_d3_27) (fun _ _ => ⟨rfl, rfl, (by decide : 1 + 0 ≤ _), (by decide : 4 + 0 ≤ _)⟩)
  dsimp only [Pt.U, Pt.locs, Pt.cells, Pt.slots] at X11 l11 y11 z11 st11 hQ11
  subst l11 y11 z11
  obtain ⟨rfl, Nq11, e11⟩ := hQ11
  have N11 := Fr.app N8 Nq11
  refine own_on (B := T11.setTop (mkF m 32 #[.val (.ref u0), .val (.ref u1), .val (.int p2), .val (.ref wL), .val (.int (0 : Int32)), .val (.ref d8), .unset] [(.int (0 : Int32))])) (fun tz kz => st11.trans kz) ?_
  refine own_on (B := T11.setTop (mkF m 63 #[.val (.ref u0), .val (.ref u1), .val (.int p2), .val (.ref wL), .val (.int (0 : Int32)), .val (.ref d8), .unset] [(.int (0 : Int32)), (.ref u0)])) (fun tz kz => ?_) ?_
  · show Steps p.tables e below (T11.setTop (mkF m 32 #[.val (.ref u0), .val (.ref u1), .val (.int p2), .val (.ref wL), .val (.int (0 : Int32)), .val (.ref d8), .unset] [(.int (0 : Int32))])) tz
    refine XS.ifYes X11.here hx rfl (pc0 := 32) (pc' := 60) rfl (hb hby own_d3_32) rfl ((if0 _ _).trans (teq rfl).1) (by decide) (by decide) ?_
    show Steps p.tables e below (T11.setTop (mkF m 60 #[.val (.ref u0), .val (.ref u1), .val (.int p2), .val (.ref wL), .val (.int (0 : Int32)), .val (.ref d8), .unset] [])) tz
    refine XS.aloadN X11.here hx rfl (hb hby own_d3_60) rfl rfl ?_
    show Steps p.tables e below (T11.setTop (mkF m 61 #[.val (.ref u0), .val (.ref u1), .val (.int p2), .val (.ref wL), .val (.int (0 : Int32)), .val (.ref d8), .unset] [(.ref u0)])) tz
    refine XS.iload X11.here hx rfl (hb hby own_d3_61) rfl ?_
    exact kz
  have f_12 := (((F_readsVariables.other W2 (Or.inr (slot_ne (Or.inr (hw _ (List.mem_of_getElem? (i := 74) rfl))) (Or.inr (hw _ (List.mem_of_getElem? (i := 26) rfl))) (by decide) (t := .boolean) (t' := (.object "com/example/focus_on_games/focusongames/io/Expression$Type")) (by decide) (by decide)))).other W6 (Or.inr (slot_ne (Or.inr (hw _ (List.mem_of_getElem? (i := 74) rfl))) (Or.inr (hw _ (List.mem_of_getElem? (i := 28) rfl))) (by decide) (t := .boolean) (t' := .int) (by decide) (by decide)))).keep Kq8 nin0)
  have f_13 := (f_9.keep Kq8)
  obtain ⟨T14, h14, X14, e14, W14, st14⟩ := putFN X11 hx hZ hown (hw _ (List.mem_of_getElem? (i := 73) rfl)) Via.refl e11 f_12 f_13 (Or.inr ⟨(hw _ (List.mem_of_getElem? (i := 74) rfl)), rfl, hnm⟩) (hw _ (List.mem_of_getElem? (i := 3) rfl)) (ty := .boolean) (v' := (.int (nar .boolean (0 : Int32)))) (by decide) rfl (fits_nar_bool _) (g := (mkF m 63 #[.val (.ref u0), .val (.ref u1), .val (.int p2), .val (.ref wL), .val (.int (0 : Int32)), .val (.ref d8), .unset] [(.int (0 : Int32)), (.ref u0)])) rfl rfl (hb hby own_d3_63)
  have Fw14 := f_12.same W14
  have N14 := Fr.snoc X14 N11 g_u0
  have O15 := O10.wr W14 g_u0
  have K15 : Keep h0 h14 [u0] := K10.wr W14 (Or.inl (List.mem_of_getElem? (i := 0) rfl))
  refine own_on (B := T14.setTop (mkF m 66 #[.val (.ref u0), .val (.ref u1), .val (.int p2), .val (.ref wL), .val (.int (0 : Int32)), .val (.ref d8), .unset] [])) (fun tz kz => st14 _ kz) ?_
  have f_16 := ((((F_index.other W2 (Or.inr (slot_ne (Or.inr (hw _ (List.mem_of_getElem? (i := 76) rfl))) (Or.inr (hw _ (List.mem_of_getElem? (i := 26) rfl))) (by decide) (t := .int) (t' := (.object "com/example/focus_on_games/focusongames/io/Expression$Type")) (by decide) (by decide)))).other W6 (Or.inr (slot_ne (Or.inr (hw _ (List.mem_of_getElem? (i := 76) rfl))) (Or.inr (hw _ (List.mem_of_getElem? (i := 28) rfl))) (by decide) (t := .int) (t' := .int) (by decide) (by decide)))).keep Kq8 nin0).other W14 (Or.inr (slot_ne (Or.inr (hw _ (List.mem_of_getElem? (i := 76) rfl))) (Or.inr (hw _ (List.mem_of_getElem? (i := 74) rfl))) (by decide) (t := .int) (t' := .boolean) (by decide) (by decide))))
  obtain ⟨fs, hr, hrun, hended, hW, hsame⟩ := X14.leave (v := none) (fun _ => rfl)
  refine own_of ⟨_, _, ?_, hrun, hended, _, _, rfl, ?_, ⟨_, rfl⟩, hW, hsame.mono (by decide) (by decide)⟩
  · show Steps p.tables e below (T14.setTop (mkF m 66 #[.val (.ref u0), .val (.ref u1), .val (.int p2), .val (.ref wL), .val (.int (0 : Int32)), .val (.ref d8), .unset] [])) _
    exact X14.returnOut hx Bd.returns (hb hby own_d3_66) hr
  · show Q3 Z u0 u1 p2 wL ea h0 n0 _ T14.heap _
    rw [e14]
    exact ⟨rfl, N14, K15, f_16⟩
theorem own_pn_com_example_focus_on_games_focusongames_io_Expression_Variable : plainName "com/example/focus_on_games/focusongames/io/Expression$Variable" = true := by first | (simp [plainName, overriddenIn]; done) | decide +kernel
theorem own_ef_1 (m : MethodId) (x0 : Addr) (x1 : Int32) (x2 : Addr) (x3 : Int32) : entryFrame m #[(.ref x0), (.int x1), (.ref x2), (.int x3)] 4 = mkF m 0 #[.val (.ref x0), .val (.int x1), .val (.ref x2), .val (.int x3)] [] := by first | (simp [entryFrame, mkF, argsToLocals, Value.category]; done) | rfl
def Q1 (Z : State) (u0 : Addr) (p1 : Int32) (u2 : Addr) (p3 : Int32) (wL : Addr) (ea : Addr) (h0 : Heap) (n0 : Nat) (v : Option Value) (h : Heap) (L : List Loc) : Prop := v = none ∧ Fr n0 L ∧ Keep h0 h [u0] ∧ Fld Z h u0 "com/example/focus_on_games/focusongames/io/Expression$Variable" "index" "I" (.int p1)
theorem own_d1_0 : decode prog_38_method_1_code 0 = .ok (.aload_n 0, 1) := by decide +kernel
theorem own_d1_1 : decode prog_38_method_1_code 1 = .ok (.aload_n 2, 1) := by decide +kernel
theorem own_d1_2 : decode prog_38_method_1_code 2 = .ok (.iload_n 3, 1) := by decide +kernel
theorem own_pd4 : parseMethodDescriptor "()Ljava/util/List;" = some ⟨[], some (.object "java/util/List")⟩ := by decide +kernel
theorem own_d1_3 : decode prog_38_method_1_code 3 = .ok (.invokestatic 1, 3) := by decide +kernel
theorem own_pd5 : parseMethodDescriptor "(Lcom/example/focus_on_games/focusongames/io/Expression$Type;ILjava/util/List;)V" = some ⟨[(.object "com/example/focus_on_games/focusongames/io/Expression$Type"), .int, (.object "java/util/List")], none⟩ := by decide +kernel
theorem own_d1_6 : decode prog_38_method_1_code 6 = .ok (.invokespecial 7, 3) := by decide +kernel
theorem own_d1_9 : decode prog_38_method_1_code 9 = .ok (.aload_n 0, 1) := by decide +kernel
theorem own_d1_10 : decode prog_38_method_1_code 10 = .ok (.iload_n 1, 1) := by decide +kernel
theorem own_d1_11 : decode prog_38_method_1_code 11 = .ok (.putfield 13, 3) := by decide +kernel
theorem own_d1_14 : decode prog_38_method_1_code 14 = .ok (.return_, 1) := by decide +kernel
set_option maxRecDepth 65536 in
set_option maxHeartbeats 40000000 in
theorem rm1 (l : Launch) (Z : State) (a0 : Array Value) (hw : ∀ d ∈ tables_1, d.before a0 Z = true) (ws : List Jvm.Cond) (u0 : Addr) (p1 : Int32) (u2 : Addr) (p3 : Int32) (wL : Addr) (ea : Addr) (h0 : Heap) (n0 : Nat) (O0 : Old Z n0 h0) (E_u0 : Exa Z h0 u0 "com/example/focus_on_games/focusongames/io/Expression$Variable") (g_u0 : n0 ≤ u0) (F_type : Fld Z h0 u0 "com/example/focus_on_games/focusongames/io/Expression" "type" "Lcom/example/focus_on_games/focusongames/io/Expression$Type;" .null) (F_line : Fld Z h0 u0 "com/example/focus_on_games/focusongames/io/Expression" "line" "I" (.int (0 : Int32))) (F_readsVariables : Fld Z h0 u0 "com/example/focus_on_games/focusongames/io/Expression" "readsVariables" "Z" (.int (0 : Int32))) (F_index : Fld Z h0 u0 "com/example/focus_on_games/focusongames/io/Expression$Variable" "index" "I" (.int (0 : Int32))) (S_L : Sta Z Z.heap "java/util/ImmutableCollections" "EMPTY_LIST" "Ljava/util/ImmutableCollections$ListN;" (.ref wL)) (E_L : Exa Z Z.heap wL "java/util/ImmutableCollections$ListN") (F_e : Fld Z Z.heap wL "java/util/ImmutableCollections$ListN" "elements" "[Ljava/lang/Object;" (.ref ea)) (A_e : OwnArz Z Z.heap ea (.object "java/lang/Object") 0) :
    MetFree l (⟨"com/example/focus_on_games/focusongames/io/Expression$Variable", "<init>", "(ILcom/example/focus_on_games/focusongames/io/Expression$Type;I)V"⟩ : MethodName) (head1 (Jvm.Cond.code (⟨"com/example/focus_on_games/focusongames/io/Expression$Variable", "<init>", "(ILcom/example/focus_on_games/focusongames/io/Expression$Type;I)V"⟩ : MethodName) prog_38_method_1_code 4 none :: ws) ({ frames := 4, cells := 1, slots := 4, locals := 110 } : Room)) (fun a U => a = #[(.ref u0), (.int p1), (.ref u2), (.int p3)] ∧ Z.Warmed39 U.vm ∧ U.heap = h0) (fun _ _ _ _ _ => True) (fun _ U o U' => ∃ v L, o = .returned v ∧ Q1 Z u0 p1 u2 p3 wL ea h0 n0 v U'.heap L ∧ FrameEnd U o U' L ({ frames := 4, cells := 1, slots := 4, locals := 110 } : Room).cells ({ frames := 4, cells := 1, slots := 4, locals := 110 } : Room).slots) := by
  refine MetFree.of_bodySF (plainFor_of_name own_pn_com_example_focus_on_games_focusongames_io_Expression_Variable) hisR ?_
  intro p e s m args below meth c s₁ Bd hml0 hP hK
  obtain ⟨rfl, hZ, hh⟩ := hP
  have hx := Bd.exec
  have hby := Bd.bytes
  have hml : c.maxLocals = 4 := hml0
  have hown : s.vm.findClass "com/example/focus_on_games/focusongames/io/Expression$Variable" = some m.cls := findClass_of_methodNamed Bd.named
  have hnm := (name_of_methodNamed Bd.named Bd.method).1
  have X0 : Stand p l e ({ frames := 4, cells := 1, slots := 4, locals := 110 } : Room) s m #[(.ref u0), (.int p1), (.ref u2), (.int p3)] below meth c s₁ [] 0 0 := Stand.of_body Bd
  have e0 : s₁.heap = h0 := by rw [← hh, Bd.state]; rfl
  have N0 := Fr.nil n0
  change Go p.tables e below _ _
  refine own_on (B := s₁.setTop (mkF m 0 #[.val (.ref u0), .val (.int p1), .val (.ref u2), .val (.int p3)] [])) (fun tz kz => castTop (own_ef_1 m u0 p1 u2 p3) kz) ?_
  refine own_on (B := s₁.setTop (mkF m 3 #[.val (.ref u0), .val (.int p1), .val (.ref u2), .val (.int p3)] [(.int p3), (.ref u2), (.ref u0)])) (fun tz kz => ?_) ?_
  · show Steps p.tables e below (s₁.setTop (mkF m 0 #[.val (.ref u0), .val (.int p1), .val (.ref u2), .val (.int p3)] [])) tz
    refine XS.aloadN X0.here hx rfl (hb hby own_d1_0) rfl rfl ?_
    show Steps p.tables e below (s₁.setTop (mkF m 1 #[.val (.ref u0), .val (.int p1), .val (.ref u2), .val (.int p3)] [(.ref u0)])) tz
    refine XS.aloadN X0.here hx rfl (hb hby own_d1_1) rfl rfl ?_
    show Steps p.tables e below (s₁.setTop (mkF m 2 #[.val (.ref u0), .val (.int p1), .val (.ref u2), .val (.int p3)] [(.ref u2), (.ref u0)])) tz
    refine XS.iloadN X0.here hx rfl (hb hby own_d1_2) rfl ?_
    exact kz
  obtain ⟨_, _, ⟨T1, L1, k1, n1⟩, -, X1, ⟨Lc1, hQ1, l1, y1, z1⟩, st1⟩ := Jvm.LawKit.callS X0 hx (y := (⟨"java/util/List", "of", "()Ljava/util/List;"⟩ : MethodName)) hown (mvT hZ (hw _ (List.mem_of_getElem? (i := 11) rfl))) (mvT hZ (hw _ (List.mem_of_getElem? (i := 12) rfl))) (mvT hZ (hw _ (List.mem_of_getElem? (i := 13) rfl))) (mvT hZ (hw _ (List.mem_of_getElem? (i := 14) rfl))) (by decide) (backOf (W := 3) (rm2 l Z a0 hw []  wL h0 n0 O0 S_L) hZ (hw _ (List.mem_of_getElem? (i := 14) rfl)) (hw _ (List.mem_of_getElem? (i := 13) rfl)) (by decide) (by decide)) (g := (mkF m 3 #[.val (.ref u0), .val (.int p1), .val (.ref u2), .val (.int p3)] [(.int p3), (.ref u2), (.ref u0)])) rfl (by rw [hml]; rfl) (argsL := []) (rest := [(.int p3), (.ref u2), (.ref u0)]) (lenOf own_pd4 rfl) rfl (by show 2 * 0 + _ ≤ _; exact Nat.le_of_eq rfl) (hb hby own_d1_3) (fun _ _ => ⟨rfl, e0, (by decide : 0 + 0 ≤ _), (by decide : 0 + 0 ≤ _)⟩)
  dsimp only [Pt.U, Pt.locs, Pt.cells, Pt.slots] at X1 l1 y1 z1 st1 hQ1
  subst l1 y1 z1
  obtain ⟨rfl, Nq1, e1⟩ := hQ1
  have N1 := Fr.app N0 Nq1
  refine own_on (B := T1.setTop (mkF m 6 #[.val (.ref u0), .val (.int p1), .val (.ref u2), .val (.int p3)] [(.ref wL), (.int p3), (.ref u2), (.ref u0)])) (fun tz kz => st1 _ kz) ?_
  obtain ⟨_, _, ⟨T2, L2, k2, n2⟩, -, X2, ⟨Lc2, hQ2, l2, y2, z2⟩, st2⟩ := X1.specialBack hx (y := (⟨"com/example/focus_on_games/focusongames/io/Expression", "<init>", "(Lcom/example/focus_on_games/focusongames/io/Expression$Type;ILjava/util/List;)V"⟩ : MethodName)) rfl hown (mvT hZ (hw _ (List.mem_of_getElem? (i := 17) rfl))) (mvT hZ (hw _ (List.mem_of_getElem? (i := 18) rfl))) (mvT hZ (hw _ (List.mem_of_getElem? (i := 21) rfl))) (by decide) (backOf (W := 0) (rm3 l Z a0 hw [] u0 u2 p3 wL ea h0 n0 O0 E_u0 g_u0 F_type F_line F_readsVariables F_index E_L F_e A_e) hZ (hw _ (List.mem_of_getElem? (i := 21) rfl)) (hw _ (List.mem_of_getElem? (i := 20) rfl)) (by decide) (by decide)) (g := (mkF m 6 #[.val (.ref u0), .val (.int p1), .val (.ref u2), .val (.int p3)] [(.ref wL), (.int p3), (.ref u2), (.ref u0)])) rfl (by rw [hml]; rfl) (Steps.refl _) (a := u0) (argsL := [(.ref u2), (.int p3), (.ref wL)]) (rest := []) (lenOf own_pd5 rfl) rfl (by show 2 * 0 + _ ≤ _; exact Nat.le_of_eq rfl) (hb hby own_d1_6) (fun _ _ => ⟨rfl, e1, (by decide : 0 + 1 ≤ _), (by decide : 0 + 4 ≤ _)⟩)
  dsimp only [Pt.U, Pt.locs, Pt.cells, Pt.slots] at X2 l2 y2 z2 st2 hQ2
  subst l2 y2 z2
  obtain ⟨rfl, Nq2, Kq2, Fi2⟩ := hQ2
  have N2 := Fr.app N1 Nq2
  have O3 := O0.keep Kq2 (allS g_u0 all0)
  have K3 : Keep h0 T2.heap [u0] := (Keep.refl h0 [u0]).trans Kq2 (allS (Or.inl (List.mem_of_getElem? (i := 0) rfl)) all0)
  refine own_on (B := T2.setTop (mkF m 9 #[.val (.ref u0), .val (.int p1), .val (.ref u2), .val (.int p3)] [])) (fun tz kz => st2.trans kz) ?_
  refine own_on (B := T2.setTop (mkF m 11 #[.val (.ref u0), .val (.int p1), .val (.ref u2), .val (.int p3)] [(.int p1), (.ref u0)])) (fun tz kz => ?_) ?_
  · show Steps p.tables e below (T2.setTop (mkF m 9 #[.val (.ref u0), .val (.int p1), .val (.ref u2), .val (.int p3)] [])) tz
    refine XS.aloadN X2.here hx rfl (hb hby own_d1_9) rfl rfl ?_
    show Steps p.tables e below (T2.setTop (mkF m 10 #[.val (.ref u0), .val (.int p1), .val (.ref u2), .val (.int p3)] [(.ref u0)])) tz
    refine XS.iloadN X2.here hx rfl (hb hby own_d1_10) rfl ?_
    exact kz
  have f_4 := (E_u0.keep Kq2)
  obtain ⟨T5, h5, X5, e5, W5, st5⟩ := putF X2 hx hZ hown (host := "") (Or.inl (hw _ (List.mem_of_getElem? (i := 75) rfl))) Via.refl rfl Fi2 f_4 (Or.inr ⟨(hw _ (List.mem_of_getElem? (i := 76) rfl)), rfl, hnm⟩) (hw _ (List.mem_of_getElem? (i := 3) rfl)) (ty := .int) (by decide) rfl rfl (g := (mkF m 11 #[.val (.ref u0), .val (.int p1), .val (.ref u2), .val (.int p3)] [(.int p1), (.ref u0)])) rfl rfl (hb hby own_d1_11)
  have Fw5 := Fi2.same W5
  have N5 := Fr.snoc X5 N2 g_u0
  have O6 := O3.wr W5 g_u0
  have K6 : Keep h0 h5 [u0] := K3.wr W5 (Or.inl (List.mem_of_getElem? (i := 0) rfl))
  refine own_on (B := T5.setTop (mkF m 14 #[.val (.ref u0), .val (.int p1), .val (.ref u2), .val (.int p3)] [])) (fun tz kz => st5 _ kz) ?_
  obtain ⟨fs, hr, hrun, hended, hW, hsame⟩ := X5.leave (v := none) (fun _ => rfl)
  refine own_of ⟨_, _, ?_, hrun, hended, _, _, rfl, ?_, ⟨_, rfl⟩, hW, hsame.mono (by decide) (by decide)⟩
  · show Steps p.tables e below (T5.setTop (mkF m 14 #[.val (.ref u0), .val (.int p1), .val (.ref u2), .val (.int p3)] [])) _
    exact X5.returnOut hx Bd.returns (hb hby own_d1_14) hr
  · show Q1 Z u0 p1 u2 p3 wL ea h0 n0 _ T5.heap _
    rw [e5]
    exact ⟨rfl, N5, K6, Fw5⟩
theorem own_ef_9 (m : MethodId) (x0 : Addr) (x1 : Addr) : entryFrame m #[(.ref x0), (.ref x1)] 2 = mkF m 0 #[.val (.ref x0), .val (.ref x1)] [] := by first | (simp [entryFrame, mkF, argsToLocals, Value.category]; done) | rfl
def Q9 (Z : State) (u0 : Addr) (u1 : Addr) (ix : Int32) (x : Int32) (kk : ClassId) (s0 : Int32) (s1 : Int32) (s2 : Int32) (h0 : Heap) (n0 : Nat) (v : Option Value) (h : Heap) (L : List Loc) : Prop := v = some (.int (if x = (0 : Int32) then (0 : Int32) else (1 : Int32))) ∧ Fr n0 L ∧ h = h0
theorem own_d9_0 : decode prog_38_method_4_code 0 = .ok (.aload_n 1, 1) := by decide +kernel
theorem own_d9_1 : decode prog_38_method_4_code 1 = .ok (.aload_n 0, 1) := by decide +kernel
theorem own_d9_2 : decode prog_38_method_4_code 2 = .ok (.getfield 13, 3) := by decide +kernel
theorem own_d9_5 : decode prog_38_method_4_code 5 = .ok (.iaload, 1) := by decide +kernel
theorem own_d9_6 : decode prog_38_method_4_code 6 = .ok (.ifCond .eq 7, 3) := by decide +kernel
theorem own_d9_13 : decode prog_38_method_4_code 13 = .ok (.iconst 0, 1) := by decide +kernel
theorem own_d9_9 : decode prog_38_method_4_code 9 = .ok (.iconst 1, 1) := by decide +kernel
theorem own_d9_10 : decode prog_38_method_4_code 10 = .ok (.goto 4, 3) := by decide +kernel
theorem own_d9_14 : decode prog_38_method_4_code 14 = .ok (.ireturn, 1) := by decide +kernel
set_option maxRecDepth 65536 in
set_option maxHeartbeats 40000000 in
theorem rm9 (l : Launch) (Z : State) (a0 : Array Value) (hw : ∀ d ∈ tables_1, d.before a0 Z = true) (ws : List Jvm.Cond) (u0 : Addr) (u1 : Addr) (ix : Int32) (x : Int32) (kk : ClassId) (s0 : Int32) (s1 : Int32) (s2 : Int32) (h0 : Heap) (n0 : Nat) (O0 : Old Z n0 h0) (Fi : Fld Z h0 u0 "com/example/focus_on_games/focusongames/io/Expression$Variable" "index" "I" (.int ix)) (Va : Arv Z h0 u1 kk .int 3 [(.int s0), (.int s1), (.int s2)] (.int 0)) (hlo : ¬ ix < 0) (hhi : ix < 3) (hval : ([(.int s0), (.int s1), (.int s2)] : List Value).getD ix.toNatClampNeg (.int 0) = .int x) :
    MetFree l (⟨"com/example/focus_on_games/focusongames/io/Expression$Variable", "booleanValue", "([I)Z"⟩ : MethodName) (head1 (Jvm.Cond.code (⟨"com/example/focus_on_games/focusongames/io/Expression$Variable", "booleanValue", "([I)Z"⟩ : MethodName) prog_38_method_4_code 2 (some .boolean) :: ws) ({ frames := 0, cells := 0, slots := 0, locals := 0 } : Room)) (fun a U => a = #[(.ref u0), (.ref u1)] ∧ Z.Warmed39 U.vm ∧ U.heap = h0) (fun _ _ _ _ _ => True) (fun _ U o U' => ∃ v L, o = .returned v ∧ Q9 Z u0 u1 ix x kk s0 s1 s2 h0 n0 v U'.heap L ∧ FrameEnd U o U' L ({ frames := 0, cells := 0, slots := 0, locals := 0 } : Room).cells ({ frames := 0, cells := 0, slots := 0, locals := 0 } : Room).slots) := by
  refine MetFree.of_bodySF (plainFor_of_name own_pn_com_example_focus_on_games_focusongames_io_Expression_Variable) hisR ?_
  intro p e s m args below meth c s₁ Bd hml0 hP hK
  obtain ⟨rfl, hZ, hh⟩ := hP
  have hx := Bd.exec
  have hby := Bd.bytes
  have hml : c.maxLocals = 2 := hml0
  have hown : s.vm.findClass "com/example/focus_on_games/focusongames/io/Expression$Variable" = some m.cls := findClass_of_methodNamed Bd.named
  have hnm := (name_of_methodNamed Bd.named Bd.method).1
  have X0 : Stand p l e ({ frames := 0, cells := 0, slots := 0, locals := 0 } : Room) s m #[(.ref u0), (.ref u1)] below meth c s₁ [] 0 0 := Stand.of_body Bd
  have e0 : s₁.heap = h0 := by rw [← hh, Bd.state]; rfl
  have N0 := Fr.nil n0
  change Go p.tables e below _ _
  refine own_on (B := s₁.setTop (mkF m 0 #[.val (.ref u0), .val (.ref u1)] [])) (fun tz kz => castTop (own_ef_9 m u0 u1) kz) ?_
  refine own_on (B := s₁.setTop (mkF m 2 #[.val (.ref u0), .val (.ref u1)] [(.ref u0), (.ref u1)])) (fun tz kz => ?_) ?_
  · show Steps p.tables e below (s₁.setTop (mkF m 0 #[.val (.ref u0), .val (.ref u1)] [])) tz
    refine XS.aloadN X0.here hx rfl (hb hby own_d9_0) rfl rfl ?_
    show Steps p.tables e below (s₁.setTop (mkF m 1 #[.val (.ref u0), .val (.ref u1)] [(.ref u1)])) tz
    refine XS.aloadN X0.here hx rfl (hb hby own_d9_1) rfl rfl ?_
    exact kz
  obtain ⟨T1, X1, e1, st1⟩ := getF X0 hx hZ hown (host := "") (Or.inl (hw _ (List.mem_of_getElem? (i := 75) rfl))) Via.refl e0 Fi (g := (mkF m 2 #[.val (.ref u0), .val (.ref u1)] [(.ref u0), (.ref u1)])) rfl rfl (hb hby own_d9_2)
  refine own_on (B := T1.setTop (mkF m 5 #[.val (.ref u0), .val (.ref u1)] [(.int ix), (.ref u1)])) (fun tz kz => st1 _ kz) ?_
  obtain ⟨cl2, Ar2, q2, S2, M2, H2, G2⟩ := id Va
  have hin3 : ¬ (ix < 0 ∨ cl2.slots.size ≤ (ix).toNatClampNeg) := inb_of S2 ⟨hlo, hhi⟩
  have hat3 : cl2.slots[(ix).toNatClampNeg]? = some (.int x) := Has.at H2 hin3 hval
  refine own_on (B := T1.setTop (mkF m 6 #[.val (.ref u0), .val (.ref u1)] [(.int x)])) (fun tz kz => ?_) ?_
  · show Steps p.tables e below (T1.setTop (mkF m 5 #[.val (.ref u0), .val (.ref u1)] [(.int ix), (.ref u1)])) tz
    refine X1.iaload hx (j := ix) (v := (.int x)) (by rw [e1]; exact Ar2.1) (State.isArrayOf_alike hZ.alike Ar2.2.1) Ar2.2.2 hin3 hat3 (g := (mkF m 5 #[.val (.ref u0), .val (.ref u1)] [(.int ix), (.ref u1)])) rfl rfl (hb hby own_d9_5) _ ?_
    exact kz
  obtain ⟨mv5, hmv5⟩ : ∃ z, z = (if x = (0 : Int32) then (0 : Int32) else (1 : Int32)) := ⟨_, rfl⟩
  refine own_on (B := T1.setTop (mkF m 14 #[.val (.ref u0), .val (.ref u1)] [(.int mv5)])) (fun tz kz => ?_) ?_
  · show Steps p.tables e below (T1.setTop (mkF m 6 #[.val (.ref u0), .val (.ref u1)] [(.int x)])) tz
    by_cases hm4 : x = (0 : Int32)
    · refine XS.ifYes X1.here hx rfl (pc0 := 6) (pc' := 13) rfl (hb hby own_d9_6) rfl ((if0 _ _).trans (teq hm4).1) (by decide) (by decide) ?_
      show Steps p.tables e below (T1.setTop (mkF m 13 #[.val (.ref u0), .val (.ref u1)] [])) tz
      refine XS.iconst X1.here hx rfl (hb hby own_d9_13) ?_
      show Steps p.tables e below (T1.setTop (mkF m 14 #[.val (.ref u0), .val (.ref u1)] [(.int (0 : Int32))])) tz
      rw [if_pos hm4] at hmv5
      rw [hmv5] at kz
      exact kz
    · refine XS.ifNo X1.here hx rfl (hb hby own_d9_6) rfl ((if0 _ _).trans (feq hm4).1) ?_
      show Steps p.tables e below (T1.setTop (mkF m 9 #[.val (.ref u0), .val (.ref u1)] [])) tz
      refine XS.iconst X1.here hx rfl (hb hby own_d9_9) ?_
      show Steps p.tables e below (T1.setTop (mkF m 10 #[.val (.ref u0), .val (.ref u1)] [(.int (1 : Int32))])) tz
      refine XS.goto X1.here hx rfl (pc0 := 10) (pc' := 14) rfl (hb hby own_d9_10) (by decide) (by decide) ?_
      show Steps p.tables e below (T1.setTop (mkF m 14 #[.val (.ref u0), .val (.ref u1)] [(.int (1 : Int32))])) tz
      rw [if_neg hm4] at hmv5
      rw [hmv5] at kz
      exact kz
  rw [hmv5]
  obtain ⟨fs, hr, hrun, hended, hW, hsame⟩ := X1.leave (v := some (.int (if x = (0 : Int32) then (0 : Int32) else (1 : Int32)))) (fun h => by rw [Bd.returns] at h; cases h)
  refine own_of ⟨_, _, ?_, hrun, hended, _, _, rfl, ?_, ⟨_, rfl⟩, hW, hsame.mono (by decide) (by decide)⟩
  · show Steps p.tables e below (T1.setTop (mkF m 14 #[.val (.ref u0), .val (.ref u1)] [(.int (if x = (0 : Int32) then (0 : Int32) else (1 : Int32)))])) _
    exact own_retN X1 hx (t := .boolean) Bd.returns (by simp) (by first | rfl | (split <;> first | rfl | (split <;> first | rfl | (split <;> rfl)))) (hb hby own_d9_14) hr
  · show Q9 Z u0 u1 ix x kk s0 s1 s2 h0 n0 _ T1.heap _
    rw [e1]
    exact ⟨rfl, N0, rfl⟩
theorem own_idx (x k : Int32) (h : (x &&& (2147483647 : Int32)) % (3 : Int32) = k) : ¬ k < 0 ∧ k < 3 ∧ (k = 0 ∨ k = 1 ∨ k = 2) := by
  have e := c_mask x 2147483647 31 (by decide) (by decide)
  have e2 := (c_irem (x &&& 2147483647) 3 3 (by decide)).1 (by omega)
  rw [h] at e2
  have z : (0 : Int32).toInt = 0 := rfl
  have z1 : (1 : Int32).toInt = 1 := rfl
  have z2 : (2 : Int32).toInt = 2 := rfl
  have z3 : (3 : Int32).toInt = 3 := rfl
  refine ⟨?_, ?_, ?_⟩
  · rw [Int32.lt_iff_toInt_lt]; omega
  · rw [Int32.lt_iff_toInt_lt]; omega
  · simp only [← Int32.toInt_inj]; omega
theorem own_pick (k y a b c s0 s1 s2 : Int32) (h : k = 0 ∨ k = 1 ∨ k = 2) (h0 : (if k = (0 : Int32) then y else a) = s0) (h1 : (if k = (1 : Int32) then y else b) = s1) (h2 : (if k = (2 : Int32) then y else c) = s2) :
    ([(.int s0), (.int s1), (.int s2)] : List Value).getD k.toNatClampNeg (.int 0) = .int y := by
  rcases h with rfl | rfl | rfl
  · rw [if_pos rfl] at h0; subst h0; rfl
  · rw [if_pos rfl] at h1; subst h1; rfl
  · rw [if_pos rfl] at h2; subst h2; rfl
theorem own_bit (x y : Int32) (h : x &&& (1 : Int32) = y) : (if y = (0 : Int32) then (0 : Int32) else (1 : Int32)) = (if y = (1 : Int32) then (1 : Int32) else (0 : Int32)) := by
  rcases and_one x with q | q <;> (rw [q] at h; subst h; rfl)
theorem own_pn_com_example_focus_on_games_focusongames_io_VariableBooleanValuePinLaw : plainName "com/example/focus_on_games/focusongames/io/VariableBooleanValuePinLaw" = true := by first | (simp [plainName, overriddenIn]; done) | decide +kernel
theorem own_ef_0 (m : MethodId) (x0 : Int32) (x1 : Int32) (x2 : Int32) (x3 : Int32) (x4 : Int32) (x5 : Int32) : entryFrame m #[(.int x0), (.int x1), (.int x2), (.int x3), (.int x4), (.int x5)] maxLocals = mkF m 0 #[.val (.int x0), .val (.int x1), .val (.int x2), .val (.int x3), .val (.int x4), .val (.int x5), .unset, .unset, .unset, .unset, .unset, .unset, .unset, .unset, .unset] [] := by first | (simp [entryFrame, mkF, argsToLocals, Value.category, maxLocals]; done) | rfl
def Q0 (Z : State) (p0 : Int32) (p1 : Int32) (p2 : Int32) (p3 : Int32) (p4 : Int32) (p5 : Int32) (wB : Addr) (wL : Addr) (ea : Addr) (h0 : Heap) (n0 : Nat) (v : Option Value) (h : Heap) (L : List Loc) : Prop := v = some (.int 1) ∧ Fr n0 L
theorem own_pd6 : parseMethodDescriptor "(ILcom/example/focus_on_games/focusongames/io/Expression$Type;I)V" = some ⟨[.int, (.object "com/example/focus_on_games/focusongames/io/Expression$Type"), .int], none⟩ := by decide +kernel
theorem own_pd7 : parseMethodDescriptor "([I)Z" = some ⟨[(.array .int)], some .boolean⟩ := by decide +kernel
set_option maxRecDepth 65536 in
set_option maxHeartbeats 40000000 in
theorem rm0 (l : Launch) (Z : State) (a0 : Array Value) (hw : ∀ d ∈ tables_1, d.before a0 Z = true) (ws : List Jvm.Cond) (p0 : Int32) (p1 : Int32) (p2 : Int32) (p3 : Int32) (p4 : Int32) (p5 : Int32) (wB : Addr) (wL : Addr) (ea : Addr) (h0 : Heap) (n0 : Nat) (O0 : Old Z n0 h0) (S_B : Sta Z Z.heap "com/example/focus_on_games/focusongames/io/Expression$Type" "BOOLEAN" "Lcom/example/focus_on_games/focusongames/io/Expression$Type;" (.ref wB)) (S_L : Sta Z Z.heap "java/util/ImmutableCollections" "EMPTY_LIST" "Ljava/util/ImmutableCollections$ListN;" (.ref wL)) (E_L : Exa Z Z.heap wL "java/util/ImmutableCollections$ListN") (F_e : Fld Z Z.heap wL "java/util/ImmutableCollections$ListN" "elements" "[Ljava/lang/Object;" (.ref ea)) (A_e : OwnArz Z Z.heap ea (.object "java/lang/Object") 0) :
    MetFree l x (head1 (Jvm.Cond.code x code maxLocals ret :: ws) room_1) (fun a U => a = #[(.int p0), (.int p1), (.int p2), (.int p3), (.int p4), (.int p5)] ∧ Z.Warmed39 U.vm ∧ U.heap = h0) (fun _ _ _ _ _ => True) (fun _ U o U' => ∃ v L, o = .returned v ∧ Q0 Z p0 p1 p2 p3 p4 p5 wB wL ea h0 n0 v U'.heap L ∧ FrameEnd U o U' L room_1.cells room_1.slots) := by
  refine MetFree.of_bodySF (plainFor_of_name own_pn_com_example_focus_on_games_focusongames_io_VariableBooleanValuePinLaw) hisR ?_
  intro p e s m args below meth c s₁ Bd hml0 hP hK
  obtain ⟨rfl, hZ, hh⟩ := hP
  have hx := Bd.exec
  have hby := Bd.bytes
  have hml : c.maxLocals = 15 := hml0
  have hown : s.vm.findClass "com/example/focus_on_games/focusongames/io/VariableBooleanValuePinLaw" = some m.cls := findClass_of_methodNamed Bd.named
  have hnm := (name_of_methodNamed Bd.named Bd.method).1
  have X0 : Stand p l e room_1 s m #[(.int p0), (.int p1), (.int p2), (.int p3), (.int p4), (.int p5)] below meth c s₁ [] 0 0 := Stand.of_body Bd
  have e0 : s₁.heap = h0 := by rw [← hh, Bd.state]; rfl
  have N0 := Fr.nil n0
  change Go p.tables e below _ _
  refine own_on (B := s₁.setTop (mkF m 0 #[.val (.int p0), .val (.int p1), .val (.int p2), .val (.int p3), .val (.int p4), .val (.int p5), .unset, .unset, .unset, .unset, .unset, .unset, .unset, .unset, .unset] [])) (fun tz kz => castTop (own_ef_0 m p0 p1 p2 p3 p4 p5) kz) ?_
  refine own_on (B := s₁.setTop (mkF m 15 #[.val (.int p0), .val (.int p1), .val (.int p2), .val (.int p3), .val (.int p4), .val (.int p5), .val (.int ((p0 &&& (2147483647 : Int32)) % (3 : Int32))), .val (.int (p1 &&& (1 : Int32))), .unset, .unset, .unset, .unset, .unset, .unset, .unset] [(.int ((p0 &&& (2147483647 : Int32)) % (3 : Int32)))])) (fun tz kz => ?_) ?_
  · show Steps p.tables e below (s₁.setTop (mkF m 0 #[.val (.int p0), .val (.int p1), .val (.int p2), .val (.int p3), .val (.int p4), .val (.int p5), .unset, .unset, .unset, .unset, .unset, .unset, .unset, .unset, .unset] [])) tz
    refine XS.iloadN X0.here hx rfl (hb hby at_0) rfl ?_
    show Steps p.tables e below (s₁.setTop (mkF m 1 #[.val (.int p0), .val (.int p1), .val (.int p2), .val (.int p3), .val (.int p4), .val (.int p5), .unset, .unset, .unset, .unset, .unset, .unset, .unset, .unset, .unset] [(.int p0)])) tz
    refine X0.ldcInt hx hown (mvT hZ (hw _ (List.mem_of_getElem? (i := 0) rfl))) (g := (mkF m 1 #[.val (.int p0), .val (.int p1), .val (.int p2), .val (.int p3), .val (.int p4), .val (.int p5), .unset, .unset, .unset, .unset, .unset, .unset, .unset, .unset, .unset] [(.int p0)])) rfl (hb hby at_1) _ ?_
    show Steps p.tables e below (s₁.setTop (mkF m 3 #[.val (.int p0), .val (.int p1), .val (.int p2), .val (.int p3), .val (.int p4), .val (.int p5), .unset, .unset, .unset, .unset, .unset, .unset, .unset, .unset, .unset] [(.int (2147483647 : Int32)), (.int p0)])) tz
    refine XS.iand X0.here hx rfl (hb hby at_3) rfl ?_
    show Steps p.tables e below (s₁.setTop (mkF m 4 #[.val (.int p0), .val (.int p1), .val (.int p2), .val (.int p3), .val (.int p4), .val (.int p5), .unset, .unset, .unset, .unset, .unset, .unset, .unset, .unset, .unset] [(.int (p0 &&& (2147483647 : Int32)))])) tz
    refine XS.iconst X0.here hx rfl (hb hby at_4) ?_
    show Steps p.tables e below (s₁.setTop (mkF m 5 #[.val (.int p0), .val (.int p1), .val (.int p2), .val (.int p3), .val (.int p4), .val (.int p5), .unset, .unset, .unset, .unset, .unset, .unset, .unset, .unset, .unset] [(.int (3 : Int32)), (.int (p0 &&& (2147483647 : Int32)))])) tz
    refine iremM (g := (mkF m 5 #[.val (.int p0), .val (.int p1), .val (.int p2), .val (.int p3), .val (.int p4), .val (.int p5), .unset, .unset, .unset, .unset, .unset, .unset, .unset, .unset, .unset] [(.int (3 : Int32)), (.int (p0 &&& (2147483647 : Int32)))])) X0 hx rfl (hb hby at_5) rfl (by decide) ?_
    show Steps p.tables e below (s₁.setTop (mkF m 6 #[.val (.int p0), .val (.int p1), .val (.int p2), .val (.int p3), .val (.int p4), .val (.int p5), .unset, .unset, .unset, .unset, .unset, .unset, .unset, .unset, .unset] [(.int ((p0 &&& (2147483647 : Int32)) % (3 : Int32)))])) tz
    refine XS.istore X0.here hx rfl (hb hby at_6) rfl (l' := #[.val (.int p0), .val (.int p1), .val (.int p2), .val (.int p3), .val (.int p4), .val (.int p5), .val (.int ((p0 &&& (2147483647 : Int32)) % (3 : Int32))), .unset, .unset, .unset, .unset, .unset, .unset, .unset, .unset]) rfl ?_
    show Steps p.tables e below (s₁.setTop (mkF m 8 #[.val (.int p0), .val (.int p1), .val (.int p2), .val (.int p3), .val (.int p4), .val (.int p5), .val (.int ((p0 &&& (2147483647 : Int32)) % (3 : Int32))), .unset, .unset, .unset, .unset, .unset, .unset, .unset, .unset] [])) tz
    refine XS.iloadN X0.here hx rfl (hb hby at_8) rfl ?_
    show Steps p.tables e below (s₁.setTop (mkF m 9 #[.val (.int p0), .val (.int p1), .val (.int p2), .val (.int p3), .val (.int p4), .val (.int p5), .val (.int ((p0 &&& (2147483647 : Int32)) % (3 : Int32))), .unset, .unset, .unset, .unset, .unset, .unset, .unset, .unset] [(.int p1)])) tz
    refine XS.iconst X0.here hx rfl (hb hby at_9) ?_
    show Steps p.tables e below (s₁.setTop (mkF m 10 #[.val (.int p0), .val (.int p1), .val (.int p2), .val (.int p3), .val (.int p4), .val (.int p5), .val (.int ((p0 &&& (2147483647 : Int32)) % (3 : Int32))), .unset, .unset, .unset, .unset, .unset, .unset, .unset, .unset] [(.int (1 : Int32)), (.int p1)])) tz
    refine XS.iand X0.here hx rfl (hb hby at_10) rfl ?_
    show Steps p.tables e below (s₁.setTop (mkF m 11 #[.val (.int p0), .val (.int p1), .val (.int p2), .val (.int p3), .val (.int p4), .val (.int p5), .val (.int ((p0 &&& (2147483647 : Int32)) % (3 : Int32))), .unset, .unset, .unset, .unset, .unset, .unset, .unset, .unset] [(.int (p1 &&& (1 : Int32)))])) tz
    refine XS.istore X0.here hx rfl (hb hby at_11) rfl (l' := #[.val (.int p0), .val (.int p1), .val (.int p2), .val (.int p3), .val (.int p4), .val (.int p5), .val (.int ((p0 &&& (2147483647 : Int32)) % (3 : Int32))), .val (.int (p1 &&& (1 : Int32))), .unset, .unset, .unset, .unset, .unset, .unset, .unset]) rfl ?_
    show Steps p.tables e below (s₁.setTop (mkF m 13 #[.val (.int p0), .val (.int p1), .val (.int p2), .val (.int p3), .val (.int p4), .val (.int p5), .val (.int ((p0 &&& (2147483647 : Int32)) % (3 : Int32))), .val (.int (p1 &&& (1 : Int32))), .unset, .unset, .unset, .unset, .unset, .unset, .unset] [])) tz
    refine XS.iload X0.here hx rfl (hb hby at_13) rfl ?_
    exact kz
  generalize hv_ix : ((p0 &&& (2147483647 : Int32)) % (3 : Int32)) = ix
  generalize hv_bt : (p1 &&& (1 : Int32)) = bt
  obtain ⟨mv2, hmv2⟩ : ∃ z, z = (if ix = (0 : Int32) then bt else p2) := ⟨_, rfl⟩
  refine own_on (B := s₁.setTop (mkF m 24 #[.val (.int p0), .val (.int p1), .val (.int p2), .val (.int p3), .val (.int p4), .val (.int p5), .val (.int ix), .val (.int bt), .unset, .unset, .unset, .unset, .unset, .unset, .unset] [(.int mv2)])) (fun tz kz => ?_) ?_
  · show Steps p.tables e below (s₁.setTop (mkF m 15 #[.val (.int p0), .val (.int p1), .val (.int p2), .val (.int p3), .val (.int p4), .val (.int p5), .val (.int ix), .val (.int bt), .unset, .unset, .unset, .unset, .unset, .unset, .unset] [(.int ix)])) tz
    by_cases hm1 : ix = (0 : Int32)
    · refine XS.ifNo X0.here hx rfl (hb hby at_15) rfl ((if0 _ _).trans (teq hm1).2) ?_
      show Steps p.tables e below (s₁.setTop (mkF m 18 #[.val (.int p0), .val (.int p1), .val (.int p2), .val (.int p3), .val (.int p4), .val (.int p5), .val (.int ix), .val (.int bt), .unset, .unset, .unset, .unset, .unset, .unset, .unset] [])) tz
      refine XS.iload X0.here hx rfl (hb hby at_18) rfl ?_
      show Steps p.tables e below (s₁.setTop (mkF m 20 #[.val (.int p0), .val (.int p1), .val (.int p2), .val (.int p3), .val (.int p4), .val (.int p5), .val (.int ix), .val (.int bt), .unset, .unset, .unset, .unset, .unset, .unset, .unset] [(.int bt)])) tz
      refine XS.goto X0.here hx rfl (pc0 := 20) (pc' := 24) rfl (hb hby at_20) (by decide) (by decide) ?_
      show Steps p.tables e below (s₁.setTop (mkF m 24 #[.val (.int p0), .val (.int p1), .val (.int p2), .val (.int p3), .val (.int p4), .val (.int p5), .val (.int ix), .val (.int bt), .unset, .unset, .unset, .unset, .unset, .unset, .unset] [(.int bt)])) tz
      rw [if_pos hm1] at hmv2
      rw [hmv2] at kz
      exact kz
    · refine XS.ifYes X0.here hx rfl (pc0 := 15) (pc' := 23) rfl (hb hby at_15) rfl ((if0 _ _).trans (feq hm1).2) (by decide) (by decide) ?_
      show Steps p.tables e below (s₁.setTop (mkF m 23 #[.val (.int p0), .val (.int p1), .val (.int p2), .val (.int p3), .val (.int p4), .val (.int p5), .val (.int ix), .val (.int bt), .unset, .unset, .unset, .unset, .unset, .unset, .unset] [])) tz
      refine XS.iloadN X0.here hx rfl (hb hby at_23) rfl ?_
      show Steps p.tables e below (s₁.setTop (mkF m 24 #[.val (.int p0), .val (.int p1), .val (.int p2), .val (.int p3), .val (.int p4), .val (.int p5), .val (.int ix), .val (.int bt), .unset, .unset, .unset, .unset, .unset, .unset, .unset] [(.int p2)])) tz
      rw [if_neg hm1] at hmv2
      rw [hmv2] at kz
      exact kz
  rw [hmv2]
  generalize hv_s0 : (if ix = (0 : Int32) then bt else p2) = s0
  refine own_on (B := s₁.setTop (mkF m 29 #[.val (.int p0), .val (.int p1), .val (.int p2), .val (.int p3), .val (.int p4), .val (.int p5), .val (.int ix), .val (.int bt), .val (.int s0), .unset, .unset, .unset, .unset, .unset, .unset] [(.int (1 : Int32)), (.int ix)])) (fun tz kz => ?_) ?_
  · show Steps p.tables e below (s₁.setTop (mkF m 24 #[.val (.int p0), .val (.int p1), .val (.int p2), .val (.int p3), .val (.int p4), .val (.int p5), .val (.int ix), .val (.int bt), .unset, .unset, .unset, .unset, .unset, .unset, .unset] [(.int s0)])) tz
    refine XS.istore X0.here hx rfl (hb hby at_24) rfl (l' := #[.val (.int p0), .val (.int p1), .val (.int p2), .val (.int p3), .val (.int p4), .val (.int p5), .val (.int ix), .val (.int bt), .val (.int s0), .unset, .unset, .unset, .unset, .unset, .unset]) rfl ?_
    show Steps p.tables e below (s₁.setTop (mkF m 26 #[.val (.int p0), .val (.int p1), .val (.int p2), .val (.int p3), .val (.int p4), .val (.int p5), .val (.int ix), .val (.int bt), .val (.int s0), .unset, .unset, .unset, .unset, .unset, .unset] [])) tz
    refine XS.iload X0.here hx rfl (hb hby at_26) rfl ?_
    show Steps p.tables e below (s₁.setTop (mkF m 28 #[.val (.int p0), .val (.int p1), .val (.int p2), .val (.int p3), .val (.int p4), .val (.int p5), .val (.int ix), .val (.int bt), .val (.int s0), .unset, .unset, .unset, .unset, .unset, .unset] [(.int ix)])) tz
    refine XS.iconst X0.here hx rfl (hb hby at_28) ?_
    exact kz
  obtain ⟨mv4, hmv4⟩ : ∃ z, z = (if ix = (1 : Int32) then bt else p3) := ⟨_, rfl⟩
  refine own_on (B := s₁.setTop (mkF m 38 #[.val (.int p0), .val (.int p1), .val (.int p2), .val (.int p3), .val (.int p4), .val (.int p5), .val (.int ix), .val (.int bt), .val (.int s0), .unset, .unset, .unset, .unset, .unset, .unset] [(.int mv4)])) (fun tz kz => ?_) ?_
  · show Steps p.tables e below (s₁.setTop (mkF m 29 #[.val (.int p0), .val (.int p1), .val (.int p2), .val (.int p3), .val (.int p4), .val (.int p5), .val (.int ix), .val (.int bt), .val (.int s0), .unset, .unset, .unset, .unset, .unset, .unset] [(.int (1 : Int32)), (.int ix)])) tz
    by_cases hm3 : ix = (1 : Int32)
    · refine XS.icmpNo X0.here hx rfl (hb hby at_29) rfl (teq hm3).2 ?_
      show Steps p.tables e below (s₁.setTop (mkF m 32 #[.val (.int p0), .val (.int p1), .val (.int p2), .val (.int p3), .val (.int p4), .val (.int p5), .val (.int ix), .val (.int bt), .val (.int s0), .unset, .unset, .unset, .unset, .unset, .unset] [])) tz
      refine XS.iload X0.here hx rfl (hb hby at_32) rfl ?_
      show Steps p.tables e below (s₁.setTop (mkF m 34 #[.val (.int p0), .val (.int p1), .val (.int p2), .val (.int p3), .val (.int p4), .val (.int p5), .val (.int ix), .val (.int bt), .val (.int s0), .unset, .unset, .unset, .unset, .unset, .unset] [(.int bt)])) tz
      refine XS.goto X0.here hx rfl (pc0 := 34) (pc' := 38) rfl (hb hby at_34) (by decide) (by decide) ?_
      show Steps p.tables e below (s₁.setTop (mkF m 38 #[.val (.int p0), .val (.int p1), .val (.int p2), .val (.int p3), .val (.int p4), .val (.int p5), .val (.int ix), .val (.int bt), .val (.int s0), .unset, .unset, .unset, .unset, .unset, .unset] [(.int bt)])) tz
      rw [if_pos hm3] at hmv4
      rw [hmv4] at kz
      exact kz
    · refine XS.icmpYes X0.here hx rfl (pc0 := 29) (pc' := 37) rfl (hb hby at_29) rfl (feq hm3).2 (by decide) (by decide) ?_
      show Steps p.tables e below (s₁.setTop (mkF m 37 #[.val (.int p0), .val (.int p1), .val (.int p2), .val (.int p3), .val (.int p4), .val (.int p5), .val (.int ix), .val (.int bt), .val (.int s0), .unset, .unset, .unset, .unset, .unset, .unset] [])) tz
      refine XS.iloadN X0.here hx rfl (hb hby at_37) rfl ?_
      show Steps p.tables e below (s₁.setTop (mkF m 38 #[.val (.int p0), .val (.int p1), .val (.int p2), .val (.int p3), .val (.int p4), .val (.int p5), .val (.int ix), .val (.int bt), .val (.int s0), .unset, .unset, .unset, .unset, .unset, .unset] [(.int p3)])) tz
      rw [if_neg hm3] at hmv4
      rw [hmv4] at kz
      exact kz
  rw [hmv4]
  generalize hv_s1 : (if ix = (1 : Int32) then bt else p3) = s1
  refine own_on (B := s₁.setTop (mkF m 43 #[.val (.int p0), .val (.int p1), .val (.int p2), .val (.int p3), .val (.int p4), .val (.int p5), .val (.int ix), .val (.int bt), .val (.int s0), .val (.int s1), .unset, .unset, .unset, .unset, .unset] [(.int (2 : Int32)), (.int ix)])) (fun tz kz => ?_) ?_
  · show Steps p.tables e below (s₁.setTop (mkF m 38 #[.val (.int p0), .val (.int p1), .val (.int p2), .val (.int p3), .val (.int p4), .val (.int p5), .val (.int ix), .val (.int bt), .val (.int s0), .unset, .unset, .unset, .unset, .unset, .unset] [(.int s1)])) tz
    refine XS.istore X0.here hx rfl (hb hby at_38) rfl (l' := #[.val (.int p0), .val (.int p1), .val (.int p2), .val (.int p3), .val (.int p4), .val (.int p5), .val (.int ix), .val (.int bt), .val (.int s0), .val (.int s1), .unset, .unset, .unset, .unset, .unset]) rfl ?_
    show Steps p.tables e below (s₁.setTop (mkF m 40 #[.val (.int p0), .val (.int p1), .val (.int p2), .val (.int p3), .val (.int p4), .val (.int p5), .val (.int ix), .val (.int bt), .val (.int s0), .val (.int s1), .unset, .unset, .unset, .unset, .unset] [])) tz
    refine XS.iload X0.here hx rfl (hb hby at_40) rfl ?_
    show Steps p.tables e below (s₁.setTop (mkF m 42 #[.val (.int p0), .val (.int p1), .val (.int p2), .val (.int p3), .val (.int p4), .val (.int p5), .val (.int ix), .val (.int bt), .val (.int s0), .val (.int s1), .unset, .unset, .unset, .unset, .unset] [(.int ix)])) tz
    refine XS.iconst X0.here hx rfl (hb hby at_42) ?_
    exact kz
  obtain ⟨mv6, hmv6⟩ : ∃ z, z = (if ix = (2 : Int32) then bt else p4) := ⟨_, rfl⟩
  refine own_on (B := s₁.setTop (mkF m 53 #[.val (.int p0), .val (.int p1), .val (.int p2), .val (.int p3), .val (.int p4), .val (.int p5), .val (.int ix), .val (.int bt), .val (.int s0), .val (.int s1), .unset, .unset, .unset, .unset, .unset] [(.int mv6)])) (fun tz kz => ?_) ?_
  · show Steps p.tables e below (s₁.setTop (mkF m 43 #[.val (.int p0), .val (.int p1), .val (.int p2), .val (.int p3), .val (.int p4), .val (.int p5), .val (.int ix), .val (.int bt), .val (.int s0), .val (.int s1), .unset, .unset, .unset, .unset, .unset] [(.int (2 : Int32)), (.int ix)])) tz
    by_cases hm5 : ix = (2 : Int32)
    · refine XS.icmpNo X0.here hx rfl (hb hby at_43) rfl (teq hm5).2 ?_
      show Steps p.tables e below (s₁.setTop (mkF m 46 #[.val (.int p0), .val (.int p1), .val (.int p2), .val (.int p3), .val (.int p4), .val (.int p5), .val (.int ix), .val (.int bt), .val (.int s0), .val (.int s1), .unset, .unset, .unset, .unset, .unset] [])) tz
      refine XS.iload X0.here hx rfl (hb hby at_46) rfl ?_
      show Steps p.tables e below (s₁.setTop (mkF m 48 #[.val (.int p0), .val (.int p1), .val (.int p2), .val (.int p3), .val (.int p4), .val (.int p5), .val (.int ix), .val (.int bt), .val (.int s0), .val (.int s1), .unset, .unset, .unset, .unset, .unset] [(.int bt)])) tz
      refine XS.goto X0.here hx rfl (pc0 := 48) (pc' := 53) rfl (hb hby at_48) (by decide) (by decide) ?_
      show Steps p.tables e below (s₁.setTop (mkF m 53 #[.val (.int p0), .val (.int p1), .val (.int p2), .val (.int p3), .val (.int p4), .val (.int p5), .val (.int ix), .val (.int bt), .val (.int s0), .val (.int s1), .unset, .unset, .unset, .unset, .unset] [(.int bt)])) tz
      rw [if_pos hm5] at hmv6
      rw [hmv6] at kz
      exact kz
    · refine XS.icmpYes X0.here hx rfl (pc0 := 43) (pc' := 51) rfl (hb hby at_43) rfl (feq hm5).2 (by decide) (by decide) ?_
      show Steps p.tables e below (s₁.setTop (mkF m 51 #[.val (.int p0), .val (.int p1), .val (.int p2), .val (.int p3), .val (.int p4), .val (.int p5), .val (.int ix), .val (.int bt), .val (.int s0), .val (.int s1), .unset, .unset, .unset, .unset, .unset] [])) tz
      refine XS.iload X0.here hx rfl (hb hby at_51) rfl ?_
      show Steps p.tables e below (s₁.setTop (mkF m 53 #[.val (.int p0), .val (.int p1), .val (.int p2), .val (.int p3), .val (.int p4), .val (.int p5), .val (.int ix), .val (.int bt), .val (.int s0), .val (.int s1), .unset, .unset, .unset, .unset, .unset] [(.int p4)])) tz
      rw [if_neg hm5] at hmv6
      rw [hmv6] at kz
      exact kz
  rw [hmv6]
  generalize hv_s2 : (if ix = (2 : Int32) then bt else p4) = s2
  obtain ⟨hx0, hx1, hx2⟩ := own_idx _ _ hv_ix
  refine own_on (B := s₁.setTop (mkF m 56 #[.val (.int p0), .val (.int p1), .val (.int p2), .val (.int p3), .val (.int p4), .val (.int p5), .val (.int ix), .val (.int bt), .val (.int s0), .val (.int s1), .val (.int s2), .unset, .unset, .unset, .unset] [(.int (3 : Int32))])) (fun tz kz => ?_) ?_
  · show Steps p.tables e below (s₁.setTop (mkF m 53 #[.val (.int p0), .val (.int p1), .val (.int p2), .val (.int p3), .val (.int p4), .val (.int p5), .val (.int ix), .val (.int bt), .val (.int s0), .val (.int s1), .unset, .unset, .unset, .unset, .unset] [(.int s2)])) tz
    refine XS.istore X0.here hx rfl (hb hby at_53) rfl (l' := #[.val (.int p0), .val (.int p1), .val (.int p2), .val (.int p3), .val (.int p4), .val (.int p5), .val (.int ix), .val (.int bt), .val (.int s0), .val (.int s1), .val (.int s2), .unset, .unset, .unset, .unset]) rfl ?_
    show Steps p.tables e below (s₁.setTop (mkF m 55 #[.val (.int p0), .val (.int p1), .val (.int p2), .val (.int p3), .val (.int p4), .val (.int p5), .val (.int ix), .val (.int bt), .val (.int s0), .val (.int s1), .val (.int s2), .unset, .unset, .unset, .unset] [])) tz
    refine XS.iconst X0.here hx rfl (hb hby at_55) ?_
    exact kz
  obtain ⟨T7, h7, k7, X7, e7, E7, A7, st7⟩ := newP X0 hx hZ (hw _ (List.mem_of_getElem? (i := 1) rfl)) e0 (g := (mkF m 56 #[.val (.int p0), .val (.int p1), .val (.int p2), .val (.int p3), .val (.int p4), .val (.int p5), .val (.int ix), .val (.int bt), .val (.int s0), .val (.int s1), .val (.int s2), .unset, .unset, .unset, .unset] [(.int (3 : Int32))])) rfl (hb hby at_56) rfl (by decide) (cap := 3) (by decide) (by decide) (by decide) (by decide)
  obtain ⟨b7, g7⟩ : ∃ z, z = h0.size := ⟨_, rfl⟩
  rw [← g7] at A7 st7
  have g_b7 : n0 ≤ b7 := Nat.le_trans (own_old O0) (Nat.le_of_eq g7.symm)
  have sz_b7 : h0.size ≤ b7 := Nat.le_trans (Keep.refl h0 []).1 (Nat.le_of_eq g7.symm)
  have O8 := O0.ext E7
  have K8 : Keep h0 h7 [] := (Keep.refl h0 []).ext E7
  have V7 : Arv Z h7 b7 k7 .int (3 : Int32) [(.int (0 : Int32)), (.int (0 : Int32)), (.int (0 : Int32))] (.int (0 : Int32)) := (Arv.new A7 (by decide)).pad (pad_rep [] (.int (0 : Int32)) 3)
  refine own_on (B := T7.setTop (mkF m 58 #[.val (.int p0), .val (.int p1), .val (.int p2), .val (.int p3), .val (.int p4), .val (.int p5), .val (.int ix), .val (.int bt), .val (.int s0), .val (.int s1), .val (.int s2), .unset, .unset, .unset, .unset] [(.ref b7)])) (fun tz kz => st7 _ kz) ?_
  refine own_on (B := T7.setTop (mkF m 62 #[.val (.int p0), .val (.int p1), .val (.int p2), .val (.int p3), .val (.int p4), .val (.int p5), .val (.int ix), .val (.int bt), .val (.int s0), .val (.int s1), .val (.int s2), .unset, .unset, .unset, .unset] [(.int s0), (.int (0 : Int32)), (.ref b7), (.ref b7)])) (fun tz kz => ?_) ?_
  · show Steps p.tables e below (T7.setTop (mkF m 58 #[.val (.int p0), .val (.int p1), .val (.int p2), .val (.int p3), .val (.int p4), .val (.int p5), .val (.int ix), .val (.int bt), .val (.int s0), .val (.int s1), .val (.int s2), .unset, .unset, .unset, .unset] [(.ref b7)])) tz
    refine XS.dup X7.here hx rfl (hb hby at_58) rfl rfl ?_
    show Steps p.tables e below (T7.setTop (mkF m 59 #[.val (.int p0), .val (.int p1), .val (.int p2), .val (.int p3), .val (.int p4), .val (.int p5), .val (.int ix), .val (.int bt), .val (.int s0), .val (.int s1), .val (.int s2), .unset, .unset, .unset, .unset] [(.ref b7), (.ref b7)])) tz
    refine XS.iconst X7.here hx rfl (hb hby at_59) ?_
    show Steps p.tables e below (T7.setTop (mkF m 60 #[.val (.int p0), .val (.int p1), .val (.int p2), .val (.int p3), .val (.int p4), .val (.int p5), .val (.int ix), .val (.int bt), .val (.int s0), .val (.int s1), .val (.int s2), .unset, .unset, .unset, .unset] [(.int (0 : Int32)), (.ref b7), (.ref b7)])) tz
    refine XS.iload X7.here hx rfl (hb hby at_60) rfl ?_
    exact kz
  obtain ⟨cl9, Ar9, q9, S9, M9, H9, G9⟩ := id V7
  have hin10 : ¬ ((0 : Int32) < 0 ∨ cl9.slots.size ≤ ((0 : Int32)).toNatClampNeg) := inb_of S9 ⟨by decide, by decide⟩
  obtain ⟨T10, h10, X10, e10, W10, st10⟩ := stI X7 hx hZ e7 Ar9 (j := (0 : Int32)) hin10 (g := (mkF m 62 #[.val (.int p0), .val (.int p1), .val (.int p2), .val (.int p3), .val (.int p4), .val (.int p5), .val (.int ix), .val (.int bt), .val (.int s0), .val (.int s1), .val (.int s2), .unset, .unset, .unset, .unset] [(.int s0), (.int (0 : Int32)), (.ref b7), (.ref b7)])) rfl rfl (hb hby at_62)
  have V10 : Arv Z h10 b7 k7 .int (3 : Int32) [(.int s0), (.int (0 : Int32)), (.int (0 : Int32))] (.int (0 : Int32)) := Arv.set Ar9 q9 S9 M9 H9 G9 rfl W10 0 rfl (Nat.le_of_ble_eq_true rfl)
  have N10 := Fr.snoc X10 N0 g_b7
  have O11 := O8.wr W10 g_b7
  have K11 : Keep h0 h10 [] := K8.wr W10 (Or.inr sz_b7)
  refine own_on (B := T10.setTop (mkF m 63 #[.val (.int p0), .val (.int p1), .val (.int p2), .val (.int p3), .val (.int p4), .val (.int p5), .val (.int ix), .val (.int bt), .val (.int s0), .val (.int s1), .val (.int s2), .unset, .unset, .unset, .unset] [(.ref b7)])) (fun tz kz => st10 _ kz) ?_
  refine own_on (B := T10.setTop (mkF m 67 #[.val (.int p0), .val (.int p1), .val (.int p2), .val (.int p3), .val (.int p4), .val (.int p5), .val (.int ix), .val (.int bt), .val (.int s0), .val (.int s1), .val (.int s2), .unset, .unset, .unset, .unset] [(.int s1), (.int (1 : Int32)), (.ref b7), (.ref b7)])) (fun tz kz => ?_) ?_
  · show Steps p.tables e below (T10.setTop (mkF m 63 #[.val (.int p0), .val (.int p1), .val (.int p2), .val (.int p3), .val (.int p4), .val (.int p5), .val (.int ix), .val (.int bt), .val (.int s0), .val (.int s1), .val (.int s2), .unset, .unset, .unset, .unset] [(.ref b7)])) tz
    refine XS.dup X10.here hx rfl (hb hby at_63) rfl rfl ?_
    show Steps p.tables e below (T10.setTop (mkF m 64 #[.val (.int p0), .val (.int p1), .val (.int p2), .val (.int p3), .val (.int p4), .val (.int p5), .val (.int ix), .val (.int bt), .val (.int s0), .val (.int s1), .val (.int s2), .unset, .unset, .unset, .unset] [(.ref b7), (.ref b7)])) tz
    refine XS.iconst X10.here hx rfl (hb hby at_64) ?_
    show Steps p.tables e below (T10.setTop (mkF m 65 #[.val (.int p0), .val (.int p1), .val (.int p2), .val (.int p3), .val (.int p4), .val (.int p5), .val (.int ix), .val (.int bt), .val (.int s0), .val (.int s1), .val (.int s2), .unset, .unset, .unset, .unset] [(.int (1 : Int32)), (.ref b7), (.ref b7)])) tz
    refine XS.iload X10.here hx rfl (hb hby at_65) rfl ?_
    exact kz
  obtain ⟨cl12, Ar12, q12, S12, M12, H12, G12⟩ := id V10
  have hin13 : ¬ ((1 : Int32) < 0 ∨ cl12.slots.size ≤ ((1 : Int32)).toNatClampNeg) := inb_of S12 ⟨by decide, by decide⟩
  obtain ⟨T13, h13, X13, e13, W13, st13⟩ := stI X10 hx hZ e10 Ar12 (j := (1 : Int32)) hin13 (g := (mkF m 67 #[.val (.int p0), .val (.int p1), .val (.int p2), .val (.int p3), .val (.int p4), .val (.int p5), .val (.int ix), .val (.int bt), .val (.int s0), .val (.int s1), .val (.int s2), .unset, .unset, .unset, .unset] [(.int s1), (.int (1 : Int32)), (.ref b7), (.ref b7)])) rfl rfl (hb hby at_67)
  have V13 : Arv Z h13 b7 k7 .int (3 : Int32) [(.int s0), (.int s1), (.int (0 : Int32))] (.int (0 : Int32)) := Arv.set Ar12 q12 S12 M12 H12 G12 rfl W13 1 rfl (Nat.le_of_ble_eq_true rfl)
  have N13 := Fr.snoc X13 N10 g_b7
  have O14 := O11.wr W13 g_b7
  have K14 : Keep h0 h13 [] := K11.wr W13 (Or.inr sz_b7)
  refine own_on (B := T13.setTop (mkF m 68 #[.val (.int p0), .val (.int p1), .val (.int p2), .val (.int p3), .val (.int p4), .val (.int p5), .val (.int ix), .val (.int bt), .val (.int s0), .val (.int s1), .val (.int s2), .unset, .unset, .unset, .unset] [(.ref b7)])) (fun tz kz => st13 _ kz) ?_
  refine own_on (B := T13.setTop (mkF m 72 #[.val (.int p0), .val (.int p1), .val (.int p2), .val (.int p3), .val (.int p4), .val (.int p5), .val (.int ix), .val (.int bt), .val (.int s0), .val (.int s1), .val (.int s2), .unset, .unset, .unset, .unset] [(.int s2), (.int (2 : Int32)), (.ref b7), (.ref b7)])) (fun tz kz => ?_) ?_
  · show Steps p.tables e below (T13.setTop (mkF m 68 #[.val (.int p0), .val (.int p1), .val (.int p2), .val (.int p3), .val (.int p4), .val (.int p5), .val (.int ix), .val (.int bt), .val (.int s0), .val (.int s1), .val (.int s2), .unset, .unset, .unset, .unset] [(.ref b7)])) tz
    refine XS.dup X13.here hx rfl (hb hby at_68) rfl rfl ?_
    show Steps p.tables e below (T13.setTop (mkF m 69 #[.val (.int p0), .val (.int p1), .val (.int p2), .val (.int p3), .val (.int p4), .val (.int p5), .val (.int ix), .val (.int bt), .val (.int s0), .val (.int s1), .val (.int s2), .unset, .unset, .unset, .unset] [(.ref b7), (.ref b7)])) tz
    refine XS.iconst X13.here hx rfl (hb hby at_69) ?_
    show Steps p.tables e below (T13.setTop (mkF m 70 #[.val (.int p0), .val (.int p1), .val (.int p2), .val (.int p3), .val (.int p4), .val (.int p5), .val (.int ix), .val (.int bt), .val (.int s0), .val (.int s1), .val (.int s2), .unset, .unset, .unset, .unset] [(.int (2 : Int32)), (.ref b7), (.ref b7)])) tz
    refine XS.iload X13.here hx rfl (hb hby at_70) rfl ?_
    exact kz
  obtain ⟨cl15, Ar15, q15, S15, M15, H15, G15⟩ := id V13
  have hin16 : ¬ ((2 : Int32) < 0 ∨ cl15.slots.size ≤ ((2 : Int32)).toNatClampNeg) := inb_of S15 ⟨by decide, by decide⟩
  obtain ⟨T16, h16, X16, e16, W16, st16⟩ := stI X13 hx hZ e13 Ar15 (j := (2 : Int32)) hin16 (g := (mkF m 72 #[.val (.int p0), .val (.int p1), .val (.int p2), .val (.int p3), .val (.int p4), .val (.int p5), .val (.int ix), .val (.int bt), .val (.int s0), .val (.int s1), .val (.int s2), .unset, .unset, .unset, .unset] [(.int s2), (.int (2 : Int32)), (.ref b7), (.ref b7)])) rfl rfl (hb hby at_72)
  have V16 : Arv Z h16 b7 k7 .int (3 : Int32) [(.int s0), (.int s1), (.int s2)] (.int (0 : Int32)) := Arv.set Ar15 q15 S15 M15 H15 G15 rfl W16 2 rfl (Nat.le_of_ble_eq_true rfl)
  have N16 := Fr.snoc X16 N13 g_b7
  have O17 := O14.wr W16 g_b7
  have K17 : Keep h0 h16 [] := K14.wr W16 (Or.inr sz_b7)
  refine own_on (B := T16.setTop (mkF m 73 #[.val (.int p0), .val (.int p1), .val (.int p2), .val (.int p3), .val (.int p4), .val (.int p5), .val (.int ix), .val (.int bt), .val (.int s0), .val (.int s1), .val (.int s2), .unset, .unset, .unset, .unset] [(.ref b7)])) (fun tz kz => st16 _ kz) ?_
  refine own_on (B := T16.setTop (mkF m 75 #[.val (.int p0), .val (.int p1), .val (.int p2), .val (.int p3), .val (.int p4), .val (.int p5), .val (.int ix), .val (.int bt), .val (.int s0), .val (.int s1), .val (.int s2), .val (.ref b7), .unset, .unset, .unset] [])) (fun tz kz => ?_) ?_
  · show Steps p.tables e below (T16.setTop (mkF m 73 #[.val (.int p0), .val (.int p1), .val (.int p2), .val (.int p3), .val (.int p4), .val (.int p5), .val (.int ix), .val (.int bt), .val (.int s0), .val (.int s1), .val (.int s2), .unset, .unset, .unset, .unset] [(.ref b7)])) tz
    refine XS.astore X16.here hx rfl (hb hby at_73) rfl rfl (l' := #[.val (.int p0), .val (.int p1), .val (.int p2), .val (.int p3), .val (.int p4), .val (.int p5), .val (.int ix), .val (.int bt), .val (.int s0), .val (.int s1), .val (.int s2), .val (.ref b7), .unset, .unset, .unset]) rfl ?_
    exact kz
  obtain ⟨T18, h18, X18, e18, E18, A18, D18, -, st18⟩ := newO X16 hx hZ hown (hw _ (List.mem_of_getElem? (i := 2) rfl)) (hw _ (List.mem_of_getElem? (i := 3) rfl)) (hw _ (List.mem_of_getElem? (i := 4) rfl)) e16 (g := (mkF m 75 #[.val (.int p0), .val (.int p1), .val (.int p2), .val (.int p3), .val (.int p4), .val (.int p5), .val (.int ix), .val (.int bt), .val (.int s0), .val (.int s1), .val (.int s2), .val (.ref b7), .unset, .unset, .unset] [])) rfl (hb hby at_75) (by decide) (by decide)
  obtain ⟨b18, g18⟩ : ∃ z, z = h16.size := ⟨_, rfl⟩
  rw [← g18] at A18 D18 st18
  have ne_b7_b18 : b7 ≠ b18 := Nat.ne_of_lt (Nat.lt_of_lt_of_le (V16).lt (Nat.le_of_eq g18.symm))
  have g_b18 : n0 ≤ b18 := Nat.le_trans (own_old O17) (Nat.le_of_eq g18.symm)
  have sz_b18 : h0.size ≤ b18 := Nat.le_trans K17.1 (Nat.le_of_eq g18.symm)
  have O19 := O17.ext E18
  have K19 : Keep h0 h18 [] := K17.ext E18
  have F18_type : Fld Z h18 b18 "com/example/focus_on_games/focusongames/io/Expression" "type" "Lcom/example/focus_on_games/focusongames/io/Expression$Type;" .null := D18 (Or.inr (hw _ (List.mem_of_getElem? (i := 26) rfl))) (ty := (.object "com/example/focus_on_games/focusongames/io/Expression$Type")) (by decide)
  have F18_line : Fld Z h18 b18 "com/example/focus_on_games/focusongames/io/Expression" "line" "I" (.int (0 : Int32)) := D18 (Or.inr (hw _ (List.mem_of_getElem? (i := 28) rfl))) (ty := .int) (by decide)
  have F18_readsVariables : Fld Z h18 b18 "com/example/focus_on_games/focusongames/io/Expression" "readsVariables" "Z" (.int (0 : Int32)) := D18 (Or.inr (hw _ (List.mem_of_getElem? (i := 74) rfl))) (ty := .boolean) (by decide)
  have F18_index : Fld Z h18 b18 "com/example/focus_on_games/focusongames/io/Expression$Variable" "index" "I" (.int (0 : Int32)) := D18 (Or.inr (hw _ (List.mem_of_getElem? (i := 76) rfl))) (ty := .int) (by decide)
  refine own_on (B := T18.setTop (mkF m 78 #[.val (.int p0), .val (.int p1), .val (.int p2), .val (.int p3), .val (.int p4), .val (.int p5), .val (.int ix), .val (.int bt), .val (.int s0), .val (.int s1), .val (.int s2), .val (.ref b7), .unset, .unset, .unset] [(.ref b18)])) (fun tz kz => st18 _ kz) ?_
  refine own_on (B := T18.setTop (mkF m 81 #[.val (.int p0), .val (.int p1), .val (.int p2), .val (.int p3), .val (.int p4), .val (.int p5), .val (.int ix), .val (.int bt), .val (.int s0), .val (.int s1), .val (.int s2), .val (.ref b7), .unset, .unset, .unset] [(.int ix), (.ref b18), (.ref b18)])) (fun tz kz => ?_) ?_
  · show Steps p.tables e below (T18.setTop (mkF m 78 #[.val (.int p0), .val (.int p1), .val (.int p2), .val (.int p3), .val (.int p4), .val (.int p5), .val (.int ix), .val (.int bt), .val (.int s0), .val (.int s1), .val (.int s2), .val (.ref b7), .unset, .unset, .unset] [(.ref b18)])) tz
    refine XS.dup X18.here hx rfl (hb hby at_78) rfl rfl ?_
    show Steps p.tables e below (T18.setTop (mkF m 79 #[.val (.int p0), .val (.int p1), .val (.int p2), .val (.int p3), .val (.int p4), .val (.int p5), .val (.int ix), .val (.int bt), .val (.int s0), .val (.int s1), .val (.int s2), .val (.ref b7), .unset, .unset, .unset] [(.ref b18), (.ref b18)])) tz
    refine XS.iload X18.here hx rfl (hb hby at_79) rfl ?_
    exact kz
  obtain ⟨T20, X20, e20, st20⟩ := getS2 X18 hx hZ hown (host := "") (Or.inl (hw _ (List.mem_of_getElem? (i := 5) rfl))) Via.refl e18 (S_B.ext O19.2) (g := (mkF m 81 #[.val (.int p0), .val (.int p1), .val (.int p2), .val (.int p3), .val (.int p4), .val (.int p5), .val (.int ix), .val (.int bt), .val (.int s0), .val (.int s1), .val (.int s2), .val (.ref b7), .unset, .unset, .unset] [(.int ix), (.ref b18), (.ref b18)])) rfl (hb hby at_81)
  refine own_on (B := T20.setTop (mkF m 84 #[.val (.int p0), .val (.int p1), .val (.int p2), .val (.int p3), .val (.int p4), .val (.int p5), .val (.int ix), .val (.int bt), .val (.int s0), .val (.int s1), .val (.int s2), .val (.ref b7), .unset, .unset, .unset] [(.ref wB), (.int ix), (.ref b18), (.ref b18)])) (fun tz kz => st20 _ kz) ?_
  refine own_on (B := T20.setTop (mkF m 86 #[.val (.int p0), .val (.int p1), .val (.int p2), .val (.int p3), .val (.int p4), .val (.int p5), .val (.int ix), .val (.int bt), .val (.int s0), .val (.int s1), .val (.int s2), .val (.ref b7), .unset, .unset, .unset] [(.int p5), (.ref wB), (.int ix), (.ref b18), (.ref b18)])) (fun tz kz => ?_) ?_
  · show Steps p.tables e below (T20.setTop (mkF m 84 #[.val (.int p0), .val (.int p1), .val (.int p2), .val (.int p3), .val (.int p4), .val (.int p5), .val (.int ix), .val (.int bt), .val (.int s0), .val (.int s1), .val (.int s2), .val (.ref b7), .unset, .unset, .unset] [(.ref wB), (.int ix), (.ref b18), (.ref b18)])) tz
    refine XS.iload X20.here hx rfl (hb hby at_84) rfl ?_
    exact kz
  obtain ⟨_, _, ⟨T21, L21, k21, n21⟩, -, X21, ⟨Lc21, hQ21, l21, y21, z21⟩, st21⟩ := X20.specialBack hx (y := (⟨"com/example/focus_on_games/focusongames/io/Expression$Variable", "<init>", "(ILcom/example/focus_on_games/focusongames/io/Expression$Type;I)V"⟩ : MethodName)) rfl hown (mvT hZ (hw _ (List.mem_of_getElem? (i := 8) rfl))) (mvT hZ (hw _ (List.mem_of_getElem? (i := 9) rfl))) (mvT hZ (hw _ (List.mem_of_getElem? (i := 10) rfl))) (by decide) (backOf (W := 1) (rm1 l Z a0 hw [] b18 ix wB p5 wL ea h18 n0 O19 A18 g_b18 F18_type F18_line F18_readsVariables F18_index S_L E_L F_e A_e) hZ (hw _ (List.mem_of_getElem? (i := 10) rfl)) (hw _ (List.mem_of_getElem? (i := 4) rfl)) (by decide) (by decide)) (g := (mkF m 86 #[.val (.int p0), .val (.int p1), .val (.int p2), .val (.int p3), .val (.int p4), .val (.int p5), .val (.int ix), .val (.int bt), .val (.int s0), .val (.int s1), .val (.int s2), .val (.ref b7), .unset, .unset, .unset] [(.int p5), (.ref wB), (.int ix), (.ref b18), (.ref b18)])) rfl (by rw [hml]; rfl) (Steps.refl _) (a := b18) (argsL := [(.int ix), (.ref wB), (.int p5)]) (rest := [(.ref b18)]) (lenOf own_pd6 rfl) rfl (by show 2 * 0 + _ ≤ _; exact Nat.le_of_eq rfl) (hb hby at_86) (fun _ _ => ⟨rfl, e20, (by decide : 2 + 1 ≤ _), (by decide : 7 + 4 ≤ _)⟩)
  dsimp only [Pt.U, Pt.locs, Pt.cells, Pt.slots] at X21 l21 y21 z21 st21 hQ21
  subst l21 y21 z21
  obtain ⟨rfl, Nq21, Kq21, Fi21⟩ := hQ21
  have N21 := Fr.app N16 Nq21
  have O22 := O19.keep Kq21 (allS g_b18 all0)
  have K22 : Keep h0 T21.heap [] := K19.trans Kq21 (allS (Or.inr sz_b18) all0)
  refine own_on (B := T21.setTop (mkF m 89 #[.val (.int p0), .val (.int p1), .val (.int p2), .val (.int p3), .val (.int p4), .val (.int p5), .val (.int ix), .val (.int bt), .val (.int s0), .val (.int s1), .val (.int s2), .val (.ref b7), .unset, .unset, .unset] [(.ref b18)])) (fun tz kz => st21.trans kz) ?_
  have f_23 := ((V16.ext E18).keep Kq21 (ninS ne_b7_b18 nin0))
  refine own_on (B := T21.setTop (mkF m 95 #[.val (.int p0), .val (.int p1), .val (.int p2), .val (.int p3), .val (.int p4), .val (.int p5), .val (.int ix), .val (.int bt), .val (.int s0), .val (.int s1), .val (.int s2), .val (.ref b7), .val (.ref b18), .unset, .unset] [(.ref b7), (.ref b18)])) (fun tz kz => ?_) ?_
  · show Steps p.tables e below (T21.setTop (mkF m 89 #[.val (.int p0), .val (.int p1), .val (.int p2), .val (.int p3), .val (.int p4), .val (.int p5), .val (.int ix), .val (.int bt), .val (.int s0), .val (.int s1), .val (.int s2), .val (.ref b7), .unset, .unset, .unset] [(.ref b18)])) tz
    refine XS.astore X21.here hx rfl (hb hby at_89) rfl rfl (l' := #[.val (.int p0), .val (.int p1), .val (.int p2), .val (.int p3), .val (.int p4), .val (.int p5), .val (.int ix), .val (.int bt), .val (.int s0), .val (.int s1), .val (.int s2), .val (.ref b7), .val (.ref b18), .unset, .unset]) rfl ?_
    show Steps p.tables e below (T21.setTop (mkF m 91 #[.val (.int p0), .val (.int p1), .val (.int p2), .val (.int p3), .val (.int p4), .val (.int p5), .val (.int ix), .val (.int bt), .val (.int s0), .val (.int s1), .val (.int s2), .val (.ref b7), .val (.ref b18), .unset, .unset] [])) tz
    refine XS.aload X21.here hx rfl (hb hby at_91) rfl rfl ?_
    show Steps p.tables e below (T21.setTop (mkF m 93 #[.val (.int p0), .val (.int p1), .val (.int p2), .val (.int p3), .val (.int p4), .val (.int p5), .val (.int ix), .val (.int bt), .val (.int s0), .val (.int s1), .val (.int s2), .val (.ref b7), .val (.ref b18), .unset, .unset] [(.ref b18)])) tz
    refine XS.aload X21.here hx rfl (hb hby at_93) rfl rfl ?_
    exact kz
  have f_25 := (A18.keep Kq21)
  obtain ⟨cq24, kq24, q24a, q24b, q24c⟩ := isOf hZ rfl f_25
  obtain ⟨_, _, ⟨T24, L24, k24, n24⟩, -, X24, ⟨Lc24, hQ24, l24, y24, z24⟩, st24⟩ := X21.virtualBack hx (y := (⟨"com/example/focus_on_games/focusongames/io/Expression$Variable", "booleanValue", "([I)Z"⟩ : MethodName)) (z := (⟨"com/example/focus_on_games/focusongames/io/Expression$Variable", "booleanValue", "([I)Z"⟩ : MethodName)) hown (mvT hZ (hw _ (List.mem_of_getElem? (i := 77) rfl))) (mvT hZ (hw _ (List.mem_of_getElem? (i := 78) rfl))) (notFace_of_selects (args := #[]) (mvT hZ (hw _ (List.mem_of_getElem? (i := 80) rfl)))) (mvT hZ (hw _ (List.mem_of_getElem? (i := 80) rfl))) (mvT hZ (hw _ (List.mem_of_getElem? (i := 79) rfl))) (by decide) (backOf (W := 0) (rm9 l Z a0 hw [] b18 b7 ix bt k7 s0 s1 s2 T21.heap n0 O22 Fi21 f_23 hx0 hx1 (own_pick _ _ _ _ _ _ _ _ hx2 hv_s0 hv_s1 hv_s2)) hZ (hw _ (List.mem_of_getElem? (i := 81) rfl)) (hw _ (List.mem_of_getElem? (i := 4) rfl)) (by decide) (by decide)) q24a q24c (g := (mkF m 95 #[.val (.int p0), .val (.int p1), .val (.int p2), .val (.int p3), .val (.int p4), .val (.int p5), .val (.int ix), .val (.int bt), .val (.int s0), .val (.int s1), .val (.int s2), .val (.ref b7), .val (.ref b18), .unset, .unset] [(.ref b7), (.ref b18)])) rfl (by rw [hml]; rfl) (Steps.refl _) (argsL := [(.ref b7)]) (rest := []) (lenOf own_pd7 rfl) rfl (by show 2 * 0 + _ ≤ _; exact Nat.le_of_eq rfl) (hb hby at_95) (fun _ _ => ⟨rfl, rfl, (by decide : 3 + 0 ≤ _), (by decide : 11 + 0 ≤ _)⟩)
  dsimp only [Pt.U, Pt.locs, Pt.cells, Pt.slots] at X24 l24 y24 z24 st24 hQ24
  subst l24 y24 z24
  obtain ⟨rfl, Nq24, e24⟩ := hQ24
  have N24 := Fr.app N21 Nq24
  refine own_on (B := T24.setTop (mkF m 98 #[.val (.int p0), .val (.int p1), .val (.int p2), .val (.int p3), .val (.int p4), .val (.int p5), .val (.int ix), .val (.int bt), .val (.int s0), .val (.int s1), .val (.int s2), .val (.ref b7), .val (.ref b18), .unset, .unset] [(.int (if bt = (0 : Int32) then (0 : Int32) else (1 : Int32)))])) (fun tz kz => st24.trans kz) ?_
  refine own_on (B := T24.setTop (mkF m 103 #[.val (.int p0), .val (.int p1), .val (.int p2), .val (.int p3), .val (.int p4), .val (.int p5), .val (.int ix), .val (.int bt), .val (.int s0), .val (.int s1), .val (.int s2), .val (.ref b7), .val (.ref b18), .val (.int (if bt = (0 : Int32) then (0 : Int32) else (1 : Int32))), .unset] [(.int (1 : Int32)), (.int bt)])) (fun tz kz => ?_) ?_
  · show Steps p.tables e below (T24.setTop (mkF m 98 #[.val (.int p0), .val (.int p1), .val (.int p2), .val (.int p3), .val (.int p4), .val (.int p5), .val (.int ix), .val (.int bt), .val (.int s0), .val (.int s1), .val (.int s2), .val (.ref b7), .val (.ref b18), .unset, .unset] [(.int (if bt = (0 : Int32) then (0 : Int32) else (1 : Int32)))])) tz
    refine XS.istore X24.here hx rfl (hb hby at_98) rfl (l' := #[.val (.int p0), .val (.int p1), .val (.int p2), .val (.int p3), .val (.int p4), .val (.int p5), .val (.int ix), .val (.int bt), .val (.int s0), .val (.int s1), .val (.int s2), .val (.ref b7), .val (.ref b18), .val (.int (if bt = (0 : Int32) then (0 : Int32) else (1 : Int32))), .unset]) rfl ?_
    show Steps p.tables e below (T24.setTop (mkF m 100 #[.val (.int p0), .val (.int p1), .val (.int p2), .val (.int p3), .val (.int p4), .val (.int p5), .val (.int ix), .val (.int bt), .val (.int s0), .val (.int s1), .val (.int s2), .val (.ref b7), .val (.ref b18), .val (.int (if bt = (0 : Int32) then (0 : Int32) else (1 : Int32))), .unset] [])) tz
    refine XS.iload X24.here hx rfl (hb hby at_100) rfl ?_
    show Steps p.tables e below (T24.setTop (mkF m 102 #[.val (.int p0), .val (.int p1), .val (.int p2), .val (.int p3), .val (.int p4), .val (.int p5), .val (.int ix), .val (.int bt), .val (.int s0), .val (.int s1), .val (.int s2), .val (.ref b7), .val (.ref b18), .val (.int (if bt = (0 : Int32) then (0 : Int32) else (1 : Int32))), .unset] [(.int bt)])) tz
    refine XS.iconst X24.here hx rfl (hb hby at_102) ?_
    exact kz
  obtain ⟨mv27, hmv27⟩ : ∃ z, z = (if bt = (1 : Int32) then (1 : Int32) else (0 : Int32)) := ⟨_, rfl⟩
  refine own_on (B := T24.setTop (mkF m 111 #[.val (.int p0), .val (.int p1), .val (.int p2), .val (.int p3), .val (.int p4), .val (.int p5), .val (.int ix), .val (.int bt), .val (.int s0), .val (.int s1), .val (.int s2), .val (.ref b7), .val (.ref b18), .val (.int (if bt = (0 : Int32) then (0 : Int32) else (1 : Int32))), .unset] [(.int mv27)])) (fun tz kz => ?_) ?_
  · show Steps p.tables e below (T24.setTop (mkF m 103 #[.val (.int p0), .val (.int p1), .val (.int p2), .val (.int p3), .val (.int p4), .val (.int p5), .val (.int ix), .val (.int bt), .val (.int s0), .val (.int s1), .val (.int s2), .val (.ref b7), .val (.ref b18), .val (.int (if bt = (0 : Int32) then (0 : Int32) else (1 : Int32))), .unset] [(.int (1 : Int32)), (.int bt)])) tz
    by_cases hm26 : bt = (1 : Int32)
    · refine XS.icmpNo X24.here hx rfl (hb hby at_103) rfl (teq hm26).2 ?_
      show Steps p.tables e below (T24.setTop (mkF m 106 #[.val (.int p0), .val (.int p1), .val (.int p2), .val (.int p3), .val (.int p4), .val (.int p5), .val (.int ix), .val (.int bt), .val (.int s0), .val (.int s1), .val (.int s2), .val (.ref b7), .val (.ref b18), .val (.int (if bt = (0 : Int32) then (0 : Int32) else (1 : Int32))), .unset] [])) tz
      refine XS.iconst X24.here hx rfl (hb hby at_106) ?_
      show Steps p.tables e below (T24.setTop (mkF m 107 #[.val (.int p0), .val (.int p1), .val (.int p2), .val (.int p3), .val (.int p4), .val (.int p5), .val (.int ix), .val (.int bt), .val (.int s0), .val (.int s1), .val (.int s2), .val (.ref b7), .val (.ref b18), .val (.int (if bt = (0 : Int32) then (0 : Int32) else (1 : Int32))), .unset] [(.int (1 : Int32))])) tz
      refine XS.goto X24.here hx rfl (pc0 := 107) (pc' := 111) rfl (hb hby at_107) (by decide) (by decide) ?_
      show Steps p.tables e below (T24.setTop (mkF m 111 #[.val (.int p0), .val (.int p1), .val (.int p2), .val (.int p3), .val (.int p4), .val (.int p5), .val (.int ix), .val (.int bt), .val (.int s0), .val (.int s1), .val (.int s2), .val (.ref b7), .val (.ref b18), .val (.int (if bt = (0 : Int32) then (0 : Int32) else (1 : Int32))), .unset] [(.int (1 : Int32))])) tz
      rw [if_pos hm26] at hmv27
      rw [hmv27] at kz
      exact kz
    · refine XS.icmpYes X24.here hx rfl (pc0 := 103) (pc' := 110) rfl (hb hby at_103) rfl (feq hm26).2 (by decide) (by decide) ?_
      show Steps p.tables e below (T24.setTop (mkF m 110 #[.val (.int p0), .val (.int p1), .val (.int p2), .val (.int p3), .val (.int p4), .val (.int p5), .val (.int ix), .val (.int bt), .val (.int s0), .val (.int s1), .val (.int s2), .val (.ref b7), .val (.ref b18), .val (.int (if bt = (0 : Int32) then (0 : Int32) else (1 : Int32))), .unset] [])) tz
      refine XS.iconst X24.here hx rfl (hb hby at_110) ?_
      show Steps p.tables e below (T24.setTop (mkF m 111 #[.val (.int p0), .val (.int p1), .val (.int p2), .val (.int p3), .val (.int p4), .val (.int p5), .val (.int ix), .val (.int bt), .val (.int s0), .val (.int s1), .val (.int s2), .val (.ref b7), .val (.ref b18), .val (.int (if bt = (0 : Int32) then (0 : Int32) else (1 : Int32))), .unset] [(.int (0 : Int32))])) tz
      rw [if_neg hm26] at hmv27
      rw [hmv27] at kz
      exact kz
  rw [hmv27]
  refine own_on (B := T24.setTop (mkF m 123 #[.val (.int p0), .val (.int p1), .val (.int p2), .val (.int p3), .val (.int p4), .val (.int p5), .val (.int ix), .val (.int bt), .val (.int s0), .val (.int s1), .val (.int s2), .val (.ref b7), .val (.ref b18), .val (.int (if bt = (0 : Int32) then (0 : Int32) else (1 : Int32))), .val (.int (if bt = (1 : Int32) then (1 : Int32) else (0 : Int32)))] [(.int (0 : Int32)), (.ref b7)])) (fun tz kz => ?_) ?_
  · show Steps p.tables e below (T24.setTop (mkF m 111 #[.val (.int p0), .val (.int p1), .val (.int p2), .val (.int p3), .val (.int p4), .val (.int p5), .val (.int ix), .val (.int bt), .val (.int s0), .val (.int s1), .val (.int s2), .val (.ref b7), .val (.ref b18), .val (.int (if bt = (0 : Int32) then (0 : Int32) else (1 : Int32))), .unset] [(.int (if bt = (1 : Int32) then (1 : Int32) else (0 : Int32)))])) tz
    refine XS.istore X24.here hx rfl (hb hby at_111) rfl (l' := #[.val (.int p0), .val (.int p1), .val (.int p2), .val (.int p3), .val (.int p4), .val (.int p5), .val (.int ix), .val (.int bt), .val (.int s0), .val (.int s1), .val (.int s2), .val (.ref b7), .val (.ref b18), .val (.int (if bt = (0 : Int32) then (0 : Int32) else (1 : Int32))), .val (.int (if bt = (1 : Int32) then (1 : Int32) else (0 : Int32)))]) rfl ?_
    show Steps p.tables e below (T24.setTop (mkF m 113 #[.val (.int p0), .val (.int p1), .val (.int p2), .val (.int p3), .val (.int p4), .val (.int p5), .val (.int ix), .val (.int bt), .val (.int s0), .val (.int s1), .val (.int s2), .val (.ref b7), .val (.ref b18), .val (.int (if bt = (0 : Int32) then (0 : Int32) else (1 : Int32))), .val (.int (if bt = (1 : Int32) then (1 : Int32) else (0 : Int32)))] [])) tz
    refine XS.iload X24.here hx rfl (hb hby at_113) rfl ?_
    show Steps p.tables e below (T24.setTop (mkF m 115 #[.val (.int p0), .val (.int p1), .val (.int p2), .val (.int p3), .val (.int p4), .val (.int p5), .val (.int ix), .val (.int bt), .val (.int s0), .val (.int s1), .val (.int s2), .val (.ref b7), .val (.ref b18), .val (.int (if bt = (0 : Int32) then (0 : Int32) else (1 : Int32))), .val (.int (if bt = (1 : Int32) then (1 : Int32) else (0 : Int32)))] [(.int (if bt = (0 : Int32) then (0 : Int32) else (1 : Int32)))])) tz
    refine XS.iload X24.here hx rfl (hb hby at_115) rfl ?_
    show Steps p.tables e below (T24.setTop (mkF m 117 #[.val (.int p0), .val (.int p1), .val (.int p2), .val (.int p3), .val (.int p4), .val (.int p5), .val (.int ix), .val (.int bt), .val (.int s0), .val (.int s1), .val (.int s2), .val (.ref b7), .val (.ref b18), .val (.int (if bt = (0 : Int32) then (0 : Int32) else (1 : Int32))), .val (.int (if bt = (1 : Int32) then (1 : Int32) else (0 : Int32)))] [(.int (if bt = (1 : Int32) then (1 : Int32) else (0 : Int32))), (.int (if bt = (0 : Int32) then (0 : Int32) else (1 : Int32)))])) tz
    refine XS.icmpNo X24.here hx rfl (hb hby at_117) rfl (teq (own_bit _ _ hv_bt)).2 ?_
    show Steps p.tables e below (T24.setTop (mkF m 120 #[.val (.int p0), .val (.int p1), .val (.int p2), .val (.int p3), .val (.int p4), .val (.int p5), .val (.int ix), .val (.int bt), .val (.int s0), .val (.int s1), .val (.int s2), .val (.ref b7), .val (.ref b18), .val (.int (if bt = (0 : Int32) then (0 : Int32) else (1 : Int32))), .val (.int (if bt = (1 : Int32) then (1 : Int32) else (0 : Int32)))] [])) tz
    refine XS.aload X24.here hx rfl (hb hby at_120) rfl rfl ?_
    show Steps p.tables e below (T24.setTop (mkF m 122 #[.val (.int p0), .val (.int p1), .val (.int p2), .val (.int p3), .val (.int p4), .val (.int p5), .val (.int ix), .val (.int bt), .val (.int s0), .val (.int s1), .val (.int s2), .val (.ref b7), .val (.ref b18), .val (.int (if bt = (0 : Int32) then (0 : Int32) else (1 : Int32))), .val (.int (if bt = (1 : Int32) then (1 : Int32) else (0 : Int32)))] [(.ref b7)])) tz
    refine XS.iconst X24.here hx rfl (hb hby at_122) ?_
    exact kz
  obtain ⟨cl28, Ar28, q28, S28, M28, H28, G28⟩ := id f_23
  have hin29 : ¬ ((0 : Int32) < 0 ∨ cl28.slots.size ≤ ((0 : Int32)).toNatClampNeg) := inb_of S28 ⟨by decide, by decide⟩
  have hat29 : cl28.slots[((0 : Int32)).toNatClampNeg]? = some (.int s0) := Has.at H28 hin29 rfl
  refine own_on (B := T24.setTop (mkF m 132 #[.val (.int p0), .val (.int p1), .val (.int p2), .val (.int p3), .val (.int p4), .val (.int p5), .val (.int ix), .val (.int bt), .val (.int s0), .val (.int s1), .val (.int s2), .val (.ref b7), .val (.ref b18), .val (.int (if bt = (0 : Int32) then (0 : Int32) else (1 : Int32))), .val (.int (if bt = (1 : Int32) then (1 : Int32) else (0 : Int32)))] [(.int (1 : Int32)), (.ref b7)])) (fun tz kz => ?_) ?_
  · show Steps p.tables e below (T24.setTop (mkF m 123 #[.val (.int p0), .val (.int p1), .val (.int p2), .val (.int p3), .val (.int p4), .val (.int p5), .val (.int ix), .val (.int bt), .val (.int s0), .val (.int s1), .val (.int s2), .val (.ref b7), .val (.ref b18), .val (.int (if bt = (0 : Int32) then (0 : Int32) else (1 : Int32))), .val (.int (if bt = (1 : Int32) then (1 : Int32) else (0 : Int32)))] [(.int (0 : Int32)), (.ref b7)])) tz
    refine X24.iaload hx (j := (0 : Int32)) (v := (.int s0)) (by rw [e24]; exact Ar28.1) (State.isArrayOf_alike hZ.alike Ar28.2.1) Ar28.2.2 hin29 hat29 (g := (mkF m 123 #[.val (.int p0), .val (.int p1), .val (.int p2), .val (.int p3), .val (.int p4), .val (.int p5), .val (.int ix), .val (.int bt), .val (.int s0), .val (.int s1), .val (.int s2), .val (.ref b7), .val (.ref b18), .val (.int (if bt = (0 : Int32) then (0 : Int32) else (1 : Int32))), .val (.int (if bt = (1 : Int32) then (1 : Int32) else (0 : Int32)))] [(.int (0 : Int32)), (.ref b7)])) rfl rfl (hb hby at_123) _ ?_
    show Steps p.tables e below (T24.setTop (mkF m 124 #[.val (.int p0), .val (.int p1), .val (.int p2), .val (.int p3), .val (.int p4), .val (.int p5), .val (.int ix), .val (.int bt), .val (.int s0), .val (.int s1), .val (.int s2), .val (.ref b7), .val (.ref b18), .val (.int (if bt = (0 : Int32) then (0 : Int32) else (1 : Int32))), .val (.int (if bt = (1 : Int32) then (1 : Int32) else (0 : Int32)))] [(.int s0)])) tz
    refine XS.iload X24.here hx rfl (hb hby at_124) rfl ?_
    show Steps p.tables e below (T24.setTop (mkF m 126 #[.val (.int p0), .val (.int p1), .val (.int p2), .val (.int p3), .val (.int p4), .val (.int p5), .val (.int ix), .val (.int bt), .val (.int s0), .val (.int s1), .val (.int s2), .val (.ref b7), .val (.ref b18), .val (.int (if bt = (0 : Int32) then (0 : Int32) else (1 : Int32))), .val (.int (if bt = (1 : Int32) then (1 : Int32) else (0 : Int32)))] [(.int s0), (.int s0)])) tz
    refine XS.icmpNo X24.here hx rfl (hb hby at_126) rfl (teq rfl).2 ?_
    show Steps p.tables e below (T24.setTop (mkF m 129 #[.val (.int p0), .val (.int p1), .val (.int p2), .val (.int p3), .val (.int p4), .val (.int p5), .val (.int ix), .val (.int bt), .val (.int s0), .val (.int s1), .val (.int s2), .val (.ref b7), .val (.ref b18), .val (.int (if bt = (0 : Int32) then (0 : Int32) else (1 : Int32))), .val (.int (if bt = (1 : Int32) then (1 : Int32) else (0 : Int32)))] [])) tz
    refine XS.aload X24.here hx rfl (hb hby at_129) rfl rfl ?_
    show Steps p.tables e below (T24.setTop (mkF m 131 #[.val (.int p0), .val (.int p1), .val (.int p2), .val (.int p3), .val (.int p4), .val (.int p5), .val (.int ix), .val (.int bt), .val (.int s0), .val (.int s1), .val (.int s2), .val (.ref b7), .val (.ref b18), .val (.int (if bt = (0 : Int32) then (0 : Int32) else (1 : Int32))), .val (.int (if bt = (1 : Int32) then (1 : Int32) else (0 : Int32)))] [(.ref b7)])) tz
    refine XS.iconst X24.here hx rfl (hb hby at_131) ?_
    exact kz
  obtain ⟨cl30, Ar30, q30, S30, M30, H30, G30⟩ := id f_23
  have hin31 : ¬ ((1 : Int32) < 0 ∨ cl30.slots.size ≤ ((1 : Int32)).toNatClampNeg) := inb_of S30 ⟨by decide, by decide⟩
  have hat31 : cl30.slots[((1 : Int32)).toNatClampNeg]? = some (.int s1) := Has.at H30 hin31 rfl
  refine own_on (B := T24.setTop (mkF m 141 #[.val (.int p0), .val (.int p1), .val (.int p2), .val (.int p3), .val (.int p4), .val (.int p5), .val (.int ix), .val (.int bt), .val (.int s0), .val (.int s1), .val (.int s2), .val (.ref b7), .val (.ref b18), .val (.int (if bt = (0 : Int32) then (0 : Int32) else (1 : Int32))), .val (.int (if bt = (1 : Int32) then (1 : Int32) else (0 : Int32)))] [(.int (2 : Int32)), (.ref b7)])) (fun tz kz => ?_) ?_
  · show Steps p.tables e below (T24.setTop (mkF m 132 #[.val (.int p0), .val (.int p1), .val (.int p2), .val (.int p3), .val (.int p4), .val (.int p5), .val (.int ix), .val (.int bt), .val (.int s0), .val (.int s1), .val (.int s2), .val (.ref b7), .val (.ref b18), .val (.int (if bt = (0 : Int32) then (0 : Int32) else (1 : Int32))), .val (.int (if bt = (1 : Int32) then (1 : Int32) else (0 : Int32)))] [(.int (1 : Int32)), (.ref b7)])) tz
    refine X24.iaload hx (j := (1 : Int32)) (v := (.int s1)) (by rw [e24]; exact Ar30.1) (State.isArrayOf_alike hZ.alike Ar30.2.1) Ar30.2.2 hin31 hat31 (g := (mkF m 132 #[.val (.int p0), .val (.int p1), .val (.int p2), .val (.int p3), .val (.int p4), .val (.int p5), .val (.int ix), .val (.int bt), .val (.int s0), .val (.int s1), .val (.int s2), .val (.ref b7), .val (.ref b18), .val (.int (if bt = (0 : Int32) then (0 : Int32) else (1 : Int32))), .val (.int (if bt = (1 : Int32) then (1 : Int32) else (0 : Int32)))] [(.int (1 : Int32)), (.ref b7)])) rfl rfl (hb hby at_132) _ ?_
    show Steps p.tables e below (T24.setTop (mkF m 133 #[.val (.int p0), .val (.int p1), .val (.int p2), .val (.int p3), .val (.int p4), .val (.int p5), .val (.int ix), .val (.int bt), .val (.int s0), .val (.int s1), .val (.int s2), .val (.ref b7), .val (.ref b18), .val (.int (if bt = (0 : Int32) then (0 : Int32) else (1 : Int32))), .val (.int (if bt = (1 : Int32) then (1 : Int32) else (0 : Int32)))] [(.int s1)])) tz
    refine XS.iload X24.here hx rfl (hb hby at_133) rfl ?_
    show Steps p.tables e below (T24.setTop (mkF m 135 #[.val (.int p0), .val (.int p1), .val (.int p2), .val (.int p3), .val (.int p4), .val (.int p5), .val (.int ix), .val (.int bt), .val (.int s0), .val (.int s1), .val (.int s2), .val (.ref b7), .val (.ref b18), .val (.int (if bt = (0 : Int32) then (0 : Int32) else (1 : Int32))), .val (.int (if bt = (1 : Int32) then (1 : Int32) else (0 : Int32)))] [(.int s1), (.int s1)])) tz
    refine XS.icmpNo X24.here hx rfl (hb hby at_135) rfl (teq rfl).2 ?_
    show Steps p.tables e below (T24.setTop (mkF m 138 #[.val (.int p0), .val (.int p1), .val (.int p2), .val (.int p3), .val (.int p4), .val (.int p5), .val (.int ix), .val (.int bt), .val (.int s0), .val (.int s1), .val (.int s2), .val (.ref b7), .val (.ref b18), .val (.int (if bt = (0 : Int32) then (0 : Int32) else (1 : Int32))), .val (.int (if bt = (1 : Int32) then (1 : Int32) else (0 : Int32)))] [])) tz
    refine XS.aload X24.here hx rfl (hb hby at_138) rfl rfl ?_
    show Steps p.tables e below (T24.setTop (mkF m 140 #[.val (.int p0), .val (.int p1), .val (.int p2), .val (.int p3), .val (.int p4), .val (.int p5), .val (.int ix), .val (.int bt), .val (.int s0), .val (.int s1), .val (.int s2), .val (.ref b7), .val (.ref b18), .val (.int (if bt = (0 : Int32) then (0 : Int32) else (1 : Int32))), .val (.int (if bt = (1 : Int32) then (1 : Int32) else (0 : Int32)))] [(.ref b7)])) tz
    refine XS.iconst X24.here hx rfl (hb hby at_140) ?_
    exact kz
  obtain ⟨cl32, Ar32, q32, S32, M32, H32, G32⟩ := id f_23
  have hin33 : ¬ ((2 : Int32) < 0 ∨ cl32.slots.size ≤ ((2 : Int32)).toNatClampNeg) := inb_of S32 ⟨by decide, by decide⟩
  have hat33 : cl32.slots[((2 : Int32)).toNatClampNeg]? = some (.int s2) := Has.at H32 hin33 rfl
  refine own_on (B := T24.setTop (mkF m 152 #[.val (.int p0), .val (.int p1), .val (.int p2), .val (.int p3), .val (.int p4), .val (.int p5), .val (.int ix), .val (.int bt), .val (.int s0), .val (.int s1), .val (.int s2), .val (.ref b7), .val (.ref b18), .val (.int (if bt = (0 : Int32) then (0 : Int32) else (1 : Int32))), .val (.int (if bt = (1 : Int32) then (1 : Int32) else (0 : Int32)))] [(.int (1 : Int32))])) (fun tz kz => ?_) ?_
  · show Steps p.tables e below (T24.setTop (mkF m 141 #[.val (.int p0), .val (.int p1), .val (.int p2), .val (.int p3), .val (.int p4), .val (.int p5), .val (.int ix), .val (.int bt), .val (.int s0), .val (.int s1), .val (.int s2), .val (.ref b7), .val (.ref b18), .val (.int (if bt = (0 : Int32) then (0 : Int32) else (1 : Int32))), .val (.int (if bt = (1 : Int32) then (1 : Int32) else (0 : Int32)))] [(.int (2 : Int32)), (.ref b7)])) tz
    refine X24.iaload hx (j := (2 : Int32)) (v := (.int s2)) (by rw [e24]; exact Ar32.1) (State.isArrayOf_alike hZ.alike Ar32.2.1) Ar32.2.2 hin33 hat33 (g := (mkF m 141 #[.val (.int p0), .val (.int p1), .val (.int p2), .val (.int p3), .val (.int p4), .val (.int p5), .val (.int ix), .val (.int bt), .val (.int s0), .val (.int s1), .val (.int s2), .val (.ref b7), .val (.ref b18), .val (.int (if bt = (0 : Int32) then (0 : Int32) else (1 : Int32))), .val (.int (if bt = (1 : Int32) then (1 : Int32) else (0 : Int32)))] [(.int (2 : Int32)), (.ref b7)])) rfl rfl (hb hby at_141) _ ?_
    show Steps p.tables e below (T24.setTop (mkF m 142 #[.val (.int p0), .val (.int p1), .val (.int p2), .val (.int p3), .val (.int p4), .val (.int p5), .val (.int ix), .val (.int bt), .val (.int s0), .val (.int s1), .val (.int s2), .val (.ref b7), .val (.ref b18), .val (.int (if bt = (0 : Int32) then (0 : Int32) else (1 : Int32))), .val (.int (if bt = (1 : Int32) then (1 : Int32) else (0 : Int32)))] [(.int s2)])) tz
    refine XS.iload X24.here hx rfl (hb hby at_142) rfl ?_
    show Steps p.tables e below (T24.setTop (mkF m 144 #[.val (.int p0), .val (.int p1), .val (.int p2), .val (.int p3), .val (.int p4), .val (.int p5), .val (.int ix), .val (.int bt), .val (.int s0), .val (.int s1), .val (.int s2), .val (.ref b7), .val (.ref b18), .val (.int (if bt = (0 : Int32) then (0 : Int32) else (1 : Int32))), .val (.int (if bt = (1 : Int32) then (1 : Int32) else (0 : Int32)))] [(.int s2), (.int s2)])) tz
    refine XS.icmpNo X24.here hx rfl (hb hby at_144) rfl (teq rfl).2 ?_
    show Steps p.tables e below (T24.setTop (mkF m 147 #[.val (.int p0), .val (.int p1), .val (.int p2), .val (.int p3), .val (.int p4), .val (.int p5), .val (.int ix), .val (.int bt), .val (.int s0), .val (.int s1), .val (.int s2), .val (.ref b7), .val (.ref b18), .val (.int (if bt = (0 : Int32) then (0 : Int32) else (1 : Int32))), .val (.int (if bt = (1 : Int32) then (1 : Int32) else (0 : Int32)))] [])) tz
    refine XS.iconst X24.here hx rfl (hb hby at_147) ?_
    show Steps p.tables e below (T24.setTop (mkF m 148 #[.val (.int p0), .val (.int p1), .val (.int p2), .val (.int p3), .val (.int p4), .val (.int p5), .val (.int ix), .val (.int bt), .val (.int s0), .val (.int s1), .val (.int s2), .val (.ref b7), .val (.ref b18), .val (.int (if bt = (0 : Int32) then (0 : Int32) else (1 : Int32))), .val (.int (if bt = (1 : Int32) then (1 : Int32) else (0 : Int32)))] [(.int (1 : Int32))])) tz
    refine XS.goto X24.here hx rfl (pc0 := 148) (pc' := 152) rfl (hb hby at_148) (by decide) (by decide) ?_
    exact kz
  obtain ⟨fs, hr, hrun, hended, hW, hsame⟩ := X24.leave (v := some (.int (1 : Int32))) (fun h => by rw [Bd.returns] at h; cases h)
  refine own_of ⟨_, _, ?_, hrun, hended, _, _, rfl, ?_, ⟨_, rfl⟩, hW, hsame.mono (by decide) (by decide)⟩
  · show Steps p.tables e below (T24.setTop (mkF m 152 #[.val (.int p0), .val (.int p1), .val (.int p2), .val (.int p3), .val (.int p4), .val (.int p5), .val (.int ix), .val (.int bt), .val (.int s0), .val (.int s1), .val (.int s2), .val (.ref b7), .val (.ref b18), .val (.int (if bt = (0 : Int32) then (0 : Int32) else (1 : Int32))), .val (.int (if bt = (1 : Int32) then (1 : Int32) else (0 : Int32)))] [(.int (1 : Int32))])) _
    exact own_retN X24 hx (t := .boolean) Bd.returns (by simp) (by first | rfl | (split <;> first | rfl | (split <;> first | rfl | (split <;> rfl)))) (hb hby at_152) hr
  · show Q0 Z p0 p1 p2 p3 p4 p5 wB wL ea h0 n0 _ T24.heap _
    rw [e24]
    exact ⟨rfl, N24⟩
set_option maxRecDepth 65536 in
set_option maxHeartbeats 40000000 in
theorem comes_1 {Post : Tables → Env → Array Value → State → Outcome → State → Prop} (hpost : ∀ tb e args s v u, (limb_1_1.after args s (.returned v) u = true ∧ limb_1_2.after args s (.returned v) u = true ∧ True) → FrameEnd s (.returned v) u (Jvm.fieldLocs frame_1_writes args s ++ Jvm.arrayLocs frame_1_arrays args s ++ Jvm.staticLocs frame_1_statics s) 16 128 → Post tb e args s (.returned v) u) :
    ArmFor flags0 classFile x code maxLocals ret World_1 tables_1 room_1 Calls_1 rest_1 Pre_1 Post := by
  intro l hfl _ _ p e ha hc hk s m args below hf hA hF happ hP
  obtain ⟨hcalls, hrest, hpre⟩ := hP
  obtain ⟨-, -, -, hnamed, -, -, -, hat⟩ := (Spec.applies_iff hf).mp happ
  obtain ⟨hg, hn⟩ := and_e (Cond.before_iff.mp (show (Jvm.Cond.and given_1 narrow_1).before args s = true from hpre))
  obtain ⟨hcnt, hg0⟩ := and_e hg
  obtain ⟨ha0, hg1⟩ := and_e hg0
  obtain ⟨ha1, hg2⟩ := and_e hg1
  obtain ⟨ha2, hg3⟩ := and_e hg2
  obtain ⟨ha3, hg4⟩ := and_e hg3
  obtain ⟨ha4, hg5⟩ := and_e hg4
  have ha5 := hg5
  obtain ⟨w0, w1, w2, w3, w4, w5, rfl⟩ : ∃ w0 w1 w2 w3 w4 w5 : Value, args = #[w0, w1, w2, w3, w4, w5] := by
    have hs : args.size = 6 := by simpa [Cond.value, given_1] using hcnt
    obtain ⟨L⟩ := args
    match L, hs with
    | [w0, w1, w2, w3, w4, w5], _ => exact ⟨w0, w1, w2, w3, w4, w5, rfl⟩
  have hw := fun d (hd : d ∈ tables_1) => atoms_spec (ws := Jvm.Cond.code x code maxLocals ret :: tables_1) hat d (List.mem_cons_of_mem _ hd)
  have hfit : Fit s := fun {y c} hc i hi => by
    obtain ⟨ha, rfl⟩ := Array.getElem?_eq_some_iff.mp hc
    have q := List.all_eq_true.mp ((Array.all_eq_true_iff_forall_mem.mp hF) _ (Array.getElem_mem ha)) i (List.mem_range.mpr hi)
    simpa [Array.getElem?_eq_getElem hi] using q
  obtain ⟨hsets, hown0⟩ := atoms_of _ (rest_1_c_eq ▸ (show rest_1_c.before _ s = true from hrest))
  have hr0 := Cond.before_iff.mp hown0
  obtain ⟨i0, ei0⟩ := is_v ha0
  obtain rfl : w0 = (.int i0) := Option.some.inj ei0
  obtain ⟨i1, ei1⟩ := is_v ha1
  obtain rfl : w1 = (.int i1) := Option.some.inj ei1
  obtain ⟨i2, ei2⟩ := is_v ha2
  obtain rfl : w2 = (.int i2) := Option.some.inj ei2
  obtain ⟨i3, ei3⟩ := is_v ha3
  obtain rfl : w3 = (.int i3) := Option.some.inj ei3
  obtain ⟨i4, ei4⟩ := is_v ha4
  obtain rfl : w4 = (.int i4) := Option.some.inj ei4
  obtain ⟨i5, ei5⟩ := is_v ha5
  obtain rfl : w5 = (.int i5) := Option.some.inj ei5
  obtain ⟨w_BOOLEAN, ev_BOOLEAN⟩ := exa_v hn
  have S_BOOLEAN := Sta.start ev_BOOLEAN (Or.inr ⟨(hw _ (List.mem_of_getElem? (i := 6) rfl)), (hw _ (List.mem_of_getElem? (i := 7) rfl))⟩)
  have E_BOOLEAN := Exa.start ev_BOOLEAN hn
  have hj_EMPTY_LIST := Cond.before_iff.mp (hsets _ (List.mem_of_getElem? (i := 2) rfl))
  obtain ⟨j_EMPTY_LIST, jev_EMPTY_LIST⟩ := exa_v hj_EMPTY_LIST
  have JS_EMPTY_LIST := Sta.start jev_EMPTY_LIST (Or.inl (hsets _ (List.mem_of_getElem? (i := 1) rfl)))
  have JE_EMPTY_LIST := Exa.start jev_EMPTY_LIST hj_EMPTY_LIST
  have hje := Cond.before_iff.mp (hsets _ (List.mem_of_getElem? (i := 3) rfl))
  obtain ⟨j_ea, jev_ea⟩ := arr_v hje
  have JF_e := Fld.start ((fld_at jev_EMPTY_LIST).symm.trans jev_ea)
  have JA_e := own_arz jev_ea hje (Cond.before_iff.mp (hsets _ (List.mem_of_getElem? (i := 5) rfl)))
  obtain ⟨n, o, h1, h2, h3, _, L, rfl, ⟨rfl, N⟩, hq⟩ := rm0 l s _ hw tables_1 i0 i1 i2 i3 i4 i5 w_BOOLEAN j_EMPTY_LIST j_ea s.heap s.heap.size (Old.start s) S_BOOLEAN JS_EMPTY_LIST JE_EMPTY_LIST JF_e JA_e p e ha hc hk s m _ below hf ((Spec.applies_iff_loose hf).mp happ).1 ⟨rfl, State.Warmed39.refl s, rfl⟩ trivial
  refine ⟨n, _, h1, h2, h3, hpost _ _ _ _ _ _ ⟨Cond.after_iff.mpr rfl, Cond.after_iff.mpr (eq_i res_at (Term.int_eval (1)) rfl), trivial⟩ ⟨hq.1, hq.2.1, (hq.2.2.sift fun y hy => Or.inr (N y hy)).mono (by decide) (by decide)⟩⟩
theorem main_1_1 : Claimed_1_1 := comes_1 fun _ _ _ _ _ _ h hF => ⟨h.1, hF⟩
theorem main_1_2 : Claimed_1_2 := comes_1 fun _ _ _ _ _ _ h hF => ⟨h.2.1, hF⟩
end Jvm.Pilot.@@N@@
namespace Jvm.Pilot.@@N@@
open Jvm Jvm.ClassFile Sem Op Lib Jvm.Free Jvm.Stand Jvm.Pilot.@@N@@.Jvm.D
/-! MADE BY PROGRAM (witnessworld.py) out of the Statement's table words and the real class files: 28 classes; the members and pool entries that the words name. The judged class is class 1, her method 1. -/
namespace start1
open Jvm.ClassFile
def u (s : String) : CpInfo := .utf8 (stringToUtf16 s)
/-- a pool by its gaps: so many unusable entries, then the entry; so many at the end -/
def gap : Nat → List CpInfo → List CpInfo
  | 0, r => r
  | n + 1, r => .unusable :: gap n r
def poolList (es : List (Nat × CpInfo)) (last : Nat) : List CpInfo := es.foldr (fun e r => gap e.1 (e.2 :: r)) (gap last [])
def pool (es : List (Nat × CpInfo)) (last : Nat) : Array CpInfo := ⟨poolList es last⟩
def fileOf (pool : Array CpInfo) (this : Nat) (attrs : Array Attribute := #[]) (ms : Array MethodInfo := #[]) (fl : Nat := 33) (sup : Nat := 0) (ifs : Array Nat := #[]) (fds : Array FieldInfo := #[]) : ClassFile where
  minorVersion := 0
  majorVersion := 65
  constantPool := pool
  accessFlags := fl
  thisClass := this
  superClass := sup
  interfaces := ifs
  fields := fds
  methods := ms
  attributes := attrs
def plain (name : String) (sup : Option ClassId) : Class where
  name := name
  kind := .ordinary
  loader := none
  accessFlags := 33
  super := sup
  interfaces := #[]
  cf := none
  fields := #[]
  methods := #[]
  instanceTypes := #[]
  staticTypes := #[]
  resolved := #[]
  callSites := []
  init := .initialized
  statics := none
  mirror := none

def pool0 : Array CpInfo := pool [(5, u "<init>"), (0, u "()V"), (1, .class_ 10), (1, u "java/lang/Object")] 113

def k0c0 : Code := { maxStack := 0, maxLocals := 1, code := object_method_1_code, exceptionTable := #[], attributes := #[] }
def k0m0 : Method := { name := "<init>", desc := "()V", sig := { parameters := [], returnType := none }, accessFlags := 1, code := some k0c0 }
/-- java/lang/Object -/
def k0 : Class := { plain "java/lang/Object" none with
  accessFlags := 33
  interfaces := #[]
  cf := some (fileOf pool0 8 #[] #[{ accessFlags := 1, nameIndex := 5, descriptorIndex := 6, attributes := #[] }] 33 0 #[] #[])
  fields := #[]
  methods := #[k0m0]
  instanceTypes := #[]
  staticTypes := #[]
  resolved := Array.replicate 124 none
  statics := none }

def pool1 : Array CpInfo := pool [(2, .class_ 4), (1, u "java/lang/Object"), (0, u "<init>"), (0, u "()V"), (0, .integer 2147483647), (0, .class_ 9), (0, u "com/example/focus_on_games/focusongames/io/Expression$Variable"), (0, .fieldref 11 12), (0, .class_ 13), (0, .nameAndType 14 15), (0, u "com/example/focus_on_games/focusongames/io/Expression$Type"), (0, u "BOOLEAN"), (0, u "Lcom/example/focus_on_games/focusongames/io/Expression$Type;"), (0, .methodref 8 17), (0, .nameAndType 5 18), (0, u "(ILcom/example/focus_on_games/focusongames/io/Expression$Type;I)V"), (0, .methodref 8 20), (0, .nameAndType 21 22), (0, u "booleanValue"), (0, u "([I)Z"), (0, .class_ 24), (0, u "com/example/focus_on_games/focusongames/io/VariableBooleanValuePinLaw"), (2, u "law"), (0, u "(IIIIII)Z")] 10

def k1m0 : Method := { name := "<init>", desc := "()V", sig := { parameters := [], returnType := none }, accessFlags := 1, code := none }
def k1c1 : Code := { maxStack := 5, maxLocals := 15, code := code, exceptionTable := #[], attributes := #[] }
def k1m1 : Method := { name := "law", desc := "(IIIIII)Z", sig := { parameters := [.int, .int, .int, .int, .int, .int], returnType := some .boolean }, accessFlags := 9, code := some k1c1 }
/-- com/example/focus_on_games/focusongames/io/VariableBooleanValuePinLaw -/
def k1 : Class := { plain "com/example/focus_on_games/focusongames/io/VariableBooleanValuePinLaw" (some 0) with
  accessFlags := 49
  interfaces := #[]
  cf := some (fileOf pool1 23 #[] #[{ accessFlags := 1, nameIndex := 5, descriptorIndex := 6, attributes := #[] }, { accessFlags := 9, nameIndex := 27, descriptorIndex := 28, attributes := #[] }] 49 2 #[] #[])
  fields := #[]
  methods := #[k1m0, k1m1]
  instanceTypes := #[]
  staticTypes := #[]
  resolved := Array.replicate 39 none
  statics := none }

def pool2 : Array CpInfo := pool [(1, .methodref 2 3), (0, .class_ 4), (0, .nameAndType 5 6), (0, u "java/lang/Object"), (0, u "<init>"), (0, u "()V"), (0, .fieldref 8 9), (0, .class_ 10), (0, .nameAndType 11 12), (0, u "com/example/focus_on_games/focusongames/io/Expression"), (0, u "type"), (0, u "Lcom/example/focus_on_games/focusongames/io/Expression$Type;"), (0, .fieldref 8 14), (0, .nameAndType 15 16), (0, u "line"), (0, u "I"), (0, .interfaceMethodref 18 19), (0, .class_ 20), (0, .nameAndType 21 22), (0, u "java/util/List"), (0, u "iterator"), (0, u "()Ljava/util/Iterator;"), (0, .interfaceMethodref 24 25), (0, .class_ 26), (0, .nameAndType 27 28), (0, u "java/util/Iterator"), (0, u "hasNext"), (0, u "()Z"), (6, u "readsVariables"), (0, .fieldref 8 37), (0, .nameAndType 35 38), (0, u "Z"), (20, .class_ 60), (0, u "com/example/focus_on_games/focusongames/io/Expression$IntLiteral"), (3, .class_ 65), (0, u "com/example/focus_on_games/focusongames/io/Expression$DoubleLiteral"), (3, .class_ 70), (0, u "com/example/focus_on_games/focusongames/io/Expression$BooleanLiteral"), (7, .class_ 80), (1, u "com/example/focus_on_games/focusongames/io/Expression$Type"), (4, u "(Lcom/example/focus_on_games/focusongames/io/Expression$Type;ILjava/util/List;)V"), (19, .class_ 106), (0, u "com/example/focus_on_games/focusongames/io/Expression$Logarithm"), (0, .class_ 108), (0, u "com/example/focus_on_games/focusongames/io/Expression$Modulo"), (0, .class_ 110), (0, u "com/example/focus_on_games/focusongames/io/Expression$Rounding"), (0, .class_ 112), (0, u "com/example/focus_on_games/focusongames/io/Expression$Power"), (0, .class_ 114), (0, u "com/example/focus_on_games/focusongames/io/Expression$Conditional"), (0, .class_ 116), (0, u "com/example/focus_on_games/focusongames/io/Expression$Not"), (0, .class_ 118), (0, u "com/example/focus_on_games/focusongames/io/Expression$Logic"), (0, .class_ 120), (0, u "com/example/focus_on_games/focusongames/io/Expression$Comparison"), (0, .class_ 122), (0, u "com/example/focus_on_games/focusongames/io/Expression$Negation"), (0, .class_ 124), (0, u "com/example/focus_on_games/focusongames/io/Expression$Quotient"), (0, .class_ 126), (0, u "com/example/focus_on_games/focusongames/io/Expression$Arithmetic"), (0, .class_ 128), (0, u "com/example/focus_on_games/focusongames/io/Expression$StateSet"), (0, .class_ 130), (0, u "com/example/focus_on_games/focusongames/io/Expression$Variable"), (0, .class_ 132), (0, u "com/example/focus_on_games/focusongames/io/Expression$Operator")] 35

def k2c0 : Code := { maxStack := 2, maxLocals := 7, code := prog_20_method_1_code, exceptionTable := #[], attributes := #[] }
def k2m0 : Method := { name := "<init>", desc := "(Lcom/example/focus_on_games/focusongames/io/Expression$Type;ILjava/util/List;)V", sig := { parameters := [(.object "com/example/focus_on_games/focusongames/io/Expression$Type"), .int, (.object "java/util/List")], returnType := none }, accessFlags := 0, code := some k2c0 }
/-- com/example/focus_on_games/focusongames/io/Expression -/
def k2 : Class := { plain "com/example/focus_on_games/focusongames/io/Expression" (some 0) with
  accessFlags := 1056
  interfaces := #[]
  cf := some (fileOf pool2 8 #[.nestMembers #[105, 107, 109, 111, 113, 115, 117, 119, 121, 123, 125, 127, 129, 69, 64, 59, 131, 78]] #[{ accessFlags := 0, nameIndex := 5, descriptorIndex := 85, attributes := #[] }] 1056 2 #[] #[{ accessFlags := 18, nameIndex := 11, descriptorIndex := 12, attributes := #[] }, { accessFlags := 18, nameIndex := 15, descriptorIndex := 16, attributes := #[] }, { accessFlags := 18, nameIndex := 35, descriptorIndex := 38, attributes := #[] }])
  fields := #[{ name := "type", type := (.object "com/example/focus_on_games/focusongames/io/Expression$Type"), accessFlags := 18, slot := 0, constantValue := 0 }, { name := "line", type := .int, accessFlags := 18, slot := 1, constantValue := 0 }, { name := "readsVariables", type := .boolean, accessFlags := 18, slot := 2, constantValue := 0 }]
  methods := #[k2m0]
  instanceTypes := #[(.object "com/example/focus_on_games/focusongames/io/Expression$Type"), .int, .boolean]
  staticTypes := #[]
  resolved := Array.replicate 168 none
  statics := none }

def pool3 : Array CpInfo := pool [(1, .interfaceMethodref 2 3), (0, .class_ 4), (0, .nameAndType 5 6), (0, u "java/util/List"), (0, u "of"), (0, u "()Ljava/util/List;"), (0, .methodref 8 9), (0, .class_ 10), (0, .nameAndType 11 12), (0, u "com/example/focus_on_games/focusongames/io/Expression"), (0, u "<init>"), (0, u "(Lcom/example/focus_on_games/focusongames/io/Expression$Type;ILjava/util/List;)V"), (0, .fieldref 14 15), (0, .class_ 16), (0, .nameAndType 17 18), (0, u "com/example/focus_on_games/focusongames/io/Expression$Variable"), (0, u "index"), (0, u "I"), (0, u "(ILcom/example/focus_on_games/focusongames/io/Expression$Type;I)V"), (6, u "booleanValue"), (0, u "([I)Z")] 9

def k3c0 : Code := { maxStack := 4, maxLocals := 4, code := prog_38_method_1_code, exceptionTable := #[], attributes := #[] }
def k3m0 : Method := { name := "<init>", desc := "(ILcom/example/focus_on_games/focusongames/io/Expression$Type;I)V", sig := { parameters := [.int, (.object "com/example/focus_on_games/focusongames/io/Expression$Type"), .int], returnType := none }, accessFlags := 0, code := some k3c0 }
def k3c1 : Code := { maxStack := 2, maxLocals := 2, code := prog_38_method_4_code, exceptionTable := #[], attributes := #[] }
def k3m1 : Method := { name := "booleanValue", desc := "([I)Z", sig := { parameters := [(.array .int)], returnType := some .boolean }, accessFlags := 0, code := some k3c1 }
/-- com/example/focus_on_games/focusongames/io/Expression$Variable -/
def k3 : Class := { plain "com/example/focus_on_games/focusongames/io/Expression$Variable" (some 2) with
  accessFlags := 48
  interfaces := #[]
  cf := some (fileOf pool3 14 #[.nestHost 8] #[{ accessFlags := 0, nameIndex := 11, descriptorIndex := 19, attributes := #[] }, { accessFlags := 0, nameIndex := 26, descriptorIndex := 27, attributes := #[] }] 48 8 #[] #[{ accessFlags := 18, nameIndex := 17, descriptorIndex := 18, attributes := #[] }])
  fields := #[{ name := "index", type := .int, accessFlags := 18, slot := 3, constantValue := 0 }]
  methods := #[k3m0, k3m1]
  instanceTypes := #[(.object "com/example/focus_on_games/focusongames/io/Expression$Type"), .int, .boolean, .int]
  staticTypes := #[]
  resolved := Array.replicate 37 none
  statics := none }

def pool4 : Array CpInfo := pool [(1, .class_ 2), (0, u "java/lang/constant/Constable"), (0, .class_ 4), (0, u "java/lang/Object")] 6

/-- java/lang/constant/Constable -/
def k4 : Class := { plain "java/lang/constant/Constable" (some 0) with
  accessFlags := 1537
  interfaces := #[]
  cf := some (fileOf pool4 1 #[] #[] 1537 3 #[] #[])
  fields := #[]
  methods := #[]
  instanceTypes := #[]
  staticTypes := #[]
  resolved := Array.replicate 11 none
  statics := none }

def pool5 : Array CpInfo := pool [(1, .class_ 2), (0, u "java/lang/Comparable"), (0, .class_ 4), (0, u "java/lang/Object")] 7

/-- java/lang/Comparable -/
def k5 : Class := { plain "java/lang/Comparable" (some 0) with
  accessFlags := 1537
  interfaces := #[]
  cf := some (fileOf pool5 1 #[] #[] 1537 3 #[] #[])
  fields := #[]
  methods := #[]
  instanceTypes := #[]
  staticTypes := #[]
  resolved := Array.replicate 12 none
  statics := none }

def pool6 : Array CpInfo := pool [(1, .class_ 2), (0, u "java/io/Serializable"), (0, .class_ 4), (0, u "java/lang/Object")] 2

/-- java/io/Serializable -/
def k6 : Class := { plain "java/io/Serializable" (some 0) with
  accessFlags := 1537
  interfaces := #[]
  cf := some (fileOf pool6 1 #[] #[] 1537 3 #[] #[])
  fields := #[]
  methods := #[]
  instanceTypes := #[]
  staticTypes := #[]
  resolved := Array.replicate 7 none
  statics := none }

def pool7 : Array CpInfo := pool [(2, .class_ 4), (1, u "java/lang/Enum"), (0, u "name"), (0, u "Ljava/lang/String;"), (2, u "ordinal"), (0, u "I"), (1, .class_ 14), (1, u "java/lang/Object"), (4, u "hash"), (86, .class_ 108), (1, u "java/lang/Enum$EnumDesc"), (2, .class_ 112), (0, u "java/lang/constant/Constable"), (0, .class_ 114), (0, u "java/lang/Comparable"), (0, .class_ 116), (0, u "java/io/Serializable")] 87

/-- java/lang/Enum -/
def k7 : Class := { plain "java/lang/Enum" (some 0) with
  accessFlags := 1057
  interfaces := #[4, 5, 6]
  cf := some (fileOf pool7 2 #[.nestMembers #[106]] #[] 1057 12 #[111, 113, 115] #[{ accessFlags := 18, nameIndex := 5, descriptorIndex := 6, attributes := #[] }, { accessFlags := 18, nameIndex := 9, descriptorIndex := 10, attributes := #[] }, { accessFlags := 2, nameIndex := 19, descriptorIndex := 10, attributes := #[] }])
  fields := #[{ name := "name", type := (.object "java/lang/String"), accessFlags := 18, slot := 0, constantValue := 0 }, { name := "ordinal", type := .int, accessFlags := 18, slot := 1, constantValue := 0 }, { name := "hash", type := .int, accessFlags := 2, slot := 2, constantValue := 0 }]
  methods := #[]
  instanceTypes := #[(.object "java/lang/String"), .int, .int]
  staticTypes := #[]
  resolved := Array.replicate 204 none
  statics := none }

def pool8 : Array CpInfo := pool [(1, .class_ 2), (0, u "com/example/focus_on_games/focusongames/io/Expression$Type"), (2, u "INT"), (0, u "Lcom/example/focus_on_games/focusongames/io/Expression$Type;"), (2, u "DOUBLE"), (2, u "BOOLEAN"), (2, u "$VALUES"), (0, u "[Lcom/example/focus_on_games/focusongames/io/Expression$Type;"), (6, .class_ 25), (1, u "java/lang/Enum"), (8, u "text"), (0, u "Ljava/lang/String;"), (34, .class_ 71), (0, u "com/example/focus_on_games/focusongames/io/Expression")] 2

/-- com/example/focus_on_games/focusongames/io/Expression$Type -/
def k8 : Class := { plain "com/example/focus_on_games/focusongames/io/Expression$Type" (some 7) with
  accessFlags := 16432
  interfaces := #[]
  cf := some (fileOf pool8 1 #[.nestHost 70] #[] 16432 23 #[] #[{ accessFlags := 16409, nameIndex := 5, descriptorIndex := 6, attributes := #[] }, { accessFlags := 16409, nameIndex := 9, descriptorIndex := 6, attributes := #[] }, { accessFlags := 16409, nameIndex := 12, descriptorIndex := 6, attributes := #[] }, { accessFlags := 18, nameIndex := 34, descriptorIndex := 35, attributes := #[] }, { accessFlags := 4122, nameIndex := 15, descriptorIndex := 16, attributes := #[] }])
  fields := #[{ name := "INT", type := (.object "com/example/focus_on_games/focusongames/io/Expression$Type"), accessFlags := 16409, slot := 0, constantValue := 0 }, { name := "DOUBLE", type := (.object "com/example/focus_on_games/focusongames/io/Expression$Type"), accessFlags := 16409, slot := 1, constantValue := 0 }, { name := "BOOLEAN", type := (.object "com/example/focus_on_games/focusongames/io/Expression$Type"), accessFlags := 16409, slot := 2, constantValue := 0 }, { name := "text", type := (.object "java/lang/String"), accessFlags := 18, slot := 3, constantValue := 0 }, { name := "$VALUES", type := (.array (.object "com/example/focus_on_games/focusongames/io/Expression$Type")), accessFlags := 4122, slot := 3, constantValue := 0 }]
  methods := #[]
  instanceTypes := #[(.object "java/lang/String"), .int, .int, (.object "java/lang/String")]
  staticTypes := #[(.object "com/example/focus_on_games/focusongames/io/Expression$Type"), (.object "com/example/focus_on_games/focusongames/io/Expression$Type"), (.object "com/example/focus_on_games/focusongames/io/Expression$Type"), (.array (.object "com/example/focus_on_games/focusongames/io/Expression$Type"))]
  resolved := Array.replicate 74 none
  statics := some 0 }

def pool9 : Array CpInfo := pool [(8, .class_ 10), (1, u "java/lang/Iterable"), (24, .class_ 36), (0, u "java/lang/Object")] 25

/-- java/lang/Iterable -/
def k9 : Class := { plain "java/lang/Iterable" (some 0) with
  accessFlags := 1537
  interfaces := #[]
  cf := some (fileOf pool9 8 #[] #[] 1537 35 #[] #[])
  fields := #[]
  methods := #[]
  instanceTypes := #[]
  staticTypes := #[]
  resolved := Array.replicate 62 none
  statics := none }

def pool10 : Array CpInfo := pool [(10, .class_ 12), (1, u "java/util/Collection"), (47, .class_ 61), (0, u "java/lang/Object"), (0, .class_ 63), (0, u "java/lang/Iterable")] 51

/-- java/util/Collection -/
def k10 : Class := { plain "java/util/Collection" (some 0) with
  accessFlags := 1537
  interfaces := #[9]
  cf := some (fileOf pool10 10 #[] #[] 1537 60 #[62] #[])
  fields := #[]
  methods := #[]
  instanceTypes := #[]
  staticTypes := #[]
  resolved := Array.replicate 115 none
  statics := none }

def pool11 : Array CpInfo := pool [(8, .class_ 10), (1, u "java/util/SequencedCollection"), (15, .class_ 27), (0, u "java/lang/Object"), (0, .class_ 29), (0, u "java/util/Collection")] 27

/-- java/util/SequencedCollection -/
def k11 : Class := { plain "java/util/SequencedCollection" (some 0) with
  accessFlags := 1537
  interfaces := #[10]
  cf := some (fileOf pool11 8 #[] #[] 1537 26 #[28] #[])
  fields := #[]
  methods := #[]
  instanceTypes := #[]
  staticTypes := #[]
  resolved := Array.replicate 57 none
  statics := none }

def pool12 : Array CpInfo := pool [(8, .class_ 10), (1, u "java/util/List"), (77, u "of"), (1, .fieldref 91 92), (0, .class_ 93), (0, .nameAndType 94 95), (0, u "java/util/ImmutableCollections"), (0, u "EMPTY_LIST"), (0, u "Ljava/util/ImmutableCollections$ListN;"), (7, .class_ 104), (0, u "java/lang/Object"), (14, u "()Ljava/util/List;"), (0, .class_ 121), (0, u "java/util/SequencedCollection"), (1, u "iterator"), (0, u "()Ljava/util/Iterator;")] 126

def k12m0 : Method := { name := "iterator", desc := "()Ljava/util/Iterator;", sig := { parameters := [], returnType := some (.object "java/util/Iterator") }, accessFlags := 1025, code := none }
def k12c1 : Code := { maxStack := 1, maxLocals := 0, code := jdk_40_method_36_code, exceptionTable := #[], attributes := #[] }
def k12m1 : Method := { name := "of", desc := "()Ljava/util/List;", sig := { parameters := [], returnType := some (.object "java/util/List") }, accessFlags := 9, code := some k12c1 }
/-- java/util/List -/
def k12 : Class := { plain "java/util/List" (some 0) with
  accessFlags := 1537
  interfaces := #[11]
  cf := some (fileOf pool12 8 #[] #[{ accessFlags := 1025, nameIndex := 123, descriptorIndex := 124, attributes := #[] }, { accessFlags := 9, nameIndex := 88, descriptorIndex := 119, attributes := #[] }] 1537 103 #[120] #[])
  fields := #[]
  methods := #[k12m0, k12m1]
  instanceTypes := #[]
  staticTypes := #[]
  resolved := Array.replicate 251 none
  statics := none }

def pool13 : Array CpInfo := pool [(2, .class_ 4), (1, u "java/lang/Object"), (0, u "<init>"), (0, u "()V"), (3, .class_ 11), (0, u "java/util/ImmutableCollections$List12"), (0, .class_ 13), (0, u "java/util/ImmutableCollections$ListN"), (3, u "Z"), (29, .class_ 49), (1, u "java/util/ImmutableCollections"), (0, u "$assertionsDisabled"), (5, u "[Ljava/lang/Object;"), (5, u "EMPTY_LIST"), (0, u "Ljava/util/ImmutableCollections$ListN;"), (8, u "EMPTY_LIST_NULLS"), (22, u "SALT32L"), (0, u "J"), (2, u "REVERSE"), (6, u "archivedObjects"), (2, u "EMPTY"), (0, u "Ljava/lang/Object;"), (0, .class_ 112), (0, u "java/util/ImmutableCollections$SetN"), (5, u "EMPTY_SET"), (0, u "Ljava/util/ImmutableCollections$SetN;"), (0, .class_ 121), (0, u "java/util/ImmutableCollections$MapN"), (3, u "EMPTY_MAP"), (0, u "Ljava/util/ImmutableCollections$MapN;"), (4, u "EXPAND_FACTOR"), (0, u "I"), (36, .class_ 170), (0, u "java/util/ImmutableCollections$MapN$MapNIterator"), (0, .class_ 172), (0, u "java/util/ImmutableCollections$MapN$1"), (0, .class_ 174), (0, u "java/util/ImmutableCollections$Map1"), (0, .class_ 176), (0, u "java/util/ImmutableCollections$AbstractImmutableMap"), (0, .class_ 178), (0, u "java/util/ImmutableCollections$SetN$SetNIterator"), (0, .class_ 180), (0, u "java/util/ImmutableCollections$Set12"), (0, .class_ 182), (0, u "java/util/ImmutableCollections$Set12$1"), (0, .class_ 184), (0, u "java/util/ImmutableCollections$AbstractImmutableSet"), (0, .class_ 186), (0, u "java/util/ImmutableCollections$SubList"), (0, .class_ 188), (0, u "java/util/ImmutableCollections$ListItr"), (0, .class_ 190), (0, u "java/util/ImmutableCollections$AbstractImmutableList"), (0, .class_ 192), (0, u "java/util/ImmutableCollections$AbstractImmutableCollection"), (0, .class_ 194), (0, u "java/util/ImmutableCollections$Access"), (0, .class_ 196), (0, u "java/util/ImmutableCollections$Access$1")] 16

def k13m0 : Method := { name := "<init>", desc := "()V", sig := { parameters := [], returnType := none }, accessFlags := 2, code := none }
/-- java/util/ImmutableCollections -/
def k13 : Class := { plain "java/util/ImmutableCollections" (some 0) with
  accessFlags := 32
  interfaces := #[]
  cf := some (fileOf pool13 47 #[.nestMembers #[120, 169, 171, 173, 175, 111, 177, 179, 181, 183, 12, 10, 185, 187, 189, 191, 193, 195]] #[{ accessFlags := 2, nameIndex := 5, descriptorIndex := 6, attributes := #[] }] 32 2 #[] #[{ accessFlags := 26, nameIndex := 95, descriptorIndex := 96, attributes := #[] }, { accessFlags := 26, nameIndex := 99, descriptorIndex := 17, attributes := #[] }, { accessFlags := 10, nameIndex := 106, descriptorIndex := 56, attributes := #[] }, { accessFlags := 26, nameIndex := 109, descriptorIndex := 110, attributes := #[] }, { accessFlags := 24, nameIndex := 62, descriptorIndex := 63, attributes := #[] }, { accessFlags := 24, nameIndex := 72, descriptorIndex := 63, attributes := #[] }, { accessFlags := 24, nameIndex := 118, descriptorIndex := 119, attributes := #[] }, { accessFlags := 24, nameIndex := 125, descriptorIndex := 126, attributes := #[] }, { accessFlags := 24, nameIndex := 131, descriptorIndex := 132, attributes := #[] }, { accessFlags := 4120, nameIndex := 50, descriptorIndex := 17, attributes := #[] }])
  fields := #[{ name := "SALT32L", type := .long, accessFlags := 26, slot := 0, constantValue := 0 }, { name := "REVERSE", type := .boolean, accessFlags := 26, slot := 1, constantValue := 0 }, { name := "archivedObjects", type := (.array (.object "java/lang/Object")), accessFlags := 10, slot := 2, constantValue := 0 }, { name := "EMPTY", type := (.object "java/lang/Object"), accessFlags := 26, slot := 3, constantValue := 0 }, { name := "EMPTY_LIST", type := (.object "java/util/ImmutableCollections$ListN"), accessFlags := 24, slot := 4, constantValue := 0 }, { name := "EMPTY_LIST_NULLS", type := (.object "java/util/ImmutableCollections$ListN"), accessFlags := 24, slot := 5, constantValue := 0 }, { name := "EMPTY_SET", type := (.object "java/util/ImmutableCollections$SetN"), accessFlags := 24, slot := 6, constantValue := 0 }, { name := "EMPTY_MAP", type := (.object "java/util/ImmutableCollections$MapN"), accessFlags := 24, slot := 7, constantValue := 0 }, { name := "EXPAND_FACTOR", type := .int, accessFlags := 24, slot := 8, constantValue := 0 }, { name := "$assertionsDisabled", type := .boolean, accessFlags := 4120, slot := 9, constantValue := 0 }]
  methods := #[k13m0]
  instanceTypes := #[]
  staticTypes := #[.long, .boolean, (.array (.object "java/lang/Object")), (.object "java/lang/Object"), (.object "java/util/ImmutableCollections$ListN"), (.object "java/util/ImmutableCollections$ListN"), (.object "java/util/ImmutableCollections$SetN"), (.object "java/util/ImmutableCollections$MapN"), .int, .boolean]
  resolved := Array.replicate 213 none
  statics := some 1 }

def pool14 : Array CpInfo := pool [(2, .class_ 4), (1, u "java/lang/Object"), (0, u "<init>"), (0, u "()V"), (1, .class_ 10), (1, u "java/util/AbstractCollection"), (0, u "size"), (0, u "()I"), (64, .class_ 78), (0, u "java/util/Collection")] 81

def k14m0 : Method := { name := "<init>", desc := "()V", sig := { parameters := [], returnType := none }, accessFlags := 4, code := none }
def k14m1 : Method := { name := "size", desc := "()I", sig := { parameters := [], returnType := some .int }, accessFlags := 1025, code := none }
/-- java/util/AbstractCollection -/
def k14 : Class := { plain "java/util/AbstractCollection" (some 0) with
  accessFlags := 1057
  interfaces := #[10]
  cf := some (fileOf pool14 8 #[] #[{ accessFlags := 4, nameIndex := 5, descriptorIndex := 6, attributes := #[] }, { accessFlags := 1025, nameIndex := 11, descriptorIndex := 12, attributes := #[] }] 1057 2 #[77] #[])
  fields := #[]
  methods := #[k14m0, k14m1]
  instanceTypes := #[]
  staticTypes := #[]
  resolved := Array.replicate 160 none
  statics := none }

def pool15 : Array CpInfo := pool [(2, .class_ 4), (1, u "java/util/AbstractCollection"), (0, u "<init>"), (0, u "()V"), (1, .class_ 10), (1, u "java/util/ImmutableCollections"), (2, .class_ 14), (0, u "java/util/ImmutableCollections$AbstractImmutableCollection")] 41

def k15m0 : Method := { name := "<init>", desc := "()V", sig := { parameters := [], returnType := none }, accessFlags := 0, code := none }
/-- java/util/ImmutableCollections$AbstractImmutableCollection -/
def k15 : Class := { plain "java/util/ImmutableCollections$AbstractImmutableCollection" (some 14) with
  accessFlags := 1056
  interfaces := #[]
  cf := some (fileOf pool15 13 #[.nestHost 8] #[{ accessFlags := 0, nameIndex := 5, descriptorIndex := 6, attributes := #[] }] 1056 2 #[] #[])
  fields := #[]
  methods := #[k15m0]
  instanceTypes := #[]
  staticTypes := #[]
  resolved := Array.replicate 56 none
  statics := none }

def pool16 : Array CpInfo := pool [(1, .class_ 2), (0, u "java/util/RandomAccess"), (0, .class_ 4), (0, u "java/lang/Object")] 2

/-- java/util/RandomAccess -/
def k16 : Class := { plain "java/util/RandomAccess" (some 0) with
  accessFlags := 1537
  interfaces := #[]
  cf := some (fileOf pool16 1 #[] #[] 1537 3 #[] #[])
  fields := #[]
  methods := #[]
  instanceTypes := #[]
  staticTypes := #[]
  resolved := Array.replicate 7 none
  statics := none }

def pool17 : Array CpInfo := pool [(2, .class_ 4), (1, u "java/util/ImmutableCollections$AbstractImmutableCollection"), (0, u "<init>"), (0, u "()V"), (1, .class_ 10), (1, u "java/util/ImmutableCollections"), (2, .methodref 14 15), (0, .class_ 16), (0, .nameAndType 17 18), (0, u "java/util/ImmutableCollections$AbstractImmutableList"), (0, u "size"), (0, u "()I"), (42, .class_ 62), (0, u "java/util/ImmutableCollections$ListItr"), (0, .methodref 61 64), (0, .nameAndType 5 65), (0, u "(Ljava/util/List;I)V"), (11, .class_ 78), (0, u "java/util/List"), (2, u "iterator"), (0, u "()Ljava/util/Iterator;"), (41, .class_ 125), (0, u "java/util/RandomAccess")] 70

def k17m0 : Method := { name := "<init>", desc := "()V", sig := { parameters := [], returnType := none }, accessFlags := 0, code := none }
def k17c1 : Code := { maxStack := 4, maxLocals := 1, code := jdk_46_method_10_code, exceptionTable := #[], attributes := #[] }
def k17m1 : Method := { name := "iterator", desc := "()Ljava/util/Iterator;", sig := { parameters := [], returnType := some (.object "java/util/Iterator") }, accessFlags := 1, code := some k17c1 }
/-- java/util/ImmutableCollections$AbstractImmutableList -/
def k17 : Class := { plain "java/util/ImmutableCollections$AbstractImmutableList" (some 15) with
  accessFlags := 1056
  interfaces := #[12, 16]
  cf := some (fileOf pool17 14 #[.nestHost 8] #[{ accessFlags := 0, nameIndex := 5, descriptorIndex := 6, attributes := #[] }, { accessFlags := 1, nameIndex := 81, descriptorIndex := 82, attributes := #[] }] 1056 2 #[77, 124] #[])
  fields := #[]
  methods := #[k17m0, k17m1]
  instanceTypes := #[]
  staticTypes := #[]
  resolved := Array.replicate 196 none
  statics := none }

def pool18 : Array CpInfo := pool [(2, .class_ 4), (1, u "java/util/ImmutableCollections$AbstractImmutableList"), (2, .fieldref 8 9), (0, .class_ 10), (0, .nameAndType 11 12), (0, u "java/util/ImmutableCollections$ListN"), (0, u "elements"), (0, u "[Ljava/lang/Object;"), (2, u "allowNulls"), (0, u "Z"), (42, .class_ 60), (0, u "java/io/Serializable"), (16, u "size"), (0, u "()I"), (35, .class_ 115), (0, u "java/util/ImmutableCollections")] 3

def k18c0 : Code := { maxStack := 1, maxLocals := 1, code := jdk_45_method_3_code, exceptionTable := #[], attributes := #[] }
def k18m0 : Method := { name := "size", desc := "()I", sig := { parameters := [], returnType := some .int }, accessFlags := 1, code := some k18c0 }
/-- java/util/ImmutableCollections$ListN -/
def k18 : Class := { plain "java/util/ImmutableCollections$ListN" (some 17) with
  accessFlags := 48
  interfaces := #[6]
  cf := some (fileOf pool18 8 #[.nestHost 114] #[{ accessFlags := 1, nameIndex := 77, descriptorIndex := 78, attributes := #[] }] 48 2 #[59] #[{ accessFlags := 18, nameIndex := 11, descriptorIndex := 12, attributes := #[] }, { accessFlags := 18, nameIndex := 15, descriptorIndex := 16, attributes := #[] }])
  fields := #[{ name := "elements", type := (.array (.object "java/lang/Object")), accessFlags := 18, slot := 0, constantValue := 0 }, { name := "allowNulls", type := .boolean, accessFlags := 18, slot := 1, constantValue := 0 }]
  methods := #[k18m0]
  instanceTypes := #[(.array (.object "java/lang/Object")), .boolean]
  staticTypes := #[]
  resolved := Array.replicate 119 none
  statics := none }

def pool19 : Array CpInfo := pool [(16, .class_ 18), (1, u "java/util/Iterator"), (0, u "hasNext"), (0, u "()Z"), (10, .class_ 32), (0, u "java/lang/Object")] 20

def k19m0 : Method := { name := "hasNext", desc := "()Z", sig := { parameters := [], returnType := some .boolean }, accessFlags := 1025, code := none }
/-- java/util/Iterator -/
def k19 : Class := { plain "java/util/Iterator" (some 0) with
  accessFlags := 1537
  interfaces := #[]
  cf := some (fileOf pool19 16 #[] #[{ accessFlags := 1025, nameIndex := 19, descriptorIndex := 20, attributes := #[] }] 1537 31 #[] #[])
  fields := #[]
  methods := #[k19m0]
  instanceTypes := #[]
  staticTypes := #[]
  resolved := Array.replicate 53 none
  statics := none }

def pool20 : Array CpInfo := pool [(1, .class_ 2), (0, u "java/util/ListIterator"), (0, .class_ 4), (0, u "java/lang/Object"), (0, .class_ 6), (0, u "java/util/Iterator")] 20

/-- java/util/ListIterator -/
def k20 : Class := { plain "java/util/ListIterator" (some 0) with
  accessFlags := 1537
  interfaces := #[19]
  cf := some (fileOf pool20 1 #[] #[] 1537 3 #[5] #[])
  fields := #[]
  methods := #[]
  instanceTypes := #[]
  staticTypes := #[]
  resolved := Array.replicate 27 none
  statics := none }

def pool21 : Array CpInfo := pool [(1, .methodref 2 3), (0, .class_ 4), (0, .nameAndType 5 6), (0, u "java/lang/Object"), (0, u "<init>"), (0, u "()V"), (0, .fieldref 8 9), (0, .class_ 10), (0, .nameAndType 11 12), (0, u "java/util/ImmutableCollections$ListItr"), (0, u "list"), (0, u "Ljava/util/List;"), (0, .fieldref 8 14), (0, .nameAndType 15 16), (0, u "size"), (0, u "I"), (0, .fieldref 8 18), (0, .nameAndType 19 16), (0, u "cursor"), (0, .fieldref 8 21), (0, .nameAndType 22 23), (0, u "isListIterator"), (0, u "Z"), (12, .class_ 38), (1, u "java/util/ImmutableCollections"), (2, .class_ 42), (0, u "java/util/ListIterator"), (4, u "(Ljava/util/List;I)V"), (11, u "hasNext"), (0, u "()Z")] 25

def k21c0 : Code := { maxStack := 2, maxLocals := 3, code := jdk_53_method_1_code, exceptionTable := #[], attributes := #[] }
def k21m0 : Method := { name := "<init>", desc := "(Ljava/util/List;I)V", sig := { parameters := [(.object "java/util/List"), .int], returnType := none }, accessFlags := 0, code := some k21c0 }
def k21c1 : Code := { maxStack := 2, maxLocals := 1, code := jdk_53_method_3_code, exceptionTable := #[], attributes := #[] }
def k21m1 : Method := { name := "hasNext", desc := "()Z", sig := { parameters := [], returnType := some .boolean }, accessFlags := 1, code := some k21c1 }
/-- java/util/ImmutableCollections$ListItr -/
def k21 : Class := { plain "java/util/ImmutableCollections$ListItr" (some 0) with
  accessFlags := 48
  interfaces := #[20]
  cf := some (fileOf pool21 8 #[.nestHost 36] #[{ accessFlags := 0, nameIndex := 5, descriptorIndex := 47, attributes := #[] }, { accessFlags := 1, nameIndex := 59, descriptorIndex := 60, attributes := #[] }] 48 2 #[41] #[{ accessFlags := 18, nameIndex := 11, descriptorIndex := 12, attributes := #[] }, { accessFlags := 18, nameIndex := 15, descriptorIndex := 16, attributes := #[] }, { accessFlags := 18, nameIndex := 22, descriptorIndex := 23, attributes := #[] }, { accessFlags := 2, nameIndex := 19, descriptorIndex := 16, attributes := #[] }])
  fields := #[{ name := "list", type := (.object "java/util/List"), accessFlags := 18, slot := 0, constantValue := 0 }, { name := "size", type := .int, accessFlags := 18, slot := 1, constantValue := 0 }, { name := "isListIterator", type := .boolean, accessFlags := 18, slot := 2, constantValue := 0 }, { name := "cursor", type := .int, accessFlags := 2, slot := 3, constantValue := 0 }]
  methods := #[k21m0, k21m1]
  instanceTypes := #[(.object "java/util/List"), .int, .boolean, .int]
  staticTypes := #[]
  resolved := Array.replicate 86 none
  statics := none }

def pool22 : Array CpInfo := pool [(1, u "java/lang/Cloneable"), (0, .class_ 1), (0, u "java/lang/Object"), (0, .class_ 3)] 3

/-- java/lang/Cloneable -/
def k22 : Class := { plain "java/lang/Cloneable" (some 0) with
  accessFlags := 1537
  interfaces := #[]
  cf := some (fileOf pool22 2 #[] #[] 1537 4 #[] #[])
  fields := #[]
  methods := #[]
  instanceTypes := #[]
  staticTypes := #[]
  resolved := Array.replicate 8 none
  statics := none }

/-- the primitive byte -/
def k23 : Class := { plain "byte" none with kind := .primitive 'B', accessFlags := 0x411 }
/-- [B -/
def k24 : Class := { plain "[B" (some 0) with kind := .array 23 .byte, interfaces := #[22, 6], accessFlags := 1041 }

/-- the primitive int -/
def k25 : Class := { plain "int" none with kind := .primitive 'I', accessFlags := 0x411 }
/-- [I -/
def k26 : Class := { plain "[I" (some 0) with kind := .array 25 .int, interfaces := #[22, 6], accessFlags := 1041 }

/-- [Ljava/lang/Object; -/
def k27 : Class := { plain "[Ljava/lang/Object;" (some 0) with kind := .array 0 (.object "java/lang/Object"), interfaces := #[22, 6], accessFlags := 1041 }

def heap : Heap := #[{ cls := 8, slots := #[.null, .null, .ref 3, .null], vm := .statics 8 },
  { cls := 13, slots := #[.long 0, .int 0, .null, .null, .ref 4, .null, .null, .null, .int 0, .int 0], vm := .statics 13 },
  { cls := 27, slots := #[], vm := .none },
  { cls := 8, slots := #[.null, .int 2, .int 0, .null], vm := .none },
  { cls := 18, slots := #[.ref 2, .int 0], vm := .none }]
def classes : Array Class := #[k0, k1, k2, k3, k4, k5, k6, k7, k8, k9, k10, k11, k12, k13, k14, k15, k16, k17, k18, k19, k20, k21, k22, k23, k24, k25, k26, k27]
def interned : List (Array UInt16 × Addr) := []
def slotsUsed : Nat := 20
def theMethod : MethodId := ⟨1, 1⟩
def args0 : Array Value := #[.int 5, .int 1, .int 2, .int 3, .int 4, .int 5]
def aboutOver (below : List Frame) : State where
  vm := { classes := classes, interned := interned.toArray }
  heap := heap
  slotsUsed := slotsUsed
  threads := #[{ frames := .invoking theMethod args0 :: below }]
def below0 : List Frame := [.native { method := ⟨0, 0⟩, args := #[] }]
def about1 : State := aboutOver below0
def p0 : Program := .bare "" "" ""
def e0 : Env := launch0.env 0 0 0
theorem w_frames : about1.frames = Frame.invoking theMethod args0 :: below0 := rfl
set_option maxRecDepth 65536 in
theorem w_args : argsFit about1.vm theMethod args0 = true := by decide +kernel
set_option maxRecDepth 65536 in
theorem w_heap : heapFits about1 = true := by decide +kernel
set_option maxRecDepth 65536 in
theorem w_runnable : about1.curStatus? = some .runnable := by decide +kernel
set_option maxRecDepth 65536 in
theorem w_alone : about1.alone = true := by decide +kernel
set_option maxRecDepth 65536 in
theorem w_named : about1.methodNamed? x = some theMethod := by decide +kernel
set_option maxRecDepth 65536 in
theorem w_hears : about1.hears theMethod below0 = true := by decide +kernel
set_option maxRecDepth 65536 in
theorem w_ripe : about1.ripe theMethod args0 below0 = true := by decide +kernel
theorem w_running : about1.status = .running := rfl
set_option maxRecDepth 65536 in
theorem w_room : about1.hasRoom e0.platform room_1 = true :=
  launch0.hasRoom_least _ room_1 (by decide +kernel) (by decide +kernel) (by decide +kernel) (by decide +kernel) (by decide +kernel) (by decide +kernel)
theorem allAtoms_all (ts : List Jvm.Cond) (a : Array Jvm.Value) (st : Jvm.State) : (allAtoms ts).before a st = ts.all (fun c => c.before a st) := by
  induction ts with
  | nil => rfl
  | cons c t ih =>
    show (Jvm.Cond.and c (allAtoms t)).before a st = _
    rw [Jvm.Cond.before_and, ih, List.all_cons]
def words1 : List Jvm.Cond := Jvm.Cond.code x code maxLocals ret :: tables_1
/-- a 'code' word, met by the world's own term for the bytes: nothing is compared byte by byte -/
theorem code_word {y : MethodName} {bytes : ByteArray} {mx : Nat} {rt : Option FieldType} {a : Array Value} {s : State} {m : MethodId} {meth : Method} {c : Code} (h1 : s.methodNamed? y = some m) (h2 : s.vm.method? m = some meth) (h3 : meth.code = some c) (h4 : c.code = bytes)
    (h5 : (c.maxLocals == mx && c.exceptionTable.isEmpty && decide (c.maxStack ≤ mostOperands) && decide (meth.sig.returnType = rt) && !meth.locks && decide (parseMethodDescriptor y.desc = some meth.sig)) = true) : (Jvm.Cond.code y bytes mx rt).before a s = true := by
  simp only [Bool.and_eq_true, beq_iff_eq, Bool.not_eq_true', decide_eq_true_eq] at h5
  obtain ⟨⟨⟨⟨⟨g1, g2⟩, g3⟩, g4⟩, g5⟩, g6⟩ := h5
  simp [Cond.before, Cond.holds, Cond.value, h1, h2, h3, h4, g1, g2, g3, g4, g5, g6]
def isCode : Jvm.Cond → Bool
  | .code _ _ _ _ => true
  | _ => false
theorem all_split {L : List Jvm.Cond} {P : Jvm.Cond → Bool} (h1 : L.all (fun c => isCode c || P c) = true) (h2 : ∀ c ∈ L.filter isCode, P c = true) : L.all P = true := by
  refine List.all_eq_true.mpr fun c hc => ?_
  have h := List.all_eq_true.mp h1 c hc
  rcases Bool.eq_false_or_eq_true (isCode c) with hi | hi
  · exact h2 c (List.mem_filter.mpr ⟨hc, hi⟩)
  · simpa [hi] using h
set_option maxRecDepth 65536 in
theorem w_c0 : (Jvm.Cond.code x code maxLocals ret).before args0 about1 = true := code_word (m := ⟨1, 1⟩) (meth := k1m1) (c := k1c1) (by decide +kernel) rfl rfl rfl (by decide +kernel)
set_option maxRecDepth 65536 in
theorem w_c1 : (Jvm.Cond.code ({ cls := "com/example/focus_on_games/focusongames/io/Expression$Variable", name := "<init>", desc := "(ILcom/example/focus_on_games/focusongames/io/Expression$Type;I)V" } : Jvm.MethodName) prog_38_method_1_code (4 : Nat) (Option.none : Option Jvm.ClassFile.FieldType)).before args0 about1 = true := code_word (m := ⟨3, 0⟩) (meth := k3m0) (c := k3c0) (by decide +kernel) rfl rfl rfl (by decide +kernel)
set_option maxRecDepth 65536 in
theorem w_c2 : (Jvm.Cond.code ({ cls := "java/util/List", name := "of", desc := "()Ljava/util/List;" } : Jvm.MethodName) jdk_40_method_36_code (0 : Nat) (Option.some (Jvm.ClassFile.FieldType.object "java/util/List"))).before args0 about1 = true := code_word (m := ⟨12, 1⟩) (meth := k12m1) (c := k12c1) (by decide +kernel) rfl rfl rfl (by decide +kernel)
set_option maxRecDepth 65536 in
theorem w_c3 : (Jvm.Cond.code ({ cls := "com/example/focus_on_games/focusongames/io/Expression", name := "<init>", desc := "(Lcom/example/focus_on_games/focusongames/io/Expression$Type;ILjava/util/List;)V" } : Jvm.MethodName) prog_20_method_1_code (7 : Nat) (Option.none : Option Jvm.ClassFile.FieldType)).before args0 about1 = true := code_word (m := ⟨2, 0⟩) (meth := k2m0) (c := k2c0) (by decide +kernel) rfl rfl rfl (by decide +kernel)
set_option maxRecDepth 65536 in
theorem w_c4 : (Jvm.Cond.code ({ cls := "java/lang/Object", name := "<init>", desc := "()V" } : Jvm.MethodName) object_method_1_code (1 : Nat) (Option.none : Option Jvm.ClassFile.FieldType)).before args0 about1 = true := code_word (m := ⟨0, 0⟩) (meth := k0m0) (c := k0c0) (by decide +kernel) rfl rfl rfl (by decide +kernel)
set_option maxRecDepth 65536 in
theorem w_c5 : (Jvm.Cond.code ({ cls := "java/util/ImmutableCollections$AbstractImmutableList", name := "iterator", desc := "()Ljava/util/Iterator;" } : Jvm.MethodName) jdk_46_method_10_code (1 : Nat) (Option.some (Jvm.ClassFile.FieldType.object "java/util/Iterator"))).before args0 about1 = true := code_word (m := ⟨17, 1⟩) (meth := k17m1) (c := k17c1) (by decide +kernel) rfl rfl rfl (by decide +kernel)
set_option maxRecDepth 65536 in
theorem w_c6 : (Jvm.Cond.code ({ cls := "java/util/ImmutableCollections$ListN", name := "size", desc := "()I" } : Jvm.MethodName) jdk_45_method_3_code (1 : Nat) (Option.some Jvm.ClassFile.FieldType.int)).before args0 about1 = true := code_word (m := ⟨18, 0⟩) (meth := k18m0) (c := k18c0) (by decide +kernel) rfl rfl rfl (by decide +kernel)
set_option maxRecDepth 65536 in
theorem w_c7 : (Jvm.Cond.code ({ cls := "java/util/ImmutableCollections$ListItr", name := "<init>", desc := "(Ljava/util/List;I)V" } : Jvm.MethodName) jdk_53_method_1_code (3 : Nat) (Option.none : Option Jvm.ClassFile.FieldType)).before args0 about1 = true := code_word (m := ⟨21, 0⟩) (meth := k21m0) (c := k21c0) (by decide +kernel) rfl rfl rfl (by decide +kernel)
set_option maxRecDepth 65536 in
theorem w_c8 : (Jvm.Cond.code ({ cls := "java/util/ImmutableCollections$ListItr", name := "hasNext", desc := "()Z" } : Jvm.MethodName) jdk_53_method_3_code (1 : Nat) (Option.some Jvm.ClassFile.FieldType.boolean)).before args0 about1 = true := code_word (m := ⟨21, 1⟩) (meth := k21m1) (c := k21c1) (by decide +kernel) rfl rfl rfl (by decide +kernel)
set_option maxRecDepth 65536 in
theorem w_c9 : (Jvm.Cond.code ({ cls := "com/example/focus_on_games/focusongames/io/Expression$Variable", name := "booleanValue", desc := "([I)Z" } : Jvm.MethodName) prog_38_method_4_code (2 : Nat) (Option.some Jvm.ClassFile.FieldType.boolean)).before args0 about1 = true := code_word (m := ⟨3, 1⟩) (meth := k3m1) (c := k3c1) (by decide +kernel) rfl rfl rfl (by decide +kernel)
def codes1 : List Jvm.Cond := [Jvm.Cond.code x code maxLocals ret, Jvm.Cond.code ({ cls := "com/example/focus_on_games/focusongames/io/Expression$Variable", name := "<init>", desc := "(ILcom/example/focus_on_games/focusongames/io/Expression$Type;I)V" } : Jvm.MethodName) prog_38_method_1_code (4 : Nat) (Option.none : Option Jvm.ClassFile.FieldType), Jvm.Cond.code ({ cls := "java/util/List", name := "of", desc := "()Ljava/util/List;" } : Jvm.MethodName) jdk_40_method_36_code (0 : Nat) (Option.some (Jvm.ClassFile.FieldType.object "java/util/List")), Jvm.Cond.code ({ cls := "com/example/focus_on_games/focusongames/io/Expression", name := "<init>", desc := "(Lcom/example/focus_on_games/focusongames/io/Expression$Type;ILjava/util/List;)V" } : Jvm.MethodName) prog_20_method_1_code (7 : Nat) (Option.none : Option Jvm.ClassFile.FieldType), Jvm.Cond.code ({ cls := "java/lang/Object", name := "<init>", desc := "()V" } : Jvm.MethodName) object_method_1_code (1 : Nat) (Option.none : Option Jvm.ClassFile.FieldType), Jvm.Cond.code ({ cls := "java/util/ImmutableCollections$AbstractImmutableList", name := "iterator", desc := "()Ljava/util/Iterator;" } : Jvm.MethodName) jdk_46_method_10_code (1 : Nat) (Option.some (Jvm.ClassFile.FieldType.object "java/util/Iterator")), Jvm.Cond.code ({ cls := "java/util/ImmutableCollections$ListN", name := "size", desc := "()I" } : Jvm.MethodName) jdk_45_method_3_code (1 : Nat) (Option.some Jvm.ClassFile.FieldType.int), Jvm.Cond.code ({ cls := "java/util/ImmutableCollections$ListItr", name := "<init>", desc := "(Ljava/util/List;I)V" } : Jvm.MethodName) jdk_53_method_1_code (3 : Nat) (Option.none : Option Jvm.ClassFile.FieldType), Jvm.Cond.code ({ cls := "java/util/ImmutableCollections$ListItr", name := "hasNext", desc := "()Z" } : Jvm.MethodName) jdk_53_method_3_code (1 : Nat) (Option.some Jvm.ClassFile.FieldType.boolean), Jvm.Cond.code ({ cls := "com/example/focus_on_games/focusongames/io/Expression$Variable", name := "booleanValue", desc := "([I)Z" } : Jvm.MethodName) prog_38_method_4_code (2 : Nat) (Option.some Jvm.ClassFile.FieldType.boolean)]
set_option maxRecDepth 65536 in
theorem codes_eq : words1.filter isCode = codes1 := rfl
theorem w_codes : ∀ c ∈ words1.filter isCode, c.before args0 about1 = true := by
  rw [codes_eq]
  intro c hc
  simp only [codes1, List.mem_cons, List.not_mem_nil, or_false] at hc
  rcases hc with rfl | rfl | rfl | rfl | rfl | rfl | rfl | rfl | rfl | rfl
  · exact w_c0
  · exact w_c1
  · exact w_c2
  · exact w_c3
  · exact w_c4
  · exact w_c5
  · exact w_c6
  · exact w_c7
  · exact w_c8
  · exact w_c9
set_option maxRecDepth 65536 in
theorem w_t1 : (words1.take 24).all (fun c => isCode c || c.before args0 about1) = true := by decide +kernel
set_option maxRecDepth 65536 in
theorem w_t2 : ((words1.drop 24).take 24).all (fun c => isCode c || c.before args0 about1) = true := by decide +kernel
set_option maxRecDepth 65536 in
theorem w_t3 : (((words1.drop 24).drop 24).take 24).all (fun c => isCode c || c.before args0 about1) = true := by decide +kernel
set_option maxRecDepth 65536 in
theorem w_t4 : (((words1.drop 24).drop 24).drop 24).all (fun c => isCode c || c.before args0 about1) = true := by decide +kernel
theorem w_tables : (allAtoms (Jvm.Cond.code x code maxLocals ret :: tables_1)).before args0 about1 = true := by
  rw [allAtoms_all]
  show words1.all (fun c => c.before args0 about1) = true
  refine all_split ?_ w_codes
  rw [← List.take_append_drop 24 words1, List.all_append, w_t1, ← List.take_append_drop 24 (words1.drop 24), List.all_append, w_t2, ← List.take_append_drop 24 ((words1.drop 24).drop 24), List.all_append, w_t3, w_t4]
  rfl
set_option maxRecDepth 65536 in
theorem w_rest : rest_1_c.before args0 about1 = true := by decide +kernel
set_option maxRecDepth 65536 in
theorem w_case : (Jvm.Cond.and given_1 narrow_1).before args0 about1 = true := by decide +kernel
theorem w_applies : (headSpec (Jvm.Cond.code x code maxLocals ret :: tables_1) room_1).applies x e0.platform about1 = true :=
  (Spec.applies_iff w_frames).mpr ⟨w_running, w_runnable, w_alone, w_named, w_hears, w_ripe, w_room, w_tables⟩
theorem atStart : AtStart classFile x code maxLocals ret World_1 tables_1 room_1 Calls_1 rest_1 Pre_1 launch0 p0 e0 about1 theMethod args0 below0 :=
  ⟨lists_1, trivial, launch0.admits_env _ _ _, launch0.least_env, fairChoices_fair.cas, fairChoices_fair.clock, w_frames, w_args, w_heap, w_applies, trivial, w_rest, w_case⟩
end start1
theorem witness_1 : WitnessClaimed_1 := ⟨start1.p0, start1.e0, start1.about1, start1.theMethod, start1.args0, start1.below0, start1.atStart⟩
end Jvm.Pilot.@@N@@
