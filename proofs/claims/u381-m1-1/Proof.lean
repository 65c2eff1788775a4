import JvmDerived
import JvmDerived.Pilot.@@N@@Statement
import JvmDerived.Pilot.@@N@@Code
set_option linter.unusedVariables false
set_option linter.unusedSimpArgs false
namespace Jvm.Pilot.@@N@@
open Jvm Jvm.ClassFile Sem Op Lib Jvm.Free Jvm.Stand Jvm.LawKit Jvm.RoadKit Bundle Jvm.Pilot.@@N@@.Jvm.D
/-! own: the run from A ends well -/
def Go (tb : Tables) (e : Env) (below : List Frame) (A : State) (P : State → Outcome → Prop) : Prop := ∃ t o, Steps tb e below A t ∧ P t o
theorem own_on {tb : Tables} {e : Env} {below : List Frame} {A B : State} {P : State → Outcome → Prop} (k : ∀ t, Steps tb e below B t → Steps tb e below A t) (h : Go tb e below B P) : Go tb e below A P := by
  obtain ⟨t, o, h1, h2⟩ := h
  exact ⟨t, o, k t h1, h2⟩
theorem own_of {tb : Tables} {e : Env} {below : List Frame} {A : State} {P : State → Outcome → Prop} (h : Go tb e below A P) : ∃ t o, Steps tb e below A t ∧ P t o := h
theorem own_old {Z : State} {n0 : Nat} {h : Heap} (O : Old Z n0 h) : n0 ≤ h.size := O.1 ▸ O.2.1
theorem own_retV {p : Program} {l : Launch} {e : Env} {R : Room} {s : State} {m : MethodId} {args : Array Value} {below : List Frame} {meth : Method} {c : Code} {T : State} {locs : List Loc} {cells slots : Nat}
    (X : Stand p l e R s m args below meth c T locs cells slots) (hx : p.tables.exec = Jvm.exec) {pc : Nat} {Ls : Array Slot} {w : Value} {t : FieldType} {rest : List Value} (hret : meth.sig.returnType = some t) (ht : t.isReference = true) (hw : w.isRef = true) (hd : decode c.code pc = .ok (.areturn, 1)) {fs : List Frame}
    (hl : ∀ (f : JFrame) (acts : List Action), f.method = m → f.locked = none → f.entered = [] → (doReturn e (T.setTop f) acts (some w)).1 = T.setFrames fs) : Steps p.tables e below (T.setTop (mkF m pc Ls (w :: rest))) (T.setFrames fs) :=
  retOut X hx hret (by cases t <;> first | (simp [FieldType.isReference] at ht; done) | (cases w <;> first | rfl | (simp [Value.isRef] at hw))) (Or.inr (Or.inr (Or.inr (Or.inr ⟨rfl, ht, hw⟩)))) hd hl
theorem own_retI {p : Program} {l : Launch} {e : Env} {R : Room} {s : State} {m : MethodId} {args : Array Value} {below : List Frame} {meth : Method} {c : Code} {T : State} {locs : List Loc} {cells slots : Nat}
    (X : Stand p l e R s m args below meth c T locs cells slots) (hx : p.tables.exec = Jvm.exec) {pc : Nat} {Ls : Array Slot} {z : Int32} {rest : List Value} (hret : meth.sig.returnType = some .int) (hd : decode c.code pc = .ok (.ireturn, 1)) {fs : List Frame}
    (hl : ∀ (f : JFrame) (acts : List Action), f.method = m → f.locked = none → f.entered = [] → (doReturn e (T.setTop f) acts (some (.int z))).1 = T.setFrames fs) : Steps p.tables e below (T.setTop (mkF m pc Ls (.int z :: rest))) (T.setFrames fs) :=
  retOut X hx hret rfl (Or.inl ⟨rfl, Or.inl rfl, z, rfl⟩) hd hl
theorem own_retN {p : Program} {l : Launch} {e : Env} {R : Room} {s : State} {m : MethodId} {args : Array Value} {below : List Frame} {meth : Method} {c : Code} {T : State} {locs : List Loc} {cells slots : Nat}
    (X : Stand p l e R s m args below meth c T locs cells slots) (hx : p.tables.exec = Jvm.exec) {pc : Nat} {Ls : Array Slot} {z : Int32} {t : FieldType} {rest : List Value} (hret : meth.sig.returnType = some t) (ht : t = .boolean ∨ t = .byte ∨ t = .char ∨ t = .short) (hz : nar t z = z) (hd : decode c.code pc = .ok (.ireturn, 1)) {fs : List Frame}
    (hl : ∀ (f : JFrame) (acts : List Action), f.method = m → f.locked = none → f.entered = [] → (doReturn e (T.setTop f) acts (some (.int z))).1 = T.setFrames fs) : Steps p.tables e below (T.setTop (mkF m pc Ls (.int z :: rest))) (T.setFrames fs) :=
  retN X hx hret ht hd (by rw [hz]; exact hl)
theorem own_retD {p : Program} {l : Launch} {e : Env} {R : Room} {s : State} {m : MethodId} {args : Array Value} {below : List Frame} {meth : Method} {c : Code} {T : State} {locs : List Loc} {cells slots : Nat}
    (X : Stand p l e R s m args below meth c T locs cells slots) (hx : p.tables.exec = Jvm.exec) {pc : Nat} {Ls : Array Slot} {z : UInt64} {rest : List Value} (hret : meth.sig.returnType = some .double) (hd : decode c.code pc = .ok (.dreturn, 1)) {fs : List Frame}
    (hl : ∀ (f : JFrame) (acts : List Action), f.method = m → f.locked = none → f.entered = [] → (doReturn e (T.setTop f) acts (some (.double z))).1 = T.setFrames fs) : Steps p.tables e below (T.setTop (mkF m pc Ls (.double z :: rest))) (T.setFrames fs) :=
  retOut X hx hret rfl (Or.inr (Or.inr (Or.inl ⟨rfl, rfl, z, rfl⟩))) hd hl
theorem own_retJ {p : Program} {l : Launch} {e : Env} {R : Room} {s : State} {m : MethodId} {args : Array Value} {below : List Frame} {meth : Method} {c : Code} {T : State} {locs : List Loc} {cells slots : Nat}
    (X : Stand p l e R s m args below meth c T locs cells slots) (hx : p.tables.exec = Jvm.exec) {pc : Nat} {Ls : Array Slot} {z : Int64} {rest : List Value} (hret : meth.sig.returnType = some .long) (hd : decode c.code pc = .ok (.lreturn, 1)) {fs : List Frame}
    (hl : ∀ (f : JFrame) (acts : List Action), f.method = m → f.locked = none → f.entered = [] → (doReturn e (T.setTop f) acts (some (.long z))).1 = T.setFrames fs) : Steps p.tables e below (T.setTop (mkF m pc Ls (.long z :: rest))) (T.setFrames fs) :=
  retOut X hx hret rfl (Or.inr (Or.inl ⟨rfl, rfl, z, rfl⟩)) hd hl
theorem own_fldI {Z : State} {args : Array Value} {t : Term} {x : Addr} {C n d : String} {k : Int32} (ev : t.eval args Z none [] Z = some (.ref x)) (h : (Cond.eq (.field t C n d) (.int k)).value args Z none Z [] = some true) : Fld Z Z.heap x C n d (.int k) := by
  refine Fld.start ?_
  cases hf : Z.fieldOf? x C n d with
  | none => simp [Cond.value, Term.eval, ev, hf] at h
  | some v => cases v <;> simp [Cond.value, Term.eval, ev, hf] at h; subst h; rfl
theorem own_nar {t : FieldType} {v : Value} (h : v.isRef = true) : narrow t v = v := by rcases ref_cases h with rfl | ⟨r, rfl⟩ <;> cases t <;> rfl
theorem own_fit {t : FieldType} {v : Value} (h : v.isRef = true) (ht : t.isReference = true := by rfl) : fits t v = true := by rcases ref_cases h with rfl | ⟨r, rfl⟩ <;> cases t <;> first | rfl | (simp [FieldType.isReference] at ht)
theorem own_st {l l' : Array Slot} {i : Nat} {v : Value} {o : Slot} (hold : l[i]? = some o) (ho : o = .unset ∨ ∃ w, o = .val w ∧ w.category = 1) (hv : v.category = 1) (e : l.setIfInBounds i (.val v) = l' := by rfl) : storeLocals l i v = some l' := e ▸ Jvm.Free.XS.store1 hold ho hv
theorem own_lremM {p : Program} {l : Launch} {e : Env} {R : Room} {s : State} {m : MethodId} {args : Array Value} {below : List Frame} {meth : Method} {c : Code} {T : State} {locs : List Loc} {cells slots : Nat} {g : JFrame} {target : State}
    (X : Stand p l e R s m args below meth c T locs cells slots) (hx : p.tables.exec = Jvm.exec) (hg : g.method = m) {x y : Int64} {rest : List Value} (hd : decode c.code g.pc = .ok (.lrem, 1)) (hs : g.stack = .long y :: .long x :: rest) (hy : y ≠ 0)
    (hr : Steps p.tables e below (T.setTop { g with pc := g.pc + 1, stack := .long (x % y) :: rest }) target) : Steps p.tables e below (T.setTop g) target :=
  Jvm.Free.XT.lrem X.here hx hg hd hs hy (by rw [lrem_mod]; exact hr)
/-! own: an array of a known length, whatever it holds -/
def OwnArz (Z : State) (h : Heap) (a : Addr) (ty : FieldType) (n : Int32) : Prop := ∃ c : Cell, Arr Z h a c ty ∧ c.slots.size = n.toNatClampNeg ∧ ¬ n < 0
theorem OwnArz.of {Z : State} {h : Heap} {a : Addr} {k : ClassId} {ty : FieldType} {n : Int32} {vs : List Value} {d : Value} (F : Arv Z h a k ty n vs d) : OwnArz Z h a ty n := by obtain ⟨c, A, -, S, M, -⟩ := F; exact ⟨c, A, S, M⟩
theorem OwnArz.lt {Z : State} {h : Heap} {a : Addr} {ty : FieldType} {n : Int32} (F : OwnArz Z h a ty n) : a < h.size := by obtain ⟨c, A, -⟩ := F; exact A.lt
theorem OwnArz.ext {Z : State} {h h' : Heap} {a : Addr} {ty : FieldType} {n : Int32} (F : OwnArz Z h a ty n) (E : Ext h h') : OwnArz Z h' a ty n := by obtain ⟨c, A, r⟩ := F; exact ⟨c, A.ext E, r⟩
theorem OwnArz.other {Z : State} {h h' : Heap} {a b : Addr} {sl : Nat} {v : Value} {ty : FieldType} {n : Int32} (F : OwnArz Z h b ty n) (W : Wr h h' a sl v) (q : b ≠ a) : OwnArz Z h' b ty n := by obtain ⟨c, A, r⟩ := F; exact ⟨c, A.other W q, r⟩
theorem OwnArz.keep {Z : State} {h h' : Heap} {a : Addr} {ws : List Addr} {ty : FieldType} {n : Int32} (F : OwnArz Z h a ty n) (K : Keep h h' ws) (q : a ∉ ws) : OwnArz Z h' a ty n := by obtain ⟨c, A, r⟩ := F; exact ⟨c, ⟨K.2.1 a c A.1 q, A.2⟩, r⟩
theorem OwnArz.set {Z : State} {h h' : Heap} {a : Addr} {sl : Nat} {v : Value} {ty : FieldType} {n : Int32} {c : Cell} (A : Arr Z h a c ty) (S : c.slots.size = n.toNatClampNeg) (M : ¬ n < 0) (W : Wr h h' a sl v) : OwnArz Z h' a ty n := ⟨_, A.same W, by rw [sz_set]; exact S, M⟩
theorem own_len (x len : Int32) (h : x &&& (255 : Int32) = len) : ¬ len < 0 ∧ len.toNatClampNeg ≤ 255 := by
  have e := c_mask x 255 8 (by decide) (by decide)
  rw [h] at e
  have e2 : (0 : Int32).toInt = 0 := rfl
  refine ⟨?_, ?_⟩
  · rw [Int32.lt_iff_toInt_lt]; omega
  · show len.toInt.toNat ≤ 255; omega
theorem own_last (len : Int32) (h : (0 : Int32) < len) : ¬ (len - (1 : Int32)) < 0 ∧ len - (1 : Int32) < len := by
  have e0 : (0 : Int32).toInt = 0 := rfl
  have e1 : (1 : Int32).toInt = 1 := rfl
  rw [Int32.lt_iff_toInt_lt] at h
  have r := rng32 len
  have q := c_isub len 1
  have r2 := rng32 (len - 1)
  constructor
  · rw [Int32.lt_iff_toInt_lt]; omega
  · rw [Int32.lt_iff_toInt_lt]; omega
theorem own_pn_com_example_firm_gate_firmgate_OkpCurve : plainName "com/example/firm_gate/firmgate/OkpCurve" = true := by first | (simp [plainName, overriddenIn]; done) | decide +kernel
theorem own_ef_1 (m : MethodId) (x0 : Addr) (x1 : Addr) : entryFrame m #[(.ref x0), (.ref x1)] 2 = mkF m 0 #[.val (.ref x0), .val (.ref x1)] [] := by first | (simp [entryFrame, mkF, argsToLocals, Value.category]; done) | rfl
def Q1 (Z : State) (u0 : Addr) (u1 : Addr) (sz : Int32) (dd : Int32) (n : Int32) (h0 : Heap) (n0 : Nat) (v : Option Value) (h : Heap) (L : List Loc) : Prop := v = some (.int (if n = dd then (1 : Int32) else (0 : Int32))) ∧ Fr n0 L ∧ h = h0
theorem own_d1_0 : decode prog_10_method_11_code 0 = .ok (.aload_n 1, 1) := by decide +kernel
theorem own_d1_1 : decode prog_10_method_11_code 1 = .ok (.arraylength, 1) := by decide +kernel
theorem own_d1_2 : decode prog_10_method_11_code 2 = .ok (.iconst 2, 1) := by decide +kernel
theorem own_d1_3 : decode prog_10_method_11_code 3 = .ok (.aload_n 0, 1) := by decide +kernel
theorem own_d1_4 : decode prog_10_method_11_code 4 = .ok (.getfield 37, 3) := by decide +kernel
theorem own_d1_7 : decode prog_10_method_11_code 7 = .ok (.imul, 1) := by decide +kernel
theorem own_d1_8 : decode prog_10_method_11_code 8 = .ok (.if_icmp .ne 7, 3) := by decide +kernel
theorem own_d1_11 : decode prog_10_method_11_code 11 = .ok (.iconst 1, 1) := by decide +kernel
theorem own_d1_12 : decode prog_10_method_11_code 12 = .ok (.goto 4, 3) := by decide +kernel
theorem own_d1_15 : decode prog_10_method_11_code 15 = .ok (.iconst 0, 1) := by decide +kernel
theorem own_d1_16 : decode prog_10_method_11_code 16 = .ok (.ireturn, 1) := by decide +kernel
set_option maxRecDepth 65536 in
set_option maxHeartbeats 40000000 in
theorem rm1 (l : Launch) (Z : State) (a0 : Array Value) (hw : ∀ d ∈ tables_1, d.before a0 Z = true) (ws : List Jvm.Cond) (u0 : Addr) (u1 : Addr) (sz : Int32) (dd : Int32) (n : Int32) (h0 : Heap) (n0 : Nat) (O0 : Old Z n0 h0) (Fs : Fld Z Z.heap u0 "com/example/firm_gate/firmgate/OkpCurve" "size" "I" (.int sz)) (Va : OwnArz Z h0 u1 .byte n) (hdd : (2 : Int32) * sz = dd) :
    MetFree l (⟨"com/example/firm_gate/firmgate/OkpCurve", "isSignatureForm", "([B)Z"⟩ : MethodName) (head1 (Jvm.Cond.code (⟨"com/example/firm_gate/firmgate/OkpCurve", "isSignatureForm", "([B)Z"⟩ : MethodName) prog_10_method_11_code 2 (some .boolean) :: ws) ({ frames := 0, cells := 0, slots := 0, locals := 0 } : Room)) (fun a U => a = #[(.ref u0), (.ref u1)] ∧ Z.Warmed39 U.vm ∧ U.heap = h0) (fun _ _ _ _ _ => True) (fun _ U o U' => ∃ v L, o = .returned v ∧ Q1 Z u0 u1 sz dd n h0 n0 v U'.heap L ∧ FrameEnd U o U' L ({ frames := 0, cells := 0, slots := 0, locals := 0 } : Room).cells ({ frames := 0, cells := 0, slots := 0, locals := 0 } : Room).slots) := by
  refine MetFree.of_bodySF (plainFor_of_name own_pn_com_example_firm_gate_firmgate_OkpCurve) hisR ?_
  intro p e s m args below meth c s₁ Bd hml0 hP hK
  obtain ⟨rfl, hZ, hh⟩ := hP
  have hx := Bd.exec
  have hby := Bd.bytes
  have hml : c.maxLocals = 2 := hml0
  have hown : s.vm.findClass "com/example/firm_gate/firmgate/OkpCurve" = some m.cls := findClass_of_methodNamed Bd.named
  have hnm := (name_of_methodNamed Bd.named Bd.method).1
  have X0 : Stand p l e ({ frames := 0, cells := 0, slots := 0, locals := 0 } : Room) s m #[(.ref u0), (.ref u1)] below meth c s₁ [] 0 0 := Stand.of_body Bd
  have e0 : s₁.heap = h0 := by rw [← hh, Bd.state]; rfl
  have N0 := Fr.nil n0
  change Go p.tables e below _ _
  refine own_on (B := s₁.setTop (mkF m 0 #[.val (.ref u0), .val (.ref u1)] [])) (fun tz kz => castTop (own_ef_1 m u0 u1) kz) ?_
  refine own_on (B := s₁.setTop (mkF m 1 #[.val (.ref u0), .val (.ref u1)] [(.ref u1)])) (fun tz kz => ?_) ?_
  · show Steps p.tables e below (s₁.setTop (mkF m 0 #[.val (.ref u0), .val (.ref u1)] [])) tz
    refine XS.aloadN X0.here hx rfl (hb hby own_d1_0) rfl rfl ?_
    exact kz
  obtain ⟨cl1, Ar1, S1, M1⟩ := id Va
  refine own_on (B := s₁.setTop (mkF m 4 #[.val (.ref u0), .val (.ref u1)] [(.ref u0), (.int (2 : Int32)), (.int n)])) (fun tz kz => ?_) ?_
  · show Steps p.tables e below (s₁.setTop (mkF m 1 #[.val (.ref u0), .val (.ref u1)] [(.ref u1)])) tz
    refine X0.arraylength hx (by rw [e0]; exact Ar1.1) (State.isArrayOf_alike hZ.alike Ar1.2.1) (g := (mkF m 1 #[.val (.ref u0), .val (.ref u1)] [(.ref u1)])) rfl rfl (hb hby own_d1_1) _ ?_
    rw [len_of S1 M1]
    show Steps p.tables e below (s₁.setTop (mkF m 2 #[.val (.ref u0), .val (.ref u1)] [(.int n)])) tz
    refine XS.iconst X0.here hx rfl (hb hby own_d1_2) ?_
    show Steps p.tables e below (s₁.setTop (mkF m 3 #[.val (.ref u0), .val (.ref u1)] [(.int (2 : Int32)), (.int n)])) tz
    refine XS.aloadN X0.here hx rfl (hb hby own_d1_3) rfl rfl ?_
    exact kz
  obtain ⟨T2, X2, e2, st2⟩ := getF X0 hx hZ hown (host := "") (Or.inl (hw _ (List.mem_of_getElem? (i := 9) rfl))) Via.refl e0 (Fs.ext O0.2) (g := (mkF m 4 #[.val (.ref u0), .val (.ref u1)] [(.ref u0), (.int (2 : Int32)), (.int n)])) rfl rfl (hb hby own_d1_4)
  refine own_on (B := T2.setTop (mkF m 7 #[.val (.ref u0), .val (.ref u1)] [(.int sz), (.int (2 : Int32)), (.int n)])) (fun tz kz => st2 _ kz) ?_
  refine own_on (B := T2.setTop (mkF m 8 #[.val (.ref u0), .val (.ref u1)] [(.int ((2 : Int32) * sz)), (.int n)])) (fun tz kz => ?_) ?_
  · show Steps p.tables e below (T2.setTop (mkF m 7 #[.val (.ref u0), .val (.ref u1)] [(.int sz), (.int (2 : Int32)), (.int n)])) tz
    refine XS.imul X2.here hx rfl (hb hby own_d1_7) rfl ?_
    exact kz
  rw [hdd]
  obtain ⟨mv4, hmv4⟩ : ∃ z, z = (if n = dd then (1 : Int32) else (0 : Int32)) := ⟨_, rfl⟩
  refine own_on (B := T2.setTop (mkF m 16 #[.val (.ref u0), .val (.ref u1)] [(.int mv4)])) (fun tz kz => ?_) ?_
  · show Steps p.tables e below (T2.setTop (mkF m 8 #[.val (.ref u0), .val (.ref u1)] [(.int dd), (.int n)])) tz
    by_cases hm3 : n = dd
    · refine XS.icmpNo X2.here hx rfl (hb hby own_d1_8) rfl (teq hm3).2 ?_
      show Steps p.tables e below (T2.setTop (mkF m 11 #[.val (.ref u0), .val (.ref u1)] [])) tz
      refine XS.iconst X2.here hx rfl (hb hby own_d1_11) ?_
      show Steps p.tables e below (T2.setTop (mkF m 12 #[.val (.ref u0), .val (.ref u1)] [(.int (1 : Int32))])) tz
      refine XS.goto X2.here hx rfl (pc0 := 12) (pc' := 16) rfl (hb hby own_d1_12) (by decide) (by decide) ?_
      show Steps p.tables e below (T2.setTop (mkF m 16 #[.val (.ref u0), .val (.ref u1)] [(.int (1 : Int32))])) tz
      rw [if_pos hm3] at hmv4
      rw [hmv4] at kz
      exact kz
    · refine XS.icmpYes X2.here hx rfl (pc0 := 8) (pc' := 15) rfl (hb hby own_d1_8) rfl (feq hm3).2 (by decide) (by decide) ?_
      show Steps p.tables e below (T2.setTop (mkF m 15 #[.val (.ref u0), .val (.ref u1)] [])) tz
      refine XS.iconst X2.here hx rfl (hb hby own_d1_15) ?_
      show Steps p.tables e below (T2.setTop (mkF m 16 #[.val (.ref u0), .val (.ref u1)] [(.int (0 : Int32))])) tz
      rw [if_neg hm3] at hmv4
      rw [hmv4] at kz
      exact kz
  rw [hmv4]
  obtain ⟨fs, hr, hrun, hended, hW, hsame⟩ := X2.leave (v := some (.int (if n = dd then (1 : Int32) else (0 : Int32)))) (fun h => by rw [Bd.returns] at h; cases h)
  refine own_of ⟨_, _, ?_, hrun, hended, _, _, rfl, ?_, ⟨_, rfl⟩, hW, hsame.mono (by decide) (by decide)⟩
  · show Steps p.tables e below (T2.setTop (mkF m 16 #[.val (.ref u0), .val (.ref u1)] [(.int (if n = dd then (1 : Int32) else (0 : Int32)))])) _
    exact own_retN X2 hx (t := .boolean) Bd.returns (by simp) (by first | rfl | (split <;> first | rfl | (split <;> first | rfl | (split <;> rfl)))) (hb hby own_d1_16) hr
  · show Q1 Z u0 u1 sz dd n h0 n0 _ T2.heap _
    rw [e2]
    exact ⟨rfl, N0, rfl⟩
theorem own_pn_com_example_firm_gate_firmgate_OkpCurveIsSignatureFormPinLaw : plainName "com/example/firm_gate/firmgate/OkpCurveIsSignatureFormPinLaw" = true := by first | (simp [plainName, overriddenIn]; done) | decide +kernel
theorem own_ef_0 (m : MethodId) (x0 : Int32) (x1 : Int32) (x2 : Int32) : entryFrame m #[(.int x0), (.int x1), (.int x2)] maxLocals = mkF m 0 #[.val (.int x0), .val (.int x1), .val (.int x2), .unset, .unset, .unset, .unset, .unset] [] := by first | (simp [entryFrame, mkF, argsToLocals, Value.category, maxLocals]; done) | rfl
def Q0 (Z : State) (p0 : Int32) (p1 : Int32) (p2 : Int32) (w5 : Addr) (w4 : Addr) (h0 : Heap) (n0 : Nat) (v : Option Value) (h : Heap) (L : List Loc) : Prop := v = some (.int 1) ∧ Fr n0 L
theorem own_pd0 : parseMethodDescriptor "([B)Z" = some ⟨[(.array .byte)], some .boolean⟩ := by decide +kernel
set_option maxRecDepth 65536 in
set_option maxHeartbeats 40000000 in
theorem rm0 (l : Launch) (Z : State) (a0 : Array Value) (hw : ∀ d ∈ tables_1, d.before a0 Z = true) (ws : List Jvm.Cond) (p0 : Int32) (p1 : Int32) (p2 : Int32) (w5 : Addr) (w4 : Addr) (h0 : Heap) (n0 : Nat) (O0 : Old Z n0 h0) (S_ED25519 : Sta Z Z.heap "com/example/firm_gate/firmgate/OkpCurve" "ED25519" "Lcom/example/firm_gate/firmgate/OkpCurve;" (.ref w5)) (S_ED448 : Sta Z Z.heap "com/example/firm_gate/firmgate/OkpCurve" "ED448" "Lcom/example/firm_gate/firmgate/OkpCurve;" (.ref w4)) (E_ED25519 : Exa Z Z.heap w5 "com/example/firm_gate/firmgate/OkpCurve") (E_ED448 : Exa Z Z.heap w4 "com/example/firm_gate/firmgate/OkpCurve") (F_ED25519 : Fld Z Z.heap w5 "com/example/firm_gate/firmgate/OkpCurve" "size" "I" (.int 32)) (F_ED448 : Fld Z Z.heap w4 "com/example/firm_gate/firmgate/OkpCurve" "size" "I" (.int 57)) :
    MetFree l x (head1 (Jvm.Cond.code x code maxLocals ret :: ws) room_1) (fun a U => a = #[(.int p0), (.int p1), (.int p2)] ∧ Z.Warmed39 U.vm ∧ U.heap = h0) (fun _ _ _ _ _ => True) (fun _ U o U' => ∃ v L, o = .returned v ∧ Q0 Z p0 p1 p2 w5 w4 h0 n0 v U'.heap L ∧ FrameEnd U o U' L room_1.cells room_1.slots) := by
  refine MetFree.of_bodySF (plainFor_of_name own_pn_com_example_firm_gate_firmgate_OkpCurveIsSignatureFormPinLaw) hisR ?_
  intro p e s m args below meth c s₁ Bd hml0 hP hK
  obtain ⟨rfl, hZ, hh⟩ := hP
  have hx := Bd.exec
  have hby := Bd.bytes
  have hml : c.maxLocals = 8 := hml0
  have hown : s.vm.findClass "com/example/firm_gate/firmgate/OkpCurveIsSignatureFormPinLaw" = some m.cls := findClass_of_methodNamed Bd.named
  have hnm := (name_of_methodNamed Bd.named Bd.method).1
  have X0 : Stand p l e room_1 s m #[(.int p0), (.int p1), (.int p2)] below meth c s₁ [] 0 0 := Stand.of_body Bd
  have e0 : s₁.heap = h0 := by rw [← hh, Bd.state]; rfl
  have N0 := Fr.nil n0
  change Go p.tables e below _ _
  refine own_on (B := s₁.setTop (mkF m 0 #[.val (.int p0), .val (.int p1), .val (.int p2), .unset, .unset, .unset, .unset, .unset] [])) (fun tz kz => castTop (own_ef_0 m p0 p1 p2) kz) ?_
  refine own_on (B := s₁.setTop (mkF m 3 #[.val (.int p0), .val (.int p1), .val (.int p2), .unset, .unset, .unset, .unset, .unset] [(.int (p0 &&& (1 : Int32)))])) (fun tz kz => ?_) ?_
  · show Steps p.tables e below (s₁.setTop (mkF m 0 #[.val (.int p0), .val (.int p1), .val (.int p2), .unset, .unset, .unset, .unset, .unset] [])) tz
    refine XS.iloadN X0.here hx rfl (hb hby at_0) rfl ?_
    show Steps p.tables e below (s₁.setTop (mkF m 1 #[.val (.int p0), .val (.int p1), .val (.int p2), .unset, .unset, .unset, .unset, .unset] [(.int p0)])) tz
    refine XS.iconst X0.here hx rfl (hb hby at_1) ?_
    show Steps p.tables e below (s₁.setTop (mkF m 2 #[.val (.int p0), .val (.int p1), .val (.int p2), .unset, .unset, .unset, .unset, .unset] [(.int (1 : Int32)), (.int p0)])) tz
    refine XS.iand X0.here hx rfl (hb hby at_2) rfl ?_
    exact kz
  by_cases hw0 : (p0 &&& (1 : Int32)) = (0 : Int32)
  · refine own_on (B := s₁.setTop (mkF m 22 #[.val (.int p0), .val (.int p1), .val (.int p2), .val (.int (0 : Int32)), .unset, .unset, .unset, .unset] [])) (fun tz kz => ?_) ?_
    · show Steps p.tables e below (s₁.setTop (mkF m 3 #[.val (.int p0), .val (.int p1), .val (.int p2), .unset, .unset, .unset, .unset, .unset] [(.int (p0 &&& (1 : Int32)))])) tz
      refine XS.ifYes X0.here hx rfl (pc0 := 3) (pc' := 10) rfl (hb hby at_3) rfl ((if0 _ _).trans (teq hw0).1) (by decide) (by decide) ?_
      show Steps p.tables e below (s₁.setTop (mkF m 10 #[.val (.int p0), .val (.int p1), .val (.int p2), .unset, .unset, .unset, .unset, .unset] [])) tz
      refine XS.iconst X0.here hx rfl (hb hby at_10) ?_
      show Steps p.tables e below (s₁.setTop (mkF m 11 #[.val (.int p0), .val (.int p1), .val (.int p2), .unset, .unset, .unset, .unset, .unset] [(.int (0 : Int32))])) tz
      refine XS.istoreN X0.here hx rfl (hb hby at_11) rfl (l' := #[.val (.int p0), .val (.int p1), .val (.int p2), .val (.int (0 : Int32)), .unset, .unset, .unset, .unset]) rfl ?_
      show Steps p.tables e below (s₁.setTop (mkF m 12 #[.val (.int p0), .val (.int p1), .val (.int p2), .val (.int (0 : Int32)), .unset, .unset, .unset, .unset] [])) tz
      refine XS.iloadN X0.here hx rfl (hb hby at_12) rfl ?_
      show Steps p.tables e below (s₁.setTop (mkF m 13 #[.val (.int p0), .val (.int p1), .val (.int p2), .val (.int (0 : Int32)), .unset, .unset, .unset, .unset] [(.int (0 : Int32))])) tz
      refine XS.ifYes X0.here hx rfl (pc0 := 13) (pc' := 22) rfl (hb hby at_13) rfl ((if0 _ _).trans (teq rfl).1) (by decide) (by decide) ?_
      exact kz
    obtain ⟨T1, X1, e1, st1⟩ := getS2 X0 hx hZ hown (host := "") (Or.inl (hw _ (List.mem_of_getElem? (i := 0) rfl))) Via.refl e0 (S_ED25519.ext O0.2) (g := (mkF m 22 #[.val (.int p0), .val (.int p1), .val (.int p2), .val (.int (0 : Int32)), .unset, .unset, .unset, .unset] [])) rfl (hb hby at_22)
    refine own_on (B := T1.setTop (mkF m 25 #[.val (.int p0), .val (.int p1), .val (.int p2), .val (.int (0 : Int32)), .unset, .unset, .unset, .unset] [(.ref w5)])) (fun tz kz => st1 _ kz) ?_
    refine own_on (B := T1.setTop (mkF m 36 #[.val (.int p0), .val (.int p1), .val (.int p2), .val (.int (0 : Int32)), .val (.ref w5), .val (.int (p1 &&& (255 : Int32))), .unset, .unset] [(.int (p1 &&& (255 : Int32)))])) (fun tz kz => ?_) ?_
    · show Steps p.tables e below (T1.setTop (mkF m 25 #[.val (.int p0), .val (.int p1), .val (.int p2), .val (.int (0 : Int32)), .unset, .unset, .unset, .unset] [(.ref w5)])) tz
      refine XS.astore X1.here hx rfl (hb hby at_25) rfl rfl (l' := #[.val (.int p0), .val (.int p1), .val (.int p2), .val (.int (0 : Int32)), .val (.ref w5), .unset, .unset, .unset]) rfl ?_
      show Steps p.tables e below (T1.setTop (mkF m 27 #[.val (.int p0), .val (.int p1), .val (.int p2), .val (.int (0 : Int32)), .val (.ref w5), .unset, .unset, .unset] [])) tz
      refine XS.iloadN X1.here hx rfl (hb hby at_27) rfl ?_
      show Steps p.tables e below (T1.setTop (mkF m 28 #[.val (.int p0), .val (.int p1), .val (.int p2), .val (.int (0 : Int32)), .val (.ref w5), .unset, .unset, .unset] [(.int p1)])) tz
      refine XS.sipush X1.here hx rfl (hb hby at_28) ?_
      show Steps p.tables e below (T1.setTop (mkF m 31 #[.val (.int p0), .val (.int p1), .val (.int p2), .val (.int (0 : Int32)), .val (.ref w5), .unset, .unset, .unset] [(.int (255 : Int32)), (.int p1)])) tz
      refine XS.iand X1.here hx rfl (hb hby at_31) rfl ?_
      show Steps p.tables e below (T1.setTop (mkF m 32 #[.val (.int p0), .val (.int p1), .val (.int p2), .val (.int (0 : Int32)), .val (.ref w5), .unset, .unset, .unset] [(.int (p1 &&& (255 : Int32)))])) tz
      refine XS.istore X1.here hx rfl (hb hby at_32) rfl (l' := #[.val (.int p0), .val (.int p1), .val (.int p2), .val (.int (0 : Int32)), .val (.ref w5), .val (.int (p1 &&& (255 : Int32))), .unset, .unset]) rfl ?_
      show Steps p.tables e below (T1.setTop (mkF m 34 #[.val (.int p0), .val (.int p1), .val (.int p2), .val (.int (0 : Int32)), .val (.ref w5), .val (.int (p1 &&& (255 : Int32))), .unset, .unset] [])) tz
      refine XS.iload X1.here hx rfl (hb hby at_34) rfl ?_
      exact kz
    generalize hv_len : (p1 &&& (255 : Int32)) = len
    obtain ⟨hneg, hcap⟩ := own_len _ _ hv_len
    obtain ⟨T2, h2, k2, X2, e2, E2, A2, st2⟩ := newP X1 hx hZ (hw _ (List.mem_of_getElem? (i := 3) rfl)) e1 (g := (mkF m 36 #[.val (.int p0), .val (.int p1), .val (.int p2), .val (.int (0 : Int32)), .val (.ref w5), .val (.int len), .unset, .unset] [(.int len)])) rfl (hb hby at_36) rfl hneg (cap := 255) hcap (by decide) (by decide) (by decide)
    obtain ⟨b2, g2⟩ : ∃ z, z = h0.size := ⟨_, rfl⟩
    rw [← g2] at A2 st2
    have g_b2 : n0 ≤ b2 := Nat.le_trans (own_old O0) (Nat.le_of_eq g2.symm)
    have sz_b2 : h0.size ≤ b2 := Nat.le_trans (Keep.refl h0 []).1 (Nat.le_of_eq g2.symm)
    have O3 := O0.ext E2
    have K3 : Keep h0 h2 [] := (Keep.refl h0 []).ext E2
    have V2 : Arv Z h2 b2 k2 .byte len [] (.int (0 : Int32)) := Arv.new A2 hneg
    refine own_on (B := T2.setTop (mkF m 38 #[.val (.int p0), .val (.int p1), .val (.int p2), .val (.int (0 : Int32)), .val (.ref w5), .val (.int len), .unset, .unset] [(.ref b2)])) (fun tz kz => st2 _ kz) ?_
    have V4 := OwnArz.of V2
    refine own_on (B := T2.setTop (mkF m 42 #[.val (.int p0), .val (.int p1), .val (.int p2), .val (.int (0 : Int32)), .val (.ref w5), .val (.int len), .val (.ref b2), .unset] [(.int len)])) (fun tz kz => ?_) ?_
    · show Steps p.tables e below (T2.setTop (mkF m 38 #[.val (.int p0), .val (.int p1), .val (.int p2), .val (.int (0 : Int32)), .val (.ref w5), .val (.int len), .unset, .unset] [(.ref b2)])) tz
      refine XS.astore X2.here hx rfl (hb hby at_38) rfl rfl (l' := #[.val (.int p0), .val (.int p1), .val (.int p2), .val (.int (0 : Int32)), .val (.ref w5), .val (.int len), .val (.ref b2), .unset]) rfl ?_
      show Steps p.tables e below (T2.setTop (mkF m 40 #[.val (.int p0), .val (.int p1), .val (.int p2), .val (.int (0 : Int32)), .val (.ref w5), .val (.int len), .val (.ref b2), .unset] [])) tz
      refine XS.iload X2.here hx rfl (hb hby at_40) rfl ?_
      exact kz
    by_cases hpos : (0 : Int32) < len
    · refine own_on (B := T2.setTop (mkF m 50 #[.val (.int p0), .val (.int p1), .val (.int p2), .val (.int (0 : Int32)), .val (.ref w5), .val (.int len), .val (.ref b2), .unset] [(.int (p2.toInt8.toInt32)), (.int (0 : Int32)), (.ref b2)])) (fun tz kz => ?_) ?_
      · show Steps p.tables e below (T2.setTop (mkF m 42 #[.val (.int p0), .val (.int p1), .val (.int p2), .val (.int (0 : Int32)), .val (.ref w5), .val (.int len), .val (.ref b2), .unset] [(.int len)])) tz
        refine XS.ifNo X2.here hx rfl (hb hby at_42) rfl ((if0 _ _).trans (tlt hpos).2.2.2) ?_
        show Steps p.tables e below (T2.setTop (mkF m 45 #[.val (.int p0), .val (.int p1), .val (.int p2), .val (.int (0 : Int32)), .val (.ref w5), .val (.int len), .val (.ref b2), .unset] [])) tz
        refine XS.aload X2.here hx rfl (hb hby at_45) rfl rfl ?_
        show Steps p.tables e below (T2.setTop (mkF m 47 #[.val (.int p0), .val (.int p1), .val (.int p2), .val (.int (0 : Int32)), .val (.ref w5), .val (.int len), .val (.ref b2), .unset] [(.ref b2)])) tz
        refine XS.iconst X2.here hx rfl (hb hby at_47) ?_
        show Steps p.tables e below (T2.setTop (mkF m 48 #[.val (.int p0), .val (.int p1), .val (.int p2), .val (.int (0 : Int32)), .val (.ref w5), .val (.int len), .val (.ref b2), .unset] [(.int (0 : Int32)), (.ref b2)])) tz
        refine XS.iloadN X2.here hx rfl (hb hby at_48) rfl ?_
        show Steps p.tables e below (T2.setTop (mkF m 49 #[.val (.int p0), .val (.int p1), .val (.int p2), .val (.int (0 : Int32)), .val (.ref w5), .val (.int len), .val (.ref b2), .unset] [(.int p2), (.int (0 : Int32)), (.ref b2)])) tz
        refine XS.i2b X2.here hx rfl (hb hby at_49) rfl ?_
        exact kz
      obtain ⟨cl5, Ar5, S5, M5⟩ := id V4
      have hin5 : ¬ ((0 : Int32) < 0 ∨ cl5.slots.size ≤ ((0 : Int32)).toNatClampNeg) := inb_of S5 ⟨by decide, hpos⟩
      obtain ⟨T5, h5, X5, e5, W5, st5⟩ := stB X2 hx hZ e2 Ar5 (j := (0 : Int32)) hin5 (g := (mkF m 50 #[.val (.int p0), .val (.int p1), .val (.int p2), .val (.int (0 : Int32)), .val (.ref w5), .val (.int len), .val (.ref b2), .unset] [(.int (p2.toInt8.toInt32)), (.int (0 : Int32)), (.ref b2)])) rfl rfl (hb hby at_50)
      have V5 := OwnArz.set Ar5 S5 M5 W5
      have N5 := Fr.snoc X5 N0 g_b2
      have O6 := O3.wr W5 g_b2
      have K6 : Keep h0 h5 [] := K3.wr W5 (Or.inr sz_b2)
      refine own_on (B := T5.setTop (mkF m 51 #[.val (.int p0), .val (.int p1), .val (.int p2), .val (.int (0 : Int32)), .val (.ref w5), .val (.int len), .val (.ref b2), .unset] [])) (fun tz kz => st5 _ kz) ?_
      refine own_on (B := T5.setTop (mkF m 62 #[.val (.int p0), .val (.int p1), .val (.int p2), .val (.int (0 : Int32)), .val (.ref w5), .val (.int len), .val (.ref b2), .unset] [(.int ((p2 >>> ((8 : Int32) &&& 31)).toInt8.toInt32)), (.int (len - (1 : Int32))), (.ref b2)])) (fun tz kz => ?_) ?_
      · show Steps p.tables e below (T5.setTop (mkF m 51 #[.val (.int p0), .val (.int p1), .val (.int p2), .val (.int (0 : Int32)), .val (.ref w5), .val (.int len), .val (.ref b2), .unset] [])) tz
        refine XS.aload X5.here hx rfl (hb hby at_51) rfl rfl ?_
        show Steps p.tables e below (T5.setTop (mkF m 53 #[.val (.int p0), .val (.int p1), .val (.int p2), .val (.int (0 : Int32)), .val (.ref w5), .val (.int len), .val (.ref b2), .unset] [(.ref b2)])) tz
        refine XS.iload X5.here hx rfl (hb hby at_53) rfl ?_
        show Steps p.tables e below (T5.setTop (mkF m 55 #[.val (.int p0), .val (.int p1), .val (.int p2), .val (.int (0 : Int32)), .val (.ref w5), .val (.int len), .val (.ref b2), .unset] [(.int len), (.ref b2)])) tz
        refine XS.iconst X5.here hx rfl (hb hby at_55) ?_
        show Steps p.tables e below (T5.setTop (mkF m 56 #[.val (.int p0), .val (.int p1), .val (.int p2), .val (.int (0 : Int32)), .val (.ref w5), .val (.int len), .val (.ref b2), .unset] [(.int (1 : Int32)), (.int len), (.ref b2)])) tz
        refine XS.isub X5.here hx rfl (hb hby at_56) rfl ?_
        show Steps p.tables e below (T5.setTop (mkF m 57 #[.val (.int p0), .val (.int p1), .val (.int p2), .val (.int (0 : Int32)), .val (.ref w5), .val (.int len), .val (.ref b2), .unset] [(.int (len - (1 : Int32))), (.ref b2)])) tz
        refine XS.iloadN X5.here hx rfl (hb hby at_57) rfl ?_
        show Steps p.tables e below (T5.setTop (mkF m 58 #[.val (.int p0), .val (.int p1), .val (.int p2), .val (.int (0 : Int32)), .val (.ref w5), .val (.int len), .val (.ref b2), .unset] [(.int p2), (.int (len - (1 : Int32))), (.ref b2)])) tz
        refine XS.bipush X5.here hx rfl (hb hby at_58) ?_
        show Steps p.tables e below (T5.setTop (mkF m 60 #[.val (.int p0), .val (.int p1), .val (.int p2), .val (.int (0 : Int32)), .val (.ref w5), .val (.int len), .val (.ref b2), .unset] [(.int (8 : Int32)), (.int p2), (.int (len - (1 : Int32))), (.ref b2)])) tz
        refine XS.ishr X5.here hx rfl (hb hby at_60) rfl ?_
        show Steps p.tables e below (T5.setTop (mkF m 61 #[.val (.int p0), .val (.int p1), .val (.int p2), .val (.int (0 : Int32)), .val (.ref w5), .val (.int len), .val (.ref b2), .unset] [(.int (p2 >>> ((8 : Int32) &&& 31))), (.int (len - (1 : Int32))), (.ref b2)])) tz
        refine XS.i2b X5.here hx rfl (hb hby at_61) rfl ?_
        exact kz
      obtain ⟨cl7, Ar7, S7, M7⟩ := id V5
      have hin7 : ¬ ((len - (1 : Int32)) < 0 ∨ cl7.slots.size ≤ ((len - (1 : Int32))).toNatClampNeg) := inb_of S7 (own_last _ hpos)
      obtain ⟨T7, h7, X7, e7, W7, st7⟩ := stB X5 hx hZ e5 Ar7 (j := (len - (1 : Int32))) hin7 (g := (mkF m 62 #[.val (.int p0), .val (.int p1), .val (.int p2), .val (.int (0 : Int32)), .val (.ref w5), .val (.int len), .val (.ref b2), .unset] [(.int ((p2 >>> ((8 : Int32) &&& 31)).toInt8.toInt32)), (.int (len - (1 : Int32))), (.ref b2)])) rfl rfl (hb hby at_62)
      have V7 := OwnArz.set Ar7 S7 M7 W7
      have N7 := Fr.snoc X7 N5 g_b2
      have O8 := O6.wr W7 g_b2
      have K8 : Keep h0 h7 [] := K6.wr W7 (Or.inr sz_b2)
      refine own_on (B := T7.setTop (mkF m 63 #[.val (.int p0), .val (.int p1), .val (.int p2), .val (.int (0 : Int32)), .val (.ref w5), .val (.int len), .val (.ref b2), .unset] [])) (fun tz kz => st7 _ kz) ?_
      refine own_on (B := T7.setTop (mkF m 82 #[.val (.int p0), .val (.int p1), .val (.int p2), .val (.int (0 : Int32)), .val (.ref w5), .val (.int len), .val (.ref b2), .unset] [])) (fun tz kz => ?_) ?_
      · show Steps p.tables e below (T7.setTop (mkF m 63 #[.val (.int p0), .val (.int p1), .val (.int p2), .val (.int (0 : Int32)), .val (.ref w5), .val (.int len), .val (.ref b2), .unset] [])) tz
        refine XS.iloadN X7.here hx rfl (hb hby at_63) rfl ?_
        show Steps p.tables e below (T7.setTop (mkF m 64 #[.val (.int p0), .val (.int p1), .val (.int p2), .val (.int (0 : Int32)), .val (.ref w5), .val (.int len), .val (.ref b2), .unset] [(.int (0 : Int32))])) tz
        refine XS.ifYes X7.here hx rfl (pc0 := 64) (pc' := 82) rfl (hb hby at_64) rfl ((if0 _ _).trans (teq rfl).1) (by decide) (by decide) ?_
        exact kz
      obtain ⟨mv10, hmv10⟩ : ∃ z, z = (if len = (64 : Int32) then (1 : Int32) else (0 : Int32)) := ⟨_, rfl⟩
      refine own_on (B := T7.setTop (mkF m 94 #[.val (.int p0), .val (.int p1), .val (.int p2), .val (.int (0 : Int32)), .val (.ref w5), .val (.int len), .val (.ref b2), .unset] [(.int mv10)])) (fun tz kz => ?_) ?_
      · show Steps p.tables e below (T7.setTop (mkF m 82 #[.val (.int p0), .val (.int p1), .val (.int p2), .val (.int (0 : Int32)), .val (.ref w5), .val (.int len), .val (.ref b2), .unset] [])) tz
        refine XS.iload X7.here hx rfl (hb hby at_82) rfl ?_
        show Steps p.tables e below (T7.setTop (mkF m 84 #[.val (.int p0), .val (.int p1), .val (.int p2), .val (.int (0 : Int32)), .val (.ref w5), .val (.int len), .val (.ref b2), .unset] [(.int len)])) tz
        refine XS.bipush X7.here hx rfl (hb hby at_84) ?_
        show Steps p.tables e below (T7.setTop (mkF m 86 #[.val (.int p0), .val (.int p1), .val (.int p2), .val (.int (0 : Int32)), .val (.ref w5), .val (.int len), .val (.ref b2), .unset] [(.int (64 : Int32)), (.int len)])) tz
        by_cases hm9 : len = (64 : Int32)
        · refine XS.icmpNo X7.here hx rfl (hb hby at_86) rfl (teq hm9).2 ?_
          show Steps p.tables e below (T7.setTop (mkF m 89 #[.val (.int p0), .val (.int p1), .val (.int p2), .val (.int (0 : Int32)), .val (.ref w5), .val (.int len), .val (.ref b2), .unset] [])) tz
          refine XS.iconst X7.here hx rfl (hb hby at_89) ?_
          show Steps p.tables e below (T7.setTop (mkF m 90 #[.val (.int p0), .val (.int p1), .val (.int p2), .val (.int (0 : Int32)), .val (.ref w5), .val (.int len), .val (.ref b2), .unset] [(.int (1 : Int32))])) tz
          refine XS.goto X7.here hx rfl (pc0 := 90) (pc' := 94) rfl (hb hby at_90) (by decide) (by decide) ?_
          show Steps p.tables e below (T7.setTop (mkF m 94 #[.val (.int p0), .val (.int p1), .val (.int p2), .val (.int (0 : Int32)), .val (.ref w5), .val (.int len), .val (.ref b2), .unset] [(.int (1 : Int32))])) tz
          rw [if_pos hm9] at hmv10
          rw [hmv10] at kz
          exact kz
        · refine XS.icmpYes X7.here hx rfl (pc0 := 86) (pc' := 93) rfl (hb hby at_86) rfl (feq hm9).2 (by decide) (by decide) ?_
          show Steps p.tables e below (T7.setTop (mkF m 93 #[.val (.int p0), .val (.int p1), .val (.int p2), .val (.int (0 : Int32)), .val (.ref w5), .val (.int len), .val (.ref b2), .unset] [])) tz
          refine XS.iconst X7.here hx rfl (hb hby at_93) ?_
          show Steps p.tables e below (T7.setTop (mkF m 94 #[.val (.int p0), .val (.int p1), .val (.int p2), .val (.int (0 : Int32)), .val (.ref w5), .val (.int len), .val (.ref b2), .unset] [(.int (0 : Int32))])) tz
          rw [if_neg hm9] at hmv10
          rw [hmv10] at kz
          exact kz
      rw [hmv10]
      refine own_on (B := T7.setTop (mkF m 100 #[.val (.int p0), .val (.int p1), .val (.int p2), .val (.int (0 : Int32)), .val (.ref w5), .val (.int len), .val (.ref b2), .val (.int (if len = (64 : Int32) then (1 : Int32) else (0 : Int32)))] [(.ref b2), (.ref w5)])) (fun tz kz => ?_) ?_
      · show Steps p.tables e below (T7.setTop (mkF m 94 #[.val (.int p0), .val (.int p1), .val (.int p2), .val (.int (0 : Int32)), .val (.ref w5), .val (.int len), .val (.ref b2), .unset] [(.int (if len = (64 : Int32) then (1 : Int32) else (0 : Int32)))])) tz
        refine XS.istore X7.here hx rfl (hb hby at_94) rfl (l' := #[.val (.int p0), .val (.int p1), .val (.int p2), .val (.int (0 : Int32)), .val (.ref w5), .val (.int len), .val (.ref b2), .val (.int (if len = (64 : Int32) then (1 : Int32) else (0 : Int32)))]) rfl ?_
        show Steps p.tables e below (T7.setTop (mkF m 96 #[.val (.int p0), .val (.int p1), .val (.int p2), .val (.int (0 : Int32)), .val (.ref w5), .val (.int len), .val (.ref b2), .val (.int (if len = (64 : Int32) then (1 : Int32) else (0 : Int32)))] [])) tz
        refine XS.aload X7.here hx rfl (hb hby at_96) rfl rfl ?_
        show Steps p.tables e below (T7.setTop (mkF m 98 #[.val (.int p0), .val (.int p1), .val (.int p2), .val (.int (0 : Int32)), .val (.ref w5), .val (.int len), .val (.ref b2), .val (.int (if len = (64 : Int32) then (1 : Int32) else (0 : Int32)))] [(.ref w5)])) tz
        refine XS.aload X7.here hx rfl (hb hby at_98) rfl rfl ?_
        exact kz
      obtain ⟨cq11, kq11, q11a, q11b, q11c⟩ := isOf hZ e7 (E_ED25519.ext O8.2)
      obtain ⟨_, _, ⟨T11, L11, k11, n11⟩, -, X11, ⟨Lc11, hQ11, l11, y11, z11⟩, st11⟩ := X7.virtualBack hx (y := (⟨"com/example/firm_gate/firmgate/OkpCurve", "isSignatureForm", "([B)Z"⟩ : MethodName)) (z := (⟨"com/example/firm_gate/firmgate/OkpCurve", "isSignatureForm", "([B)Z"⟩ : MethodName)) hown (mvT hZ (hw _ (List.mem_of_getElem? (i := 4) rfl))) (mvT hZ (hw _ (List.mem_of_getElem? (i := 5) rfl))) (notFace_of_selects (args := #[]) (mvT hZ (hw _ (List.mem_of_getElem? (i := 7) rfl)))) (mvT hZ (hw _ (List.mem_of_getElem? (i := 7) rfl))) (mvT hZ (hw _ (List.mem_of_getElem? (i := 6) rfl))) (by decide) (backOf (W := 0) (rm1 l Z a0 hw [] w5 b2 32 64 len h7 n0 O8 F_ED25519 V7 rfl) hZ (hw _ (List.mem_of_getElem? (i := 8) rfl)) (hw _ (List.mem_of_getElem? (i := 1) rfl)) (by decide) (by decide)) q11a q11c (g := (mkF m 100 #[.val (.int p0), .val (.int p1), .val (.int p2), .val (.int (0 : Int32)), .val (.ref w5), .val (.int len), .val (.ref b2), .val (.int (if len = (64 : Int32) then (1 : Int32) else (0 : Int32)))] [(.ref b2), (.ref w5)])) rfl (by rw [hml]; rfl) (Steps.refl _) (argsL := [(.ref b2)]) (rest := []) (lenOf own_pd0 rfl) rfl (by show 2 * 0 + _ ≤ _; exact Nat.le_of_eq rfl) (hb hby at_100) (fun _ _ => ⟨rfl, e7, (by decide : 1 + 0 ≤ _), (by decide : 255 + 0 ≤ _)⟩)
      dsimp only [Pt.U, Pt.locs, Pt.cells, Pt.slots] at X11 l11 y11 z11 st11 hQ11
      subst l11 y11 z11
      obtain ⟨rfl, Nq11, e11⟩ := hQ11
      have N11 := Fr.app N7 Nq11
      refine own_on (B := T11.setTop (mkF m 103 #[.val (.int p0), .val (.int p1), .val (.int p2), .val (.int (0 : Int32)), .val (.ref w5), .val (.int len), .val (.ref b2), .val (.int (if len = (64 : Int32) then (1 : Int32) else (0 : Int32)))] [(.int (if len = (64 : Int32) then (1 : Int32) else (0 : Int32)))])) (fun tz kz => st11.trans kz) ?_
      refine own_on (B := T11.setTop (mkF m 113 #[.val (.int p0), .val (.int p1), .val (.int p2), .val (.int (0 : Int32)), .val (.ref w5), .val (.int len), .val (.ref b2), .val (.int (if len = (64 : Int32) then (1 : Int32) else (0 : Int32)))] [(.int (1 : Int32))])) (fun tz kz => ?_) ?_
      · show Steps p.tables e below (T11.setTop (mkF m 103 #[.val (.int p0), .val (.int p1), .val (.int p2), .val (.int (0 : Int32)), .val (.ref w5), .val (.int len), .val (.ref b2), .val (.int (if len = (64 : Int32) then (1 : Int32) else (0 : Int32)))] [(.int (if len = (64 : Int32) then (1 : Int32) else (0 : Int32)))])) tz
        refine XS.iload X11.here hx rfl (hb hby at_103) rfl ?_
        show Steps p.tables e below (T11.setTop (mkF m 105 #[.val (.int p0), .val (.int p1), .val (.int p2), .val (.int (0 : Int32)), .val (.ref w5), .val (.int len), .val (.ref b2), .val (.int (if len = (64 : Int32) then (1 : Int32) else (0 : Int32)))] [(.int (if len = (64 : Int32) then (1 : Int32) else (0 : Int32))), (.int (if len = (64 : Int32) then (1 : Int32) else (0 : Int32)))])) tz
        refine XS.icmpNo X11.here hx rfl (hb hby at_105) rfl (teq rfl).2 ?_
        show Steps p.tables e below (T11.setTop (mkF m 108 #[.val (.int p0), .val (.int p1), .val (.int p2), .val (.int (0 : Int32)), .val (.ref w5), .val (.int len), .val (.ref b2), .val (.int (if len = (64 : Int32) then (1 : Int32) else (0 : Int32)))] [])) tz
        refine XS.iconst X11.here hx rfl (hb hby at_108) ?_
        show Steps p.tables e below (T11.setTop (mkF m 109 #[.val (.int p0), .val (.int p1), .val (.int p2), .val (.int (0 : Int32)), .val (.ref w5), .val (.int len), .val (.ref b2), .val (.int (if len = (64 : Int32) then (1 : Int32) else (0 : Int32)))] [(.int (1 : Int32))])) tz
        refine XS.goto X11.here hx rfl (pc0 := 109) (pc' := 113) rfl (hb hby at_109) (by decide) (by decide) ?_
        exact kz
      obtain ⟨fs, hr, hrun, hended, hW, hsame⟩ := X11.leave (v := some (.int (1 : Int32))) (fun h => by rw [Bd.returns] at h; cases h)
      refine own_of ⟨_, _, ?_, hrun, hended, _, _, rfl, ?_, ⟨_, rfl⟩, hW, hsame.mono (by decide) (by decide)⟩
      · show Steps p.tables e below (T11.setTop (mkF m 113 #[.val (.int p0), .val (.int p1), .val (.int p2), .val (.int (0 : Int32)), .val (.ref w5), .val (.int len), .val (.ref b2), .val (.int (if len = (64 : Int32) then (1 : Int32) else (0 : Int32)))] [(.int (1 : Int32))])) _
        exact own_retN X11 hx (t := .boolean) Bd.returns (by simp) (by first | rfl | (split <;> first | rfl | (split <;> first | rfl | (split <;> rfl)))) (hb hby at_113) hr
      · show Q0 Z p0 p1 p2 w5 w4 h0 n0 _ T11.heap _
        rw [e11]
        exact ⟨rfl, N11⟩
    · refine own_on (B := T2.setTop (mkF m 82 #[.val (.int p0), .val (.int p1), .val (.int p2), .val (.int (0 : Int32)), .val (.ref w5), .val (.int len), .val (.ref b2), .unset] [])) (fun tz kz => ?_) ?_
      · show Steps p.tables e below (T2.setTop (mkF m 42 #[.val (.int p0), .val (.int p1), .val (.int p2), .val (.int (0 : Int32)), .val (.ref w5), .val (.int len), .val (.ref b2), .unset] [(.int len)])) tz
        refine XS.ifYes X2.here hx rfl (pc0 := 42) (pc' := 63) rfl (hb hby at_42) rfl ((if0 _ _).trans (flt hpos).2.2.2) (by decide) (by decide) ?_
        show Steps p.tables e below (T2.setTop (mkF m 63 #[.val (.int p0), .val (.int p1), .val (.int p2), .val (.int (0 : Int32)), .val (.ref w5), .val (.int len), .val (.ref b2), .unset] [])) tz
        refine XS.iloadN X2.here hx rfl (hb hby at_63) rfl ?_
        show Steps p.tables e below (T2.setTop (mkF m 64 #[.val (.int p0), .val (.int p1), .val (.int p2), .val (.int (0 : Int32)), .val (.ref w5), .val (.int len), .val (.ref b2), .unset] [(.int (0 : Int32))])) tz
        refine XS.ifYes X2.here hx rfl (pc0 := 64) (pc' := 82) rfl (hb hby at_64) rfl ((if0 _ _).trans (teq rfl).1) (by decide) (by decide) ?_
        exact kz
      obtain ⟨mv13, hmv13⟩ : ∃ z, z = (if len = (64 : Int32) then (1 : Int32) else (0 : Int32)) := ⟨_, rfl⟩
      refine own_on (B := T2.setTop (mkF m 94 #[.val (.int p0), .val (.int p1), .val (.int p2), .val (.int (0 : Int32)), .val (.ref w5), .val (.int len), .val (.ref b2), .unset] [(.int mv13)])) (fun tz kz => ?_) ?_
      · show Steps p.tables e below (T2.setTop (mkF m 82 #[.val (.int p0), .val (.int p1), .val (.int p2), .val (.int (0 : Int32)), .val (.ref w5), .val (.int len), .val (.ref b2), .unset] [])) tz
        refine XS.iload X2.here hx rfl (hb hby at_82) rfl ?_
        show Steps p.tables e below (T2.setTop (mkF m 84 #[.val (.int p0), .val (.int p1), .val (.int p2), .val (.int (0 : Int32)), .val (.ref w5), .val (.int len), .val (.ref b2), .unset] [(.int len)])) tz
        refine XS.bipush X2.here hx rfl (hb hby at_84) ?_
        show Steps p.tables e below (T2.setTop (mkF m 86 #[.val (.int p0), .val (.int p1), .val (.int p2), .val (.int (0 : Int32)), .val (.ref w5), .val (.int len), .val (.ref b2), .unset] [(.int (64 : Int32)), (.int len)])) tz
        by_cases hm12 : len = (64 : Int32)
        · refine XS.icmpNo X2.here hx rfl (hb hby at_86) rfl (teq hm12).2 ?_
          show Steps p.tables e below (T2.setTop (mkF m 89 #[.val (.int p0), .val (.int p1), .val (.int p2), .val (.int (0 : Int32)), .val (.ref w5), .val (.int len), .val (.ref b2), .unset] [])) tz
          refine XS.iconst X2.here hx rfl (hb hby at_89) ?_
          show Steps p.tables e below (T2.setTop (mkF m 90 #[.val (.int p0), .val (.int p1), .val (.int p2), .val (.int (0 : Int32)), .val (.ref w5), .val (.int len), .val (.ref b2), .unset] [(.int (1 : Int32))])) tz
          refine XS.goto X2.here hx rfl (pc0 := 90) (pc' := 94) rfl (hb hby at_90) (by decide) (by decide) ?_
          show Steps p.tables e below (T2.setTop (mkF m 94 #[.val (.int p0), .val (.int p1), .val (.int p2), .val (.int (0 : Int32)), .val (.ref w5), .val (.int len), .val (.ref b2), .unset] [(.int (1 : Int32))])) tz
          rw [if_pos hm12] at hmv13
          rw [hmv13] at kz
          exact kz
        · refine XS.icmpYes X2.here hx rfl (pc0 := 86) (pc' := 93) rfl (hb hby at_86) rfl (feq hm12).2 (by decide) (by decide) ?_
          show Steps p.tables e below (T2.setTop (mkF m 93 #[.val (.int p0), .val (.int p1), .val (.int p2), .val (.int (0 : Int32)), .val (.ref w5), .val (.int len), .val (.ref b2), .unset] [])) tz
          refine XS.iconst X2.here hx rfl (hb hby at_93) ?_
          show Steps p.tables e below (T2.setTop (mkF m 94 #[.val (.int p0), .val (.int p1), .val (.int p2), .val (.int (0 : Int32)), .val (.ref w5), .val (.int len), .val (.ref b2), .unset] [(.int (0 : Int32))])) tz
          rw [if_neg hm12] at hmv13
          rw [hmv13] at kz
          exact kz
      rw [hmv13]
      refine own_on (B := T2.setTop (mkF m 100 #[.val (.int p0), .val (.int p1), .val (.int p2), .val (.int (0 : Int32)), .val (.ref w5), .val (.int len), .val (.ref b2), .val (.int (if len = (64 : Int32) then (1 : Int32) else (0 : Int32)))] [(.ref b2), (.ref w5)])) (fun tz kz => ?_) ?_
      · show Steps p.tables e below (T2.setTop (mkF m 94 #[.val (.int p0), .val (.int p1), .val (.int p2), .val (.int (0 : Int32)), .val (.ref w5), .val (.int len), .val (.ref b2), .unset] [(.int (if len = (64 : Int32) then (1 : Int32) else (0 : Int32)))])) tz
        refine XS.istore X2.here hx rfl (hb hby at_94) rfl (l' := #[.val (.int p0), .val (.int p1), .val (.int p2), .val (.int (0 : Int32)), .val (.ref w5), .val (.int len), .val (.ref b2), .val (.int (if len = (64 : Int32) then (1 : Int32) else (0 : Int32)))]) rfl ?_
        show Steps p.tables e below (T2.setTop (mkF m 96 #[.val (.int p0), .val (.int p1), .val (.int p2), .val (.int (0 : Int32)), .val (.ref w5), .val (.int len), .val (.ref b2), .val (.int (if len = (64 : Int32) then (1 : Int32) else (0 : Int32)))] [])) tz
        refine XS.aload X2.here hx rfl (hb hby at_96) rfl rfl ?_
        show Steps p.tables e below (T2.setTop (mkF m 98 #[.val (.int p0), .val (.int p1), .val (.int p2), .val (.int (0 : Int32)), .val (.ref w5), .val (.int len), .val (.ref b2), .val (.int (if len = (64 : Int32) then (1 : Int32) else (0 : Int32)))] [(.ref w5)])) tz
        refine XS.aload X2.here hx rfl (hb hby at_98) rfl rfl ?_
        exact kz
      obtain ⟨cq14, kq14, q14a, q14b, q14c⟩ := isOf hZ e2 (E_ED25519.ext O3.2)
      obtain ⟨_, _, ⟨T14, L14, k14, n14⟩, -, X14, ⟨Lc14, hQ14, l14, y14, z14⟩, st14⟩ := X2.virtualBack hx (y := (⟨"com/example/firm_gate/firmgate/OkpCurve", "isSignatureForm", "([B)Z"⟩ : MethodName)) (z := (⟨"com/example/firm_gate/firmgate/OkpCurve", "isSignatureForm", "([B)Z"⟩ : MethodName)) hown (mvT hZ (hw _ (List.mem_of_getElem? (i := 4) rfl))) (mvT hZ (hw _ (List.mem_of_getElem? (i := 5) rfl))) (notFace_of_selects (args := #[]) (mvT hZ (hw _ (List.mem_of_getElem? (i := 7) rfl)))) (mvT hZ (hw _ (List.mem_of_getElem? (i := 7) rfl))) (mvT hZ (hw _ (List.mem_of_getElem? (i := 6) rfl))) (by decide) (backOf (W := 0) (rm1 l Z a0 hw [] w5 b2 32 64 len h2 n0 O3 F_ED25519 V4 rfl) hZ (hw _ (List.mem_of_getElem? (i := 8) rfl)) (hw _ (List.mem_of_getElem? (i := 1) rfl)) (by decide) (by decide)) q14a q14c (g := (mkF m 100 #[.val (.int p0), .val (.int p1), .val (.int p2), .val (.int (0 : Int32)), .val (.ref w5), .val (.int len), .val (.ref b2), .val (.int (if len = (64 : Int32) then (1 : Int32) else (0 : Int32)))] [(.ref b2), (.ref w5)])) rfl (by rw [hml]; rfl) (Steps.refl _) (argsL := [(.ref b2)]) (rest := []) (lenOf own_pd0 rfl) rfl (by show 2 * 0 + _ ≤ _; exact Nat.le_of_eq rfl) (hb hby at_100) (fun _ _ => ⟨rfl, e2, (by decide : 1 + 0 ≤ _), (by decide : 255 + 0 ≤ _)⟩)
      dsimp only [Pt.U, Pt.locs, Pt.cells, Pt.slots] at X14 l14 y14 z14 st14 hQ14
      subst l14 y14 z14
      obtain ⟨rfl, Nq14, e14⟩ := hQ14
      have N14 := Fr.app N0 Nq14
      refine own_on (B := T14.setTop (mkF m 103 #[.val (.int p0), .val (.int p1), .val (.int p2), .val (.int (0 : Int32)), .val (.ref w5), .val (.int len), .val (.ref b2), .val (.int (if len = (64 : Int32) then (1 : Int32) else (0 : Int32)))] [(.int (if len = (64 : Int32) then (1 : Int32) else (0 : Int32)))])) (fun tz kz => st14.trans kz) ?_
      refine own_on (B := T14.setTop (mkF m 113 #[.val (.int p0), .val (.int p1), .val (.int p2), .val (.int (0 : Int32)), .val (.ref w5), .val (.int len), .val (.ref b2), .val (.int (if len = (64 : Int32) then (1 : Int32) else (0 : Int32)))] [(.int (1 : Int32))])) (fun tz kz => ?_) ?_
      · show Steps p.tables e below (T14.setTop (mkF m 103 #[.val (.int p0), .val (.int p1), .val (.int p2), .val (.int (0 : Int32)), .val (.ref w5), .val (.int len), .val (.ref b2), .val (.int (if len = (64 : Int32) then (1 : Int32) else (0 : Int32)))] [(.int (if len = (64 : Int32) then (1 : Int32) else (0 : Int32)))])) tz
        refine XS.iload X14.here hx rfl (hb hby at_103) rfl ?_
        show Steps p.tables e below (T14.setTop (mkF m 105 #[.val (.int p0), .val (.int p1), .val (.int p2), .val (.int (0 : Int32)), .val (.ref w5), .val (.int len), .val (.ref b2), .val (.int (if len = (64 : Int32) then (1 : Int32) else (0 : Int32)))] [(.int (if len = (64 : Int32) then (1 : Int32) else (0 : Int32))), (.int (if len = (64 : Int32) then (1 : Int32) else (0 : Int32)))])) tz
        refine XS.icmpNo X14.here hx rfl (hb hby at_105) rfl (teq rfl).2 ?_
        show Steps p.tables e below (T14.setTop (mkF m 108 #[.val (.int p0), .val (.int p1), .val (.int p2), .val (.int (0 : Int32)), .val (.ref w5), .val (.int len), .val (.ref b2), .val (.int (if len = (64 : Int32) then (1 : Int32) else (0 : Int32)))] [])) tz
        refine XS.iconst X14.here hx rfl (hb hby at_108) ?_
        show Steps p.tables e below (T14.setTop (mkF m 109 #[.val (.int p0), .val (.int p1), .val (.int p2), .val (.int (0 : Int32)), .val (.ref w5), .val (.int len), .val (.ref b2), .val (.int (if len = (64 : Int32) then (1 : Int32) else (0 : Int32)))] [(.int (1 : Int32))])) tz
        refine XS.goto X14.here hx rfl (pc0 := 109) (pc' := 113) rfl (hb hby at_109) (by decide) (by decide) ?_
        exact kz
      obtain ⟨fs, hr, hrun, hended, hW, hsame⟩ := X14.leave (v := some (.int (1 : Int32))) (fun h => by rw [Bd.returns] at h; cases h)
      refine own_of ⟨_, _, ?_, hrun, hended, _, _, rfl, ?_, ⟨_, rfl⟩, hW, hsame.mono (by decide) (by decide)⟩
      · show Steps p.tables e below (T14.setTop (mkF m 113 #[.val (.int p0), .val (.int p1), .val (.int p2), .val (.int (0 : Int32)), .val (.ref w5), .val (.int len), .val (.ref b2), .val (.int (if len = (64 : Int32) then (1 : Int32) else (0 : Int32)))] [(.int (1 : Int32))])) _
        exact own_retN X14 hx (t := .boolean) Bd.returns (by simp) (by first | rfl | (split <;> first | rfl | (split <;> first | rfl | (split <;> rfl)))) (hb hby at_113) hr
      · show Q0 Z p0 p1 p2 w5 w4 h0 n0 _ T14.heap _
        rw [e14]
        exact ⟨rfl, N14⟩
  · refine own_on (B := s₁.setTop (mkF m 16 #[.val (.int p0), .val (.int p1), .val (.int p2), .val (.int (1 : Int32)), .unset, .unset, .unset, .unset] [])) (fun tz kz => ?_) ?_
    · show Steps p.tables e below (s₁.setTop (mkF m 3 #[.val (.int p0), .val (.int p1), .val (.int p2), .unset, .unset, .unset, .unset, .unset] [(.int (p0 &&& (1 : Int32)))])) tz
      refine XS.ifNo X0.here hx rfl (hb hby at_3) rfl ((if0 _ _).trans (feq hw0).1) ?_
      show Steps p.tables e below (s₁.setTop (mkF m 6 #[.val (.int p0), .val (.int p1), .val (.int p2), .unset, .unset, .unset, .unset, .unset] [])) tz
      refine XS.iconst X0.here hx rfl (hb hby at_6) ?_
      show Steps p.tables e below (s₁.setTop (mkF m 7 #[.val (.int p0), .val (.int p1), .val (.int p2), .unset, .unset, .unset, .unset, .unset] [(.int (1 : Int32))])) tz
      refine XS.goto X0.here hx rfl (pc0 := 7) (pc' := 11) rfl (hb hby at_7) (by decide) (by decide) ?_
      show Steps p.tables e below (s₁.setTop (mkF m 11 #[.val (.int p0), .val (.int p1), .val (.int p2), .unset, .unset, .unset, .unset, .unset] [(.int (1 : Int32))])) tz
      refine XS.istoreN X0.here hx rfl (hb hby at_11) rfl (l' := #[.val (.int p0), .val (.int p1), .val (.int p2), .val (.int (1 : Int32)), .unset, .unset, .unset, .unset]) rfl ?_
      show Steps p.tables e below (s₁.setTop (mkF m 12 #[.val (.int p0), .val (.int p1), .val (.int p2), .val (.int (1 : Int32)), .unset, .unset, .unset, .unset] [])) tz
      refine XS.iloadN X0.here hx rfl (hb hby at_12) rfl ?_
      show Steps p.tables e below (s₁.setTop (mkF m 13 #[.val (.int p0), .val (.int p1), .val (.int p2), .val (.int (1 : Int32)), .unset, .unset, .unset, .unset] [(.int (1 : Int32))])) tz
      refine XS.ifNo X0.here hx rfl (hb hby at_13) rfl ((if0 _ _).trans (feq (by decide : ¬ ((1 : Int32) = (0 : Int32)))).1) ?_
      exact kz
    obtain ⟨T15, X15, e15, st15⟩ := getS2 X0 hx hZ hown (host := "") (Or.inl (hw _ (List.mem_of_getElem? (i := 11) rfl))) Via.refl e0 (S_ED448.ext O0.2) (g := (mkF m 16 #[.val (.int p0), .val (.int p1), .val (.int p2), .val (.int (1 : Int32)), .unset, .unset, .unset, .unset] [])) rfl (hb hby at_16)
    refine own_on (B := T15.setTop (mkF m 19 #[.val (.int p0), .val (.int p1), .val (.int p2), .val (.int (1 : Int32)), .unset, .unset, .unset, .unset] [(.ref w4)])) (fun tz kz => st15 _ kz) ?_
    refine own_on (B := T15.setTop (mkF m 36 #[.val (.int p0), .val (.int p1), .val (.int p2), .val (.int (1 : Int32)), .val (.ref w4), .val (.int (p1 &&& (255 : Int32))), .unset, .unset] [(.int (p1 &&& (255 : Int32)))])) (fun tz kz => ?_) ?_
    · show Steps p.tables e below (T15.setTop (mkF m 19 #[.val (.int p0), .val (.int p1), .val (.int p2), .val (.int (1 : Int32)), .unset, .unset, .unset, .unset] [(.ref w4)])) tz
      refine XS.goto X15.here hx rfl (pc0 := 19) (pc' := 25) rfl (hb hby at_19) (by decide) (by decide) ?_
      show Steps p.tables e below (T15.setTop (mkF m 25 #[.val (.int p0), .val (.int p1), .val (.int p2), .val (.int (1 : Int32)), .unset, .unset, .unset, .unset] [(.ref w4)])) tz
      refine XS.astore X15.here hx rfl (hb hby at_25) rfl rfl (l' := #[.val (.int p0), .val (.int p1), .val (.int p2), .val (.int (1 : Int32)), .val (.ref w4), .unset, .unset, .unset]) rfl ?_
      show Steps p.tables e below (T15.setTop (mkF m 27 #[.val (.int p0), .val (.int p1), .val (.int p2), .val (.int (1 : Int32)), .val (.ref w4), .unset, .unset, .unset] [])) tz
      refine XS.iloadN X15.here hx rfl (hb hby at_27) rfl ?_
      show Steps p.tables e below (T15.setTop (mkF m 28 #[.val (.int p0), .val (.int p1), .val (.int p2), .val (.int (1 : Int32)), .val (.ref w4), .unset, .unset, .unset] [(.int p1)])) tz
      refine XS.sipush X15.here hx rfl (hb hby at_28) ?_
      show Steps p.tables e below (T15.setTop (mkF m 31 #[.val (.int p0), .val (.int p1), .val (.int p2), .val (.int (1 : Int32)), .val (.ref w4), .unset, .unset, .unset] [(.int (255 : Int32)), (.int p1)])) tz
      refine XS.iand X15.here hx rfl (hb hby at_31) rfl ?_
      show Steps p.tables e below (T15.setTop (mkF m 32 #[.val (.int p0), .val (.int p1), .val (.int p2), .val (.int (1 : Int32)), .val (.ref w4), .unset, .unset, .unset] [(.int (p1 &&& (255 : Int32)))])) tz
      refine XS.istore X15.here hx rfl (hb hby at_32) rfl (l' := #[.val (.int p0), .val (.int p1), .val (.int p2), .val (.int (1 : Int32)), .val (.ref w4), .val (.int (p1 &&& (255 : Int32))), .unset, .unset]) rfl ?_
      show Steps p.tables e below (T15.setTop (mkF m 34 #[.val (.int p0), .val (.int p1), .val (.int p2), .val (.int (1 : Int32)), .val (.ref w4), .val (.int (p1 &&& (255 : Int32))), .unset, .unset] [])) tz
      refine XS.iload X15.here hx rfl (hb hby at_34) rfl ?_
      exact kz
    generalize hv_len : (p1 &&& (255 : Int32)) = len
    obtain ⟨hneg, hcap⟩ := own_len _ _ hv_len
    obtain ⟨T16, h16, k16, X16, e16, E16, A16, st16⟩ := newP X15 hx hZ (hw _ (List.mem_of_getElem? (i := 3) rfl)) e15 (g := (mkF m 36 #[.val (.int p0), .val (.int p1), .val (.int p2), .val (.int (1 : Int32)), .val (.ref w4), .val (.int len), .unset, .unset] [(.int len)])) rfl (hb hby at_36) rfl hneg (cap := 255) hcap (by decide) (by decide) (by decide)
    obtain ⟨b16, g16⟩ : ∃ z, z = h0.size := ⟨_, rfl⟩
    rw [← g16] at A16 st16
    have g_b16 : n0 ≤ b16 := Nat.le_trans (own_old O0) (Nat.le_of_eq g16.symm)
    have sz_b16 : h0.size ≤ b16 := Nat.le_trans (Keep.refl h0 []).1 (Nat.le_of_eq g16.symm)
    have O17 := O0.ext E16
    have K17 : Keep h0 h16 [] := (Keep.refl h0 []).ext E16
    have V16 : Arv Z h16 b16 k16 .byte len [] (.int (0 : Int32)) := Arv.new A16 hneg
    refine own_on (B := T16.setTop (mkF m 38 #[.val (.int p0), .val (.int p1), .val (.int p2), .val (.int (1 : Int32)), .val (.ref w4), .val (.int len), .unset, .unset] [(.ref b16)])) (fun tz kz => st16 _ kz) ?_
    have V18 := OwnArz.of V16
    refine own_on (B := T16.setTop (mkF m 42 #[.val (.int p0), .val (.int p1), .val (.int p2), .val (.int (1 : Int32)), .val (.ref w4), .val (.int len), .val (.ref b16), .unset] [(.int len)])) (fun tz kz => ?_) ?_
    · show Steps p.tables e below (T16.setTop (mkF m 38 #[.val (.int p0), .val (.int p1), .val (.int p2), .val (.int (1 : Int32)), .val (.ref w4), .val (.int len), .unset, .unset] [(.ref b16)])) tz
      refine XS.astore X16.here hx rfl (hb hby at_38) rfl rfl (l' := #[.val (.int p0), .val (.int p1), .val (.int p2), .val (.int (1 : Int32)), .val (.ref w4), .val (.int len), .val (.ref b16), .unset]) rfl ?_
      show Steps p.tables e below (T16.setTop (mkF m 40 #[.val (.int p0), .val (.int p1), .val (.int p2), .val (.int (1 : Int32)), .val (.ref w4), .val (.int len), .val (.ref b16), .unset] [])) tz
      refine XS.iload X16.here hx rfl (hb hby at_40) rfl ?_
      exact kz
    by_cases hpos : (0 : Int32) < len
    · refine own_on (B := T16.setTop (mkF m 50 #[.val (.int p0), .val (.int p1), .val (.int p2), .val (.int (1 : Int32)), .val (.ref w4), .val (.int len), .val (.ref b16), .unset] [(.int (p2.toInt8.toInt32)), (.int (0 : Int32)), (.ref b16)])) (fun tz kz => ?_) ?_
      · show Steps p.tables e below (T16.setTop (mkF m 42 #[.val (.int p0), .val (.int p1), .val (.int p2), .val (.int (1 : Int32)), .val (.ref w4), .val (.int len), .val (.ref b16), .unset] [(.int len)])) tz
        refine XS.ifNo X16.here hx rfl (hb hby at_42) rfl ((if0 _ _).trans (tlt hpos).2.2.2) ?_
        show Steps p.tables e below (T16.setTop (mkF m 45 #[.val (.int p0), .val (.int p1), .val (.int p2), .val (.int (1 : Int32)), .val (.ref w4), .val (.int len), .val (.ref b16), .unset] [])) tz
        refine XS.aload X16.here hx rfl (hb hby at_45) rfl rfl ?_
        show Steps p.tables e below (T16.setTop (mkF m 47 #[.val (.int p0), .val (.int p1), .val (.int p2), .val (.int (1 : Int32)), .val (.ref w4), .val (.int len), .val (.ref b16), .unset] [(.ref b16)])) tz
        refine XS.iconst X16.here hx rfl (hb hby at_47) ?_
        show Steps p.tables e below (T16.setTop (mkF m 48 #[.val (.int p0), .val (.int p1), .val (.int p2), .val (.int (1 : Int32)), .val (.ref w4), .val (.int len), .val (.ref b16), .unset] [(.int (0 : Int32)), (.ref b16)])) tz
        refine XS.iloadN X16.here hx rfl (hb hby at_48) rfl ?_
        show Steps p.tables e below (T16.setTop (mkF m 49 #[.val (.int p0), .val (.int p1), .val (.int p2), .val (.int (1 : Int32)), .val (.ref w4), .val (.int len), .val (.ref b16), .unset] [(.int p2), (.int (0 : Int32)), (.ref b16)])) tz
        refine XS.i2b X16.here hx rfl (hb hby at_49) rfl ?_
        exact kz
      obtain ⟨cl19, Ar19, S19, M19⟩ := id V18
      have hin19 : ¬ ((0 : Int32) < 0 ∨ cl19.slots.size ≤ ((0 : Int32)).toNatClampNeg) := inb_of S19 ⟨by decide, hpos⟩
      obtain ⟨T19, h19, X19, e19, W19, st19⟩ := stB X16 hx hZ e16 Ar19 (j := (0 : Int32)) hin19 (g := (mkF m 50 #[.val (.int p0), .val (.int p1), .val (.int p2), .val (.int (1 : Int32)), .val (.ref w4), .val (.int len), .val (.ref b16), .unset] [(.int (p2.toInt8.toInt32)), (.int (0 : Int32)), (.ref b16)])) rfl rfl (hb hby at_50)
      have V19 := OwnArz.set Ar19 S19 M19 W19
      have N19 := Fr.snoc X19 N0 g_b16
      have O20 := O17.wr W19 g_b16
      have K20 : Keep h0 h19 [] := K17.wr W19 (Or.inr sz_b16)
      refine own_on (B := T19.setTop (mkF m 51 #[.val (.int p0), .val (.int p1), .val (.int p2), .val (.int (1 : Int32)), .val (.ref w4), .val (.int len), .val (.ref b16), .unset] [])) (fun tz kz => st19 _ kz) ?_
      refine own_on (B := T19.setTop (mkF m 62 #[.val (.int p0), .val (.int p1), .val (.int p2), .val (.int (1 : Int32)), .val (.ref w4), .val (.int len), .val (.ref b16), .unset] [(.int ((p2 >>> ((8 : Int32) &&& 31)).toInt8.toInt32)), (.int (len - (1 : Int32))), (.ref b16)])) (fun tz kz => ?_) ?_
      · show Steps p.tables e below (T19.setTop (mkF m 51 #[.val (.int p0), .val (.int p1), .val (.int p2), .val (.int (1 : Int32)), .val (.ref w4), .val (.int len), .val (.ref b16), .unset] [])) tz
        refine XS.aload X19.here hx rfl (hb hby at_51) rfl rfl ?_
        show Steps p.tables e below (T19.setTop (mkF m 53 #[.val (.int p0), .val (.int p1), .val (.int p2), .val (.int (1 : Int32)), .val (.ref w4), .val (.int len), .val (.ref b16), .unset] [(.ref b16)])) tz
        refine XS.iload X19.here hx rfl (hb hby at_53) rfl ?_
        show Steps p.tables e below (T19.setTop (mkF m 55 #[.val (.int p0), .val (.int p1), .val (.int p2), .val (.int (1 : Int32)), .val (.ref w4), .val (.int len), .val (.ref b16), .unset] [(.int len), (.ref b16)])) tz
        refine XS.iconst X19.here hx rfl (hb hby at_55) ?_
        show Steps p.tables e below (T19.setTop (mkF m 56 #[.val (.int p0), .val (.int p1), .val (.int p2), .val (.int (1 : Int32)), .val (.ref w4), .val (.int len), .val (.ref b16), .unset] [(.int (1 : Int32)), (.int len), (.ref b16)])) tz
        refine XS.isub X19.here hx rfl (hb hby at_56) rfl ?_
        show Steps p.tables e below (T19.setTop (mkF m 57 #[.val (.int p0), .val (.int p1), .val (.int p2), .val (.int (1 : Int32)), .val (.ref w4), .val (.int len), .val (.ref b16), .unset] [(.int (len - (1 : Int32))), (.ref b16)])) tz
        refine XS.iloadN X19.here hx rfl (hb hby at_57) rfl ?_
        show Steps p.tables e below (T19.setTop (mkF m 58 #[.val (.int p0), .val (.int p1), .val (.int p2), .val (.int (1 : Int32)), .val (.ref w4), .val (.int len), .val (.ref b16), .unset] [(.int p2), (.int (len - (1 : Int32))), (.ref b16)])) tz
        refine XS.bipush X19.here hx rfl (hb hby at_58) ?_
        show Steps p.tables e below (T19.setTop (mkF m 60 #[.val (.int p0), .val (.int p1), .val (.int p2), .val (.int (1 : Int32)), .val (.ref w4), .val (.int len), .val (.ref b16), .unset] [(.int (8 : Int32)), (.int p2), (.int (len - (1 : Int32))), (.ref b16)])) tz
        refine XS.ishr X19.here hx rfl (hb hby at_60) rfl ?_
        show Steps p.tables e below (T19.setTop (mkF m 61 #[.val (.int p0), .val (.int p1), .val (.int p2), .val (.int (1 : Int32)), .val (.ref w4), .val (.int len), .val (.ref b16), .unset] [(.int (p2 >>> ((8 : Int32) &&& 31))), (.int (len - (1 : Int32))), (.ref b16)])) tz
        refine XS.i2b X19.here hx rfl (hb hby at_61) rfl ?_
        exact kz
      obtain ⟨cl21, Ar21, S21, M21⟩ := id V19
      have hin21 : ¬ ((len - (1 : Int32)) < 0 ∨ cl21.slots.size ≤ ((len - (1 : Int32))).toNatClampNeg) := inb_of S21 (own_last _ hpos)
      obtain ⟨T21, h21, X21, e21, W21, st21⟩ := stB X19 hx hZ e19 Ar21 (j := (len - (1 : Int32))) hin21 (g := (mkF m 62 #[.val (.int p0), .val (.int p1), .val (.int p2), .val (.int (1 : Int32)), .val (.ref w4), .val (.int len), .val (.ref b16), .unset] [(.int ((p2 >>> ((8 : Int32) &&& 31)).toInt8.toInt32)), (.int (len - (1 : Int32))), (.ref b16)])) rfl rfl (hb hby at_62)
      have V21 := OwnArz.set Ar21 S21 M21 W21
      have N21 := Fr.snoc X21 N19 g_b16
      have O22 := O20.wr W21 g_b16
      have K22 : Keep h0 h21 [] := K20.wr W21 (Or.inr sz_b16)
      refine own_on (B := T21.setTop (mkF m 63 #[.val (.int p0), .val (.int p1), .val (.int p2), .val (.int (1 : Int32)), .val (.ref w4), .val (.int len), .val (.ref b16), .unset] [])) (fun tz kz => st21 _ kz) ?_
      refine own_on (B := T21.setTop (mkF m 67 #[.val (.int p0), .val (.int p1), .val (.int p2), .val (.int (1 : Int32)), .val (.ref w4), .val (.int len), .val (.ref b16), .unset] [])) (fun tz kz => ?_) ?_
      · show Steps p.tables e below (T21.setTop (mkF m 63 #[.val (.int p0), .val (.int p1), .val (.int p2), .val (.int (1 : Int32)), .val (.ref w4), .val (.int len), .val (.ref b16), .unset] [])) tz
        refine XS.iloadN X21.here hx rfl (hb hby at_63) rfl ?_
        show Steps p.tables e below (T21.setTop (mkF m 64 #[.val (.int p0), .val (.int p1), .val (.int p2), .val (.int (1 : Int32)), .val (.ref w4), .val (.int len), .val (.ref b16), .unset] [(.int (1 : Int32))])) tz
        refine XS.ifNo X21.here hx rfl (hb hby at_64) rfl ((if0 _ _).trans (feq (by decide : ¬ ((1 : Int32) = (0 : Int32)))).1) ?_
        exact kz
      obtain ⟨mv24, hmv24⟩ : ∃ z, z = (if len = (114 : Int32) then (1 : Int32) else (0 : Int32)) := ⟨_, rfl⟩
      refine own_on (B := T21.setTop (mkF m 94 #[.val (.int p0), .val (.int p1), .val (.int p2), .val (.int (1 : Int32)), .val (.ref w4), .val (.int len), .val (.ref b16), .unset] [(.int mv24)])) (fun tz kz => ?_) ?_
      · show Steps p.tables e below (T21.setTop (mkF m 67 #[.val (.int p0), .val (.int p1), .val (.int p2), .val (.int (1 : Int32)), .val (.ref w4), .val (.int len), .val (.ref b16), .unset] [])) tz
        refine XS.iload X21.here hx rfl (hb hby at_67) rfl ?_
        show Steps p.tables e below (T21.setTop (mkF m 69 #[.val (.int p0), .val (.int p1), .val (.int p2), .val (.int (1 : Int32)), .val (.ref w4), .val (.int len), .val (.ref b16), .unset] [(.int len)])) tz
        refine XS.bipush X21.here hx rfl (hb hby at_69) ?_
        show Steps p.tables e below (T21.setTop (mkF m 71 #[.val (.int p0), .val (.int p1), .val (.int p2), .val (.int (1 : Int32)), .val (.ref w4), .val (.int len), .val (.ref b16), .unset] [(.int (114 : Int32)), (.int len)])) tz
        by_cases hm23 : len = (114 : Int32)
        · refine XS.icmpNo X21.here hx rfl (hb hby at_71) rfl (teq hm23).2 ?_
          show Steps p.tables e below (T21.setTop (mkF m 74 #[.val (.int p0), .val (.int p1), .val (.int p2), .val (.int (1 : Int32)), .val (.ref w4), .val (.int len), .val (.ref b16), .unset] [])) tz
          refine XS.iconst X21.here hx rfl (hb hby at_74) ?_
          show Steps p.tables e below (T21.setTop (mkF m 75 #[.val (.int p0), .val (.int p1), .val (.int p2), .val (.int (1 : Int32)), .val (.ref w4), .val (.int len), .val (.ref b16), .unset] [(.int (1 : Int32))])) tz
          refine XS.goto X21.here hx rfl (pc0 := 75) (pc' := 94) rfl (hb hby at_75) (by decide) (by decide) ?_
          show Steps p.tables e below (T21.setTop (mkF m 94 #[.val (.int p0), .val (.int p1), .val (.int p2), .val (.int (1 : Int32)), .val (.ref w4), .val (.int len), .val (.ref b16), .unset] [(.int (1 : Int32))])) tz
          rw [if_pos hm23] at hmv24
          rw [hmv24] at kz
          exact kz
        · refine XS.icmpYes X21.here hx rfl (pc0 := 71) (pc' := 78) rfl (hb hby at_71) rfl (feq hm23).2 (by decide) (by decide) ?_
          show Steps p.tables e below (T21.setTop (mkF m 78 #[.val (.int p0), .val (.int p1), .val (.int p2), .val (.int (1 : Int32)), .val (.ref w4), .val (.int len), .val (.ref b16), .unset] [])) tz
          refine XS.iconst X21.here hx rfl (hb hby at_78) ?_
          show Steps p.tables e below (T21.setTop (mkF m 79 #[.val (.int p0), .val (.int p1), .val (.int p2), .val (.int (1 : Int32)), .val (.ref w4), .val (.int len), .val (.ref b16), .unset] [(.int (0 : Int32))])) tz
          refine XS.goto X21.here hx rfl (pc0 := 79) (pc' := 94) rfl (hb hby at_79) (by decide) (by decide) ?_
          show Steps p.tables e below (T21.setTop (mkF m 94 #[.val (.int p0), .val (.int p1), .val (.int p2), .val (.int (1 : Int32)), .val (.ref w4), .val (.int len), .val (.ref b16), .unset] [(.int (0 : Int32))])) tz
          rw [if_neg hm23] at hmv24
          rw [hmv24] at kz
          exact kz
      rw [hmv24]
      refine own_on (B := T21.setTop (mkF m 100 #[.val (.int p0), .val (.int p1), .val (.int p2), .val (.int (1 : Int32)), .val (.ref w4), .val (.int len), .val (.ref b16), .val (.int (if len = (114 : Int32) then (1 : Int32) else (0 : Int32)))] [(.ref b16), (.ref w4)])) (fun tz kz => ?_) ?_
      · show Steps p.tables e below (T21.setTop (mkF m 94 #[.val (.int p0), .val (.int p1), .val (.int p2), .val (.int (1 : Int32)), .val (.ref w4), .val (.int len), .val (.ref b16), .unset] [(.int (if len = (114 : Int32) then (1 : Int32) else (0 : Int32)))])) tz
        refine XS.istore X21.here hx rfl (hb hby at_94) rfl (l' := #[.val (.int p0), .val (.int p1), .val (.int p2), .val (.int (1 : Int32)), .val (.ref w4), .val (.int len), .val (.ref b16), .val (.int (if len = (114 : Int32) then (1 : Int32) else (0 : Int32)))]) rfl ?_
        show Steps p.tables e below (T21.setTop (mkF m 96 #[.val (.int p0), .val (.int p1), .val (.int p2), .val (.int (1 : Int32)), .val (.ref w4), .val (.int len), .val (.ref b16), .val (.int (if len = (114 : Int32) then (1 : Int32) else (0 : Int32)))] [])) tz
        refine XS.aload X21.here hx rfl (hb hby at_96) rfl rfl ?_
        show Steps p.tables e below (T21.setTop (mkF m 98 #[.val (.int p0), .val (.int p1), .val (.int p2), .val (.int (1 : Int32)), .val (.ref w4), .val (.int len), .val (.ref b16), .val (.int (if len = (114 : Int32) then (1 : Int32) else (0 : Int32)))] [(.ref w4)])) tz
        refine XS.aload X21.here hx rfl (hb hby at_98) rfl rfl ?_
        exact kz
      obtain ⟨cq25, kq25, q25a, q25b, q25c⟩ := isOf hZ e21 (E_ED448.ext O22.2)
      obtain ⟨_, _, ⟨T25, L25, k25, n25⟩, -, X25, ⟨Lc25, hQ25, l25, y25, z25⟩, st25⟩ := X21.virtualBack hx (y := (⟨"com/example/firm_gate/firmgate/OkpCurve", "isSignatureForm", "([B)Z"⟩ : MethodName)) (z := (⟨"com/example/firm_gate/firmgate/OkpCurve", "isSignatureForm", "([B)Z"⟩ : MethodName)) hown (mvT hZ (hw _ (List.mem_of_getElem? (i := 4) rfl))) (mvT hZ (hw _ (List.mem_of_getElem? (i := 5) rfl))) (notFace_of_selects (args := #[]) (mvT hZ (hw _ (List.mem_of_getElem? (i := 7) rfl)))) (mvT hZ (hw _ (List.mem_of_getElem? (i := 7) rfl))) (mvT hZ (hw _ (List.mem_of_getElem? (i := 6) rfl))) (by decide) (backOf (W := 0) (rm1 l Z a0 hw [] w4 b16 57 114 len h21 n0 O22 F_ED448 V21 rfl) hZ (hw _ (List.mem_of_getElem? (i := 8) rfl)) (hw _ (List.mem_of_getElem? (i := 1) rfl)) (by decide) (by decide)) q25a q25c (g := (mkF m 100 #[.val (.int p0), .val (.int p1), .val (.int p2), .val (.int (1 : Int32)), .val (.ref w4), .val (.int len), .val (.ref b16), .val (.int (if len = (114 : Int32) then (1 : Int32) else (0 : Int32)))] [(.ref b16), (.ref w4)])) rfl (by rw [hml]; rfl) (Steps.refl _) (argsL := [(.ref b16)]) (rest := []) (lenOf own_pd0 rfl) rfl (by show 2 * 0 + _ ≤ _; exact Nat.le_of_eq rfl) (hb hby at_100) (fun _ _ => ⟨rfl, e21, (by decide : 1 + 0 ≤ _), (by decide : 255 + 0 ≤ _)⟩)
      dsimp only [Pt.U, Pt.locs, Pt.cells, Pt.slots] at X25 l25 y25 z25 st25 hQ25
      subst l25 y25 z25
      obtain ⟨rfl, Nq25, e25⟩ := hQ25
      have N25 := Fr.app N21 Nq25
      refine own_on (B := T25.setTop (mkF m 103 #[.val (.int p0), .val (.int p1), .val (.int p2), .val (.int (1 : Int32)), .val (.ref w4), .val (.int len), .val (.ref b16), .val (.int (if len = (114 : Int32) then (1 : Int32) else (0 : Int32)))] [(.int (if len = (114 : Int32) then (1 : Int32) else (0 : Int32)))])) (fun tz kz => st25.trans kz) ?_
      refine own_on (B := T25.setTop (mkF m 113 #[.val (.int p0), .val (.int p1), .val (.int p2), .val (.int (1 : Int32)), .val (.ref w4), .val (.int len), .val (.ref b16), .val (.int (if len = (114 : Int32) then (1 : Int32) else (0 : Int32)))] [(.int (1 : Int32))])) (fun tz kz => ?_) ?_
      · show Steps p.tables e below (T25.setTop (mkF m 103 #[.val (.int p0), .val (.int p1), .val (.int p2), .val (.int (1 : Int32)), .val (.ref w4), .val (.int len), .val (.ref b16), .val (.int (if len = (114 : Int32) then (1 : Int32) else (0 : Int32)))] [(.int (if len = (114 : Int32) then (1 : Int32) else (0 : Int32)))])) tz
        refine XS.iload X25.here hx rfl (hb hby at_103) rfl ?_
        show Steps p.tables e below (T25.setTop (mkF m 105 #[.val (.int p0), .val (.int p1), .val (.int p2), .val (.int (1 : Int32)), .val (.ref w4), .val (.int len), .val (.ref b16), .val (.int (if len = (114 : Int32) then (1 : Int32) else (0 : Int32)))] [(.int (if len = (114 : Int32) then (1 : Int32) else (0 : Int32))), (.int (if len = (114 : Int32) then (1 : Int32) else (0 : Int32)))])) tz
        refine XS.icmpNo X25.here hx rfl (hb hby at_105) rfl (teq rfl).2 ?_
        show Steps p.tables e below (T25.setTop (mkF m 108 #[.val (.int p0), .val (.int p1), .val (.int p2), .val (.int (1 : Int32)), .val (.ref w4), .val (.int len), .val (.ref b16), .val (.int (if len = (114 : Int32) then (1 : Int32) else (0 : Int32)))] [])) tz
        refine XS.iconst X25.here hx rfl (hb hby at_108) ?_
        show Steps p.tables e below (T25.setTop (mkF m 109 #[.val (.int p0), .val (.int p1), .val (.int p2), .val (.int (1 : Int32)), .val (.ref w4), .val (.int len), .val (.ref b16), .val (.int (if len = (114 : Int32) then (1 : Int32) else (0 : Int32)))] [(.int (1 : Int32))])) tz
        refine XS.goto X25.here hx rfl (pc0 := 109) (pc' := 113) rfl (hb hby at_109) (by decide) (by decide) ?_
        exact kz
      obtain ⟨fs, hr, hrun, hended, hW, hsame⟩ := X25.leave (v := some (.int (1 : Int32))) (fun h => by rw [Bd.returns] at h; cases h)
      refine own_of ⟨_, _, ?_, hrun, hended, _, _, rfl, ?_, ⟨_, rfl⟩, hW, hsame.mono (by decide) (by decide)⟩
      · show Steps p.tables e below (T25.setTop (mkF m 113 #[.val (.int p0), .val (.int p1), .val (.int p2), .val (.int (1 : Int32)), .val (.ref w4), .val (.int len), .val (.ref b16), .val (.int (if len = (114 : Int32) then (1 : Int32) else (0 : Int32)))] [(.int (1 : Int32))])) _
        exact own_retN X25 hx (t := .boolean) Bd.returns (by simp) (by first | rfl | (split <;> first | rfl | (split <;> first | rfl | (split <;> rfl)))) (hb hby at_113) hr
      · show Q0 Z p0 p1 p2 w5 w4 h0 n0 _ T25.heap _
        rw [e25]
        exact ⟨rfl, N25⟩
    · refine own_on (B := T16.setTop (mkF m 67 #[.val (.int p0), .val (.int p1), .val (.int p2), .val (.int (1 : Int32)), .val (.ref w4), .val (.int len), .val (.ref b16), .unset] [])) (fun tz kz => ?_) ?_
      · show Steps p.tables e below (T16.setTop (mkF m 42 #[.val (.int p0), .val (.int p1), .val (.int p2), .val (.int (1 : Int32)), .val (.ref w4), .val (.int len), .val (.ref b16), .unset] [(.int len)])) tz
        refine XS.ifYes X16.here hx rfl (pc0 := 42) (pc' := 63) rfl (hb hby at_42) rfl ((if0 _ _).trans (flt hpos).2.2.2) (by decide) (by decide) ?_
        show Steps p.tables e below (T16.setTop (mkF m 63 #[.val (.int p0), .val (.int p1), .val (.int p2), .val (.int (1 : Int32)), .val (.ref w4), .val (.int len), .val (.ref b16), .unset] [])) tz
        refine XS.iloadN X16.here hx rfl (hb hby at_63) rfl ?_
        show Steps p.tables e below (T16.setTop (mkF m 64 #[.val (.int p0), .val (.int p1), .val (.int p2), .val (.int (1 : Int32)), .val (.ref w4), .val (.int len), .val (.ref b16), .unset] [(.int (1 : Int32))])) tz
        refine XS.ifNo X16.here hx rfl (hb hby at_64) rfl ((if0 _ _).trans (feq (by decide : ¬ ((1 : Int32) = (0 : Int32)))).1) ?_
        exact kz
      obtain ⟨mv27, hmv27⟩ : ∃ z, z = (if len = (114 : Int32) then (1 : Int32) else (0 : Int32)) := ⟨_, rfl⟩
      refine own_on (B := T16.setTop (mkF m 94 #[.val (.int p0), .val (.int p1), .val (.int p2), .val (.int (1 : Int32)), .val (.ref w4), .val (.int len), .val (.ref b16), .unset] [(.int mv27)])) (fun tz kz => ?_) ?_
      · show Steps p.tables e below (T16.setTop (mkF m 67 #[.val (.int p0), .val (.int p1), .val (.int p2), .val (.int (1 : Int32)), .val (.ref w4), .val (.int len), .val (.ref b16), .unset] [])) tz
        refine XS.iload X16.here hx rfl (hb hby at_67) rfl ?_
        show Steps p.tables e below (T16.setTop (mkF m 69 #[.val (.int p0), .val (.int p1), .val (.int p2), .val (.int (1 : Int32)), .val (.ref w4), .val (.int len), .val (.ref b16), .unset] [(.int len)])) tz
        refine XS.bipush X16.here hx rfl (hb hby at_69) ?_
        show Steps p.tables e below (T16.setTop (mkF m 71 #[.val (.int p0), .val (.int p1), .val (.int p2), .val (.int (1 : Int32)), .val (.ref w4), .val (.int len), .val (.ref b16), .unset] [(.int (114 : Int32)), (.int len)])) tz
        by_cases hm26 : len = (114 : Int32)
        · refine XS.icmpNo X16.here hx rfl (hb hby at_71) rfl (teq hm26).2 ?_
          show Steps p.tables e below (T16.setTop (mkF m 74 #[.val (.int p0), .val (.int p1), .val (.int p2), .val (.int (1 : Int32)), .val (.ref w4), .val (.int len), .val (.ref b16), .unset] [])) tz
          refine XS.iconst X16.here hx rfl (hb hby at_74) ?_
          show Steps p.tables e below (T16.setTop (mkF m 75 #[.val (.int p0), .val (.int p1), .val (.int p2), .val (.int (1 : Int32)), .val (.ref w4), .val (.int len), .val (.ref b16), .unset] [(.int (1 : Int32))])) tz
          refine XS.goto X16.here hx rfl (pc0 := 75) (pc' := 94) rfl (hb hby at_75) (by decide) (by decide) ?_
          show Steps p.tables e below (T16.setTop (mkF m 94 #[.val (.int p0), .val (.int p1), .val (.int p2), .val (.int (1 : Int32)), .val (.ref w4), .val (.int len), .val (.ref b16), .unset] [(.int (1 : Int32))])) tz
          rw [if_pos hm26] at hmv27
          rw [hmv27] at kz
          exact kz
        · refine XS.icmpYes X16.here hx rfl (pc0 := 71) (pc' := 78) rfl (hb hby at_71) rfl (feq hm26).2 (by decide) (by decide) ?_
          show Steps p.tables e below (T16.setTop (mkF m 78 #[.val (.int p0), .val (.int p1), .val (.int p2), .val (.int (1 : Int32)), .val (.ref w4), .val (.int len), .val (.ref b16), .unset] [])) tz
          refine XS.iconst X16.here hx rfl (hb hby at_78) ?_
          show Steps p.tables e below (T16.setTop (mkF m 79 #[.val (.int p0), .val (.int p1), .val (.int p2), .val (.int (1 : Int32)), .val (.ref w4), .val (.int len), .val (.ref b16), .unset] [(.int (0 : Int32))])) tz
          refine XS.goto X16.here hx rfl (pc0 := 79) (pc' := 94) rfl (hb hby at_79) (by decide) (by decide) ?_
          show Steps p.tables e below (T16.setTop (mkF m 94 #[.val (.int p0), .val (.int p1), .val (.int p2), .val (.int (1 : Int32)), .val (.ref w4), .val (.int len), .val (.ref b16), .unset] [(.int (0 : Int32))])) tz
          rw [if_neg hm26] at hmv27
          rw [hmv27] at kz
          exact kz
      rw [hmv27]
      refine own_on (B := T16.setTop (mkF m 100 #[.val (.int p0), .val (.int p1), .val (.int p2), .val (.int (1 : Int32)), .val (.ref w4), .val (.int len), .val (.ref b16), .val (.int (if len = (114 : Int32) then (1 : Int32) else (0 : Int32)))] [(.ref b16), (.ref w4)])) (fun tz kz => ?_) ?_
      · show Steps p.tables e below (T16.setTop (mkF m 94 #[.val (.int p0), .val (.int p1), .val (.int p2), .val (.int (1 : Int32)), .val (.ref w4), .val (.int len), .val (.ref b16), .unset] [(.int (if len = (114 : Int32) then (1 : Int32) else (0 : Int32)))])) tz
        refine XS.istore X16.here hx rfl (hb hby at_94) rfl (l' := #[.val (.int p0), .val (.int p1), .val (.int p2), .val (.int (1 : Int32)), .val (.ref w4), .val (.int len), .val (.ref b16), .val (.int (if len = (114 : Int32) then (1 : Int32) else (0 : Int32)))]) rfl ?_
        show Steps p.tables e below (T16.setTop (mkF m 96 #[.val (.int p0), .val (.int p1), .val (.int p2), .val (.int (1 : Int32)), .val (.ref w4), .val (.int len), .val (.ref b16), .val (.int (if len = (114 : Int32) then (1 : Int32) else (0 : Int32)))] [])) tz
        refine XS.aload X16.here hx rfl (hb hby at_96) rfl rfl ?_
        show Steps p.tables e below (T16.setTop (mkF m 98 #[.val (.int p0), .val (.int p1), .val (.int p2), .val (.int (1 : Int32)), .val (.ref w4), .val (.int len), .val (.ref b16), .val (.int (if len = (114 : Int32) then (1 : Int32) else (0 : Int32)))] [(.ref w4)])) tz
        refine XS.aload X16.here hx rfl (hb hby at_98) rfl rfl ?_
        exact kz
      obtain ⟨cq28, kq28, q28a, q28b, q28c⟩ := isOf hZ e16 (E_ED448.ext O17.2)
      obtain ⟨_, _, ⟨T28, L28, k28, n28⟩, -, X28, ⟨Lc28, hQ28, l28, y28, z28⟩, st28⟩ := X16.virtualBack hx (y := (⟨"com/example/firm_gate/firmgate/OkpCurve", "isSignatureForm", "([B)Z"⟩ : MethodName)) (z := (⟨"com/example/firm_gate/firmgate/OkpCurve", "isSignatureForm", "([B)Z"⟩ : MethodName)) hown (mvT hZ (hw _ (List.mem_of_getElem? (i := 4) rfl))) (mvT hZ (hw _ (List.mem_of_getElem? (i := 5) rfl))) (notFace_of_selects (args := #[]) (mvT hZ (hw _ (List.mem_of_getElem? (i := 7) rfl)))) (mvT hZ (hw _ (List.mem_of_getElem? (i := 7) rfl))) (mvT hZ (hw _ (List.mem_of_getElem? (i := 6) rfl))) (by decide) (backOf (W := 0) (rm1 l Z a0 hw [] w4 b16 57 114 len h16 n0 O17 F_ED448 V18 rfl) hZ (hw _ (List.mem_of_getElem? (i := 8) rfl)) (hw _ (List.mem_of_getElem? (i := 1) rfl)) (by decide) (by decide)) q28a q28c (g := (mkF m 100 #[.val (.int p0), .val (.int p1), .val (.int p2), .val (.int (1 : Int32)), .val (.ref w4), .val (.int len), .val (.ref b16), .val (.int (if len = (114 : Int32) then (1 : Int32) else (0 : Int32)))] [(.ref b16), (.ref w4)])) rfl (by rw [hml]; rfl) (Steps.refl _) (argsL := [(.ref b16)]) (rest := []) (lenOf own_pd0 rfl) rfl (by show 2 * 0 + _ ≤ _; exact Nat.le_of_eq rfl) (hb hby at_100) (fun _ _ => ⟨rfl, e16, (by decide : 1 + 0 ≤ _), (by decide : 255 + 0 ≤ _)⟩)
      dsimp only [Pt.U, Pt.locs, Pt.cells, Pt.slots] at X28 l28 y28 z28 st28 hQ28
      subst l28 y28 z28
      obtain ⟨rfl, Nq28, e28⟩ := hQ28
      have N28 := Fr.app N0 Nq28
      refine own_on (B := T28.setTop (mkF m 103 #[.val (.int p0), .val (.int p1), .val (.int p2), .val (.int (1 : Int32)), .val (.ref w4), .val (.int len), .val (.ref b16), .val (.int (if len = (114 : Int32) then (1 : Int32) else (0 : Int32)))] [(.int (if len = (114 : Int32) then (1 : Int32) else (0 : Int32)))])) (fun tz kz => st28.trans kz) ?_
      refine own_on (B := T28.setTop (mkF m 113 #[.val (.int p0), .val (.int p1), .val (.int p2), .val (.int (1 : Int32)), .val (.ref w4), .val (.int len), .val (.ref b16), .val (.int (if len = (114 : Int32) then (1 : Int32) else (0 : Int32)))] [(.int (1 : Int32))])) (fun tz kz => ?_) ?_
      · show Steps p.tables e below (T28.setTop (mkF m 103 #[.val (.int p0), .val (.int p1), .val (.int p2), .val (.int (1 : Int32)), .val (.ref w4), .val (.int len), .val (.ref b16), .val (.int (if len = (114 : Int32) then (1 : Int32) else (0 : Int32)))] [(.int (if len = (114 : Int32) then (1 : Int32) else (0 : Int32)))])) tz
        refine XS.iload X28.here hx rfl (hb hby at_103) rfl ?_
        show Steps p.tables e below (T28.setTop (mkF m 105 #[.val (.int p0), .val (.int p1), .val (.int p2), .val (.int (1 : Int32)), .val (.ref w4), .val (.int len), .val (.ref b16), .val (.int (if len = (114 : Int32) then (1 : Int32) else (0 : Int32)))] [(.int (if len = (114 : Int32) then (1 : Int32) else (0 : Int32))), (.int (if len = (114 : Int32) then (1 : Int32) else (0 : Int32)))])) tz
        refine XS.icmpNo X28.here hx rfl (hb hby at_105) rfl (teq rfl).2 ?_
        show Steps p.tables e below (T28.setTop (mkF m 108 #[.val (.int p0), .val (.int p1), .val (.int p2), .val (.int (1 : Int32)), .val (.ref w4), .val (.int len), .val (.ref b16), .val (.int (if len = (114 : Int32) then (1 : Int32) else (0 : Int32)))] [])) tz
        refine XS.iconst X28.here hx rfl (hb hby at_108) ?_
        show Steps p.tables e below (T28.setTop (mkF m 109 #[.val (.int p0), .val (.int p1), .val (.int p2), .val (.int (1 : Int32)), .val (.ref w4), .val (.int len), .val (.ref b16), .val (.int (if len = (114 : Int32) then (1 : Int32) else (0 : Int32)))] [(.int (1 : Int32))])) tz
        refine XS.goto X28.here hx rfl (pc0 := 109) (pc' := 113) rfl (hb hby at_109) (by decide) (by decide) ?_
        exact kz
      obtain ⟨fs, hr, hrun, hended, hW, hsame⟩ := X28.leave (v := some (.int (1 : Int32))) (fun h => by rw [Bd.returns] at h; cases h)
      refine own_of ⟨_, _, ?_, hrun, hended, _, _, rfl, ?_, ⟨_, rfl⟩, hW, hsame.mono (by decide) (by decide)⟩
      · show Steps p.tables e below (T28.setTop (mkF m 113 #[.val (.int p0), .val (.int p1), .val (.int p2), .val (.int (1 : Int32)), .val (.ref w4), .val (.int len), .val (.ref b16), .val (.int (if len = (114 : Int32) then (1 : Int32) else (0 : Int32)))] [(.int (1 : Int32))])) _
        exact own_retN X28 hx (t := .boolean) Bd.returns (by simp) (by first | rfl | (split <;> first | rfl | (split <;> first | rfl | (split <;> rfl)))) (hb hby at_113) hr
      · show Q0 Z p0 p1 p2 w5 w4 h0 n0 _ T28.heap _
        rw [e28]
        exact ⟨rfl, N28⟩
set_option maxRecDepth 65536 in
set_option maxHeartbeats 40000000 in
theorem comes_1 {Post : Tables → Env → Array Value → State → Outcome → State → Prop} (hpost : ∀ tb e args s v u, (limb_1_1.after args s (.returned v) u = true ∧ limb_1_2.after args s (.returned v) u = true ∧ True) → FrameEnd s (.returned v) u (Jvm.fieldLocs frame_1_writes args s ++ Jvm.arrayLocs frame_1_arrays args s ++ Jvm.staticLocs frame_1_statics s) 16 576 → Post tb e args s (.returned v) u) :
    ArmFor flags0 classFile x code maxLocals ret World_1 tables_1 room_1 Calls_1 rest_1 Pre_1 Post := by
  intro l hfl _ _ p e ha hc hk s m args below hf hA hF happ hP
  obtain ⟨hcalls, hrest, hpre⟩ := hP
  obtain ⟨-, -, -, hnamed, -, -, -, hat⟩ := (Spec.applies_iff hf).mp happ
  obtain ⟨hg, hn⟩ := and_e (Cond.before_iff.mp (show (Jvm.Cond.and given_1 narrow_1).before args s = true from hpre))
  obtain ⟨hcnt, hg0⟩ := and_e hg
  obtain ⟨ha0, hg1⟩ := and_e hg0
  obtain ⟨ha1, hg2⟩ := and_e hg1
  have ha2 := hg2
  obtain ⟨w0, w1, w2, rfl⟩ : ∃ w0 w1 w2 : Value, args = #[w0, w1, w2] := by
    have hs : args.size = 3 := by simpa [Cond.value, given_1] using hcnt
    obtain ⟨L⟩ := args
    match L, hs with
    | [w0, w1, w2], _ => exact ⟨w0, w1, w2, rfl⟩
  have hw := fun d (hd : d ∈ tables_1) => atoms_spec (ws := Jvm.Cond.code x code maxLocals ret :: tables_1) hat d (List.mem_cons_of_mem _ hd)
  have hfit : Fit s := fun {y c} hc i hi => by
    obtain ⟨ha, rfl⟩ := Array.getElem?_eq_some_iff.mp hc
    have q := List.all_eq_true.mp ((Array.all_eq_true_iff_forall_mem.mp hF) _ (Array.getElem_mem ha)) i (List.mem_range.mpr hi)
    simpa [Array.getElem?_eq_getElem hi] using q
  obtain ⟨i0, ei0⟩ := is_v ha0
  obtain rfl : w0 = (.int i0) := Option.some.inj ei0
  obtain ⟨i1, ei1⟩ := is_v ha1
  obtain rfl : w1 = (.int i1) := Option.some.inj ei1
  obtain ⟨i2, ei2⟩ := is_v ha2
  obtain rfl : w2 = (.int i2) := Option.some.inj ei2
  obtain ⟨hn0, hr0⟩ := and_e hn
  obtain ⟨hn1, hr1⟩ := and_e hr0
  obtain ⟨hn2, hr2⟩ := and_e hr1
  obtain ⟨w_ED25519, ev_ED25519⟩ := exa_v hn0
  have S_ED25519 := Sta.start ev_ED25519 (Or.inr ⟨(hw _ (List.mem_of_getElem? (i := 1) rfl)), (hw _ (List.mem_of_getElem? (i := 2) rfl))⟩)
  have E_ED25519 := Exa.start ev_ED25519 hn0
  obtain ⟨w_ED448, ev_ED448⟩ := exa_v hn2
  have S_ED448 := Sta.start ev_ED448 (Or.inr ⟨(hw _ (List.mem_of_getElem? (i := 1) rfl)), (hw _ (List.mem_of_getElem? (i := 12) rfl))⟩)
  have E_ED448 := Exa.start ev_ED448 hn2
  have F_ED25519_size := own_fldI ev_ED25519 hn1
  have F_ED448_size := own_fldI ev_ED448 hr2
  obtain ⟨n, o, h1, h2, h3, _, L, rfl, ⟨rfl, N⟩, hq⟩ := rm0 l s _ hw tables_1 i0 i1 i2 w_ED25519 w_ED448 s.heap s.heap.size (Old.start s) S_ED25519 S_ED448 E_ED25519 E_ED448 F_ED25519_size F_ED448_size p e ha hc hk s m _ below hf ((Spec.applies_iff_loose hf).mp happ).1 ⟨rfl, State.Warmed39.refl s, rfl⟩ trivial
  refine ⟨n, _, h1, h2, h3, hpost _ _ _ _ _ _ ⟨Cond.after_iff.mpr rfl, Cond.after_iff.mpr (eq_i res_at (Term.int_eval (1)) rfl), trivial⟩ ⟨hq.1, hq.2.1, (hq.2.2.sift fun y hy => Or.inr (N y hy)).mono (by decide) (by decide)⟩⟩
theorem main_1_1 : Claimed_1_1 := comes_1 fun _ _ _ _ _ _ h hF => ⟨h.1, hF⟩
theorem main_1_2 : Claimed_1_2 := comes_1 fun _ _ _ _ _ _ h hF => ⟨h.2.1, hF⟩
end Jvm.Pilot.@@N@@
namespace Jvm.Pilot.@@N@@
open Jvm Jvm.ClassFile Sem Op Lib Jvm.Free Jvm.Stand Jvm.Pilot.@@N@@.Jvm.D
/-! MADE BY PROGRAM (witnessworld.py) out of the Statement's table words and the real class files: 12 classes; the members and pool entries that the words name. The judged class is class 1, her method 1. -/
namespace start1
open Jvm.ClassFile
def u (s : String) : CpInfo := .utf8 (stringToUtf16 s)
/-- a pool by its gaps: so many unusable entries, then the entry; so many at the end -/
def gap : Nat → List CpInfo → List CpInfo
  | 0, r => r
  | n + 1, r => .unusable :: gap n r
def poolList (es : List (Nat × CpInfo)) (last : Nat) : List CpInfo := es.foldr (fun e r => gap e.1 (e.2 :: r)) (gap last [])
def pool (es : List (Nat × CpInfo)) (last : Nat) : Array CpInfo := ⟨poolList es last⟩
def fileOf (pool : Array CpInfo) (this : Nat) (attrs : Array Attribute := #[]) (ms : Array MethodInfo := #[]) (fl : Nat := 33) (sup : Nat := 0) (ifs : Array Nat := #[]) (fds : Array FieldInfo := #[]) : ClassFile where
  minorVersion := 0
  majorVersion := 65
  constantPool := pool
  accessFlags := fl
  thisClass := this
  superClass := sup
  interfaces := ifs
  fields := fds
  methods := ms
  attributes := attrs
def plain (name : String) (sup : Option ClassId) : Class where
  name := name
  kind := .ordinary
  loader := none
  accessFlags := 33
  super := sup
  interfaces := #[]
  cf := none
  fields := #[]
  methods := #[]
  instanceTypes := #[]
  staticTypes := #[]
  resolved := #[]
  callSites := []
  init := .initialized
  statics := none
  mirror := none

def pool0 : Array CpInfo := pool [(5, u "<init>"), (0, u "()V"), (1, .class_ 10), (1, u "java/lang/Object")] 113

def k0m0 : Method := { name := "<init>", desc := "()V", sig := { parameters := [], returnType := none }, accessFlags := 1, code := none }
/-- java/lang/Object -/
def k0 : Class := { plain "java/lang/Object" none with
  accessFlags := 33
  interfaces := #[]
  cf := some (fileOf pool0 8 #[] #[{ accessFlags := 1, nameIndex := 5, descriptorIndex := 6, attributes := #[] }] 33 0 #[] #[])
  fields := #[]
  methods := #[k0m0]
  instanceTypes := #[]
  staticTypes := #[]
  resolved := Array.replicate 124 none
  statics := none }

def pool1 : Array CpInfo := pool [(2, .class_ 4), (1, u "java/lang/Object"), (0, u "<init>"), (0, u "()V"), (0, .fieldref 8 9), (0, .class_ 10), (0, .nameAndType 11 12), (0, u "com/example/firm_gate/firmgate/OkpCurve"), (0, u "ED448"), (0, u "Lcom/example/firm_gate/firmgate/OkpCurve;"), (0, .fieldref 8 14), (0, .nameAndType 15 12), (0, u "ED25519"), (0, .methodref 8 17), (0, .nameAndType 18 19), (0, u "isSignatureForm"), (0, u "([B)Z"), (0, .class_ 21), (0, u "com/example/firm_gate/firmgate/OkpCurveIsSignatureFormPinLaw"), (2, u "law"), (0, u "(III)Z")] 5

def k1m0 : Method := { name := "<init>", desc := "()V", sig := { parameters := [], returnType := none }, accessFlags := 1, code := none }
def k1c1 : Code := { maxStack := 4, maxLocals := 8, code := code, exceptionTable := #[], attributes := #[] }
def k1m1 : Method := { name := "law", desc := "(III)Z", sig := { parameters := [.int, .int, .int], returnType := some .boolean }, accessFlags := 9, code := some k1c1 }
/-- com/example/firm_gate/firmgate/OkpCurveIsSignatureFormPinLaw -/
def k1 : Class := { plain "com/example/firm_gate/firmgate/OkpCurveIsSignatureFormPinLaw" (some 0) with
  accessFlags := 49
  interfaces := #[]
  cf := some (fileOf pool1 20 #[] #[{ accessFlags := 1, nameIndex := 5, descriptorIndex := 6, attributes := #[] }, { accessFlags := 9, nameIndex := 24, descriptorIndex := 25, attributes := #[] }] 49 2 #[] #[])
  fields := #[]
  methods := #[k1m0, k1m1]
  instanceTypes := #[]
  staticTypes := #[]
  resolved := Array.replicate 31 none
  statics := none }

def pool2 : Array CpInfo := pool [(1, .class_ 2), (0, u "java/lang/constant/Constable"), (0, .class_ 4), (0, u "java/lang/Object")] 6

/-- java/lang/constant/Constable -/
def k2 : Class := { plain "java/lang/constant/Constable" (some 0) with
  accessFlags := 1537
  interfaces := #[]
  cf := some (fileOf pool2 1 #[] #[] 1537 3 #[] #[])
  fields := #[]
  methods := #[]
  instanceTypes := #[]
  staticTypes := #[]
  resolved := Array.replicate 11 none
  statics := none }

def pool3 : Array CpInfo := pool [(1, .class_ 2), (0, u "java/lang/Comparable"), (0, .class_ 4), (0, u "java/lang/Object")] 7

/-- java/lang/Comparable -/
def k3 : Class := { plain "java/lang/Comparable" (some 0) with
  accessFlags := 1537
  interfaces := #[]
  cf := some (fileOf pool3 1 #[] #[] 1537 3 #[] #[])
  fields := #[]
  methods := #[]
  instanceTypes := #[]
  staticTypes := #[]
  resolved := Array.replicate 12 none
  statics := none }

def pool4 : Array CpInfo := pool [(1, .class_ 2), (0, u "java/io/Serializable"), (0, .class_ 4), (0, u "java/lang/Object")] 2

/-- java/io/Serializable -/
def k4 : Class := { plain "java/io/Serializable" (some 0) with
  accessFlags := 1537
  interfaces := #[]
  cf := some (fileOf pool4 1 #[] #[] 1537 3 #[] #[])
  fields := #[]
  methods := #[]
  instanceTypes := #[]
  staticTypes := #[]
  resolved := Array.replicate 7 none
  statics := none }

def pool5 : Array CpInfo := pool [(2, .class_ 4), (1, u "java/lang/Enum"), (0, u "name"), (0, u "Ljava/lang/String;"), (2, u "ordinal"), (0, u "I"), (1, .class_ 14), (1, u "java/lang/Object"), (4, u "hash"), (86, .class_ 108), (1, u "java/lang/Enum$EnumDesc"), (2, .class_ 112), (0, u "java/lang/constant/Constable"), (0, .class_ 114), (0, u "java/lang/Comparable"), (0, .class_ 116), (0, u "java/io/Serializable")] 87

/-- java/lang/Enum -/
def k5 : Class := { plain "java/lang/Enum" (some 0) with
  accessFlags := 1057
  interfaces := #[2, 3, 4]
  cf := some (fileOf pool5 2 #[.nestMembers #[106]] #[] 1057 12 #[111, 113, 115] #[{ accessFlags := 18, nameIndex := 5, descriptorIndex := 6, attributes := #[] }, { accessFlags := 18, nameIndex := 9, descriptorIndex := 10, attributes := #[] }, { accessFlags := 2, nameIndex := 19, descriptorIndex := 10, attributes := #[] }])
  fields := #[{ name := "name", type := (.object "java/lang/String"), accessFlags := 18, slot := 0, constantValue := 0 }, { name := "ordinal", type := .int, accessFlags := 18, slot := 1, constantValue := 0 }, { name := "hash", type := .int, accessFlags := 2, slot := 2, constantValue := 0 }]
  methods := #[]
  instanceTypes := #[(.object "java/lang/String"), .int, .int]
  staticTypes := #[]
  resolved := Array.replicate 204 none
  statics := none }

def pool6 : Array CpInfo := pool [(1, .class_ 2), (0, u "com/example/firm_gate/firmgate/OkpCurve"), (2, u "ED25519"), (0, u "Lcom/example/firm_gate/firmgate/OkpCurve;"), (2, u "ED448"), (2, u "$VALUES"), (0, u "[Lcom/example/firm_gate/firmgate/OkpCurve;"), (6, .class_ 22), (1, u "java/lang/Enum"), (8, u "crv"), (0, u "Ljava/lang/String;"), (2, u "parameters"), (0, u "Ljava/security/spec/NamedParameterSpec;"), (0, .fieldref 1 38), (0, .nameAndType 39 40), (0, u "size"), (0, u "I"), (46, u "KEY_AGREEMENT"), (0, u "Ljava/util/Set;"), (65, u "isSignatureForm"), (0, u "([B)Z")] 34

def k6c0 : Code := { maxStack := 3, maxLocals := 2, code := prog_10_method_11_code, exceptionTable := #[], attributes := #[] }
def k6m0 : Method := { name := "isSignatureForm", desc := "([B)Z", sig := { parameters := [(.array .byte)], returnType := some .boolean }, accessFlags := 0, code := some k6c0 }
/-- com/example/firm_gate/firmgate/OkpCurve -/
def k6 : Class := { plain "com/example/firm_gate/firmgate/OkpCurve" (some 5) with
  accessFlags := 16432
  interfaces := #[]
  cf := some (fileOf pool6 1 #[] #[{ accessFlags := 0, nameIndex := 154, descriptorIndex := 155, attributes := #[] }] 16432 20 #[] #[{ accessFlags := 16409, nameIndex := 5, descriptorIndex := 6, attributes := #[] }, { accessFlags := 16409, nameIndex := 9, descriptorIndex := 6, attributes := #[] }, { accessFlags := 26, nameIndex := 87, descriptorIndex := 88, attributes := #[] }, { accessFlags := 18, nameIndex := 31, descriptorIndex := 32, attributes := #[] }, { accessFlags := 18, nameIndex := 35, descriptorIndex := 36, attributes := #[] }, { accessFlags := 18, nameIndex := 39, descriptorIndex := 40, attributes := #[] }, { accessFlags := 4122, nameIndex := 12, descriptorIndex := 13, attributes := #[] }])
  fields := #[{ name := "ED25519", type := (.object "com/example/firm_gate/firmgate/OkpCurve"), accessFlags := 16409, slot := 0, constantValue := 0 }, { name := "ED448", type := (.object "com/example/firm_gate/firmgate/OkpCurve"), accessFlags := 16409, slot := 1, constantValue := 0 }, { name := "KEY_AGREEMENT", type := (.object "java/util/Set"), accessFlags := 26, slot := 2, constantValue := 0 }, { name := "crv", type := (.object "java/lang/String"), accessFlags := 18, slot := 3, constantValue := 0 }, { name := "parameters", type := (.object "java/security/spec/NamedParameterSpec"), accessFlags := 18, slot := 4, constantValue := 0 }, { name := "size", type := .int, accessFlags := 18, slot := 5, constantValue := 0 }, { name := "$VALUES", type := (.array (.object "com/example/firm_gate/firmgate/OkpCurve")), accessFlags := 4122, slot := 3, constantValue := 0 }]
  methods := #[k6m0]
  instanceTypes := #[(.object "java/lang/String"), .int, .int, (.object "java/lang/String"), (.object "java/security/spec/NamedParameterSpec"), .int]
  staticTypes := #[(.object "com/example/firm_gate/firmgate/OkpCurve"), (.object "com/example/firm_gate/firmgate/OkpCurve"), (.object "java/util/Set"), (.array (.object "com/example/firm_gate/firmgate/OkpCurve"))]
  resolved := Array.replicate 190 none
  statics := some 0 }

def pool7 : Array CpInfo := pool [(1, u "java/lang/Cloneable"), (0, .class_ 1), (0, u "java/lang/Object"), (0, .class_ 3)] 3

/-- java/lang/Cloneable -/
def k7 : Class := { plain "java/lang/Cloneable" (some 0) with
  accessFlags := 1537
  interfaces := #[]
  cf := some (fileOf pool7 2 #[] #[] 1537 4 #[] #[])
  fields := #[]
  methods := #[]
  instanceTypes := #[]
  staticTypes := #[]
  resolved := Array.replicate 8 none
  statics := none }

/-- the primitive byte -/
def k8 : Class := { plain "byte" none with kind := .primitive 'B', accessFlags := 0x411 }
/-- [B -/
def k9 : Class := { plain "[B" (some 0) with kind := .array 8 .byte, interfaces := #[7, 4], accessFlags := 1041 }

/-- the primitive int -/
def k10 : Class := { plain "int" none with kind := .primitive 'I', accessFlags := 0x411 }
/-- [I -/
def k11 : Class := { plain "[I" (some 0) with kind := .array 10 .int, interfaces := #[7, 4], accessFlags := 1041 }

def heap : Heap := #[{ cls := 6, slots := #[.ref 1, .ref 2, .null, .null], vm := .statics 6 },
  { cls := 6, slots := #[.null, .int 0, .int 0, .null, .null, .int 32], vm := .none },
  { cls := 6, slots := #[.null, .int 1, .int 0, .null, .null, .int 57], vm := .none }]
def classes : Array Class := #[k0, k1, k2, k3, k4, k5, k6, k7, k8, k9, k10, k11]
def interned : List (Array UInt16 × Addr) := []
def slotsUsed : Nat := 16
def theMethod : MethodId := ⟨1, 1⟩
def args0 : Array Value := #[.int 0, .int 64, .int 7]
def aboutOver (below : List Frame) : State where
  vm := { classes := classes, interned := interned.toArray }
  heap := heap
  slotsUsed := slotsUsed
  threads := #[{ frames := .invoking theMethod args0 :: below }]
def below0 : List Frame := [.native { method := ⟨0, 0⟩, args := #[] }]
def about1 : State := aboutOver below0
def p0 : Program := .bare "" "" ""
def e0 : Env := launch0.env 0 0 0
theorem w_frames : about1.frames = Frame.invoking theMethod args0 :: below0 := rfl
set_option maxRecDepth 65536 in
theorem w_args : argsFit about1.vm theMethod args0 = true := by decide +kernel
set_option maxRecDepth 65536 in
theorem w_heap : heapFits about1 = true := by decide +kernel
set_option maxRecDepth 65536 in
theorem w_runnable : about1.curStatus? = some .runnable := by decide +kernel
set_option maxRecDepth 65536 in
theorem w_alone : about1.alone = true := by decide +kernel
set_option maxRecDepth 65536 in
theorem w_named : about1.methodNamed? x = some theMethod := by decide +kernel
set_option maxRecDepth 65536 in
theorem w_hears : about1.hears theMethod below0 = true := by decide +kernel
set_option maxRecDepth 65536 in
theorem w_ripe : about1.ripe theMethod args0 below0 = true := by decide +kernel
theorem w_running : about1.status = .running := rfl
set_option maxRecDepth 65536 in
theorem w_room : about1.hasRoom e0.platform room_1 = true :=
  launch0.hasRoom_least _ room_1 (by decide +kernel) (by decide +kernel) (by decide +kernel) (by decide +kernel) (by decide +kernel) (by decide +kernel)
theorem allAtoms_all (ts : List Jvm.Cond) (a : Array Jvm.Value) (st : Jvm.State) : (allAtoms ts).before a st = ts.all (fun c => c.before a st) := by
  induction ts with
  | nil => rfl
  | cons c t ih =>
    show (Jvm.Cond.and c (allAtoms t)).before a st = _
    rw [Jvm.Cond.before_and, ih, List.all_cons]
def words1 : List Jvm.Cond := Jvm.Cond.code x code maxLocals ret :: tables_1
/-- a 'code' word, met by the world's own term for the bytes: nothing is compared byte by byte -/
theorem code_word {y : MethodName} {bytes : ByteArray} {mx : Nat} {rt : Option FieldType} {a : Array Value} {s : State} {m : MethodId} {meth : Method} {c : Code} (h1 : s.methodNamed? y = some m) (h2 : s.vm.method? m = some meth) (h3 : meth.code = some c) (h4 : c.code = bytes)
    (h5 : (c.maxLocals == mx && c.exceptionTable.isEmpty && decide (c.maxStack ≤ mostOperands) && decide (meth.sig.returnType = rt) && !meth.locks && decide (parseMethodDescriptor y.desc = some meth.sig)) = true) : (Jvm.Cond.code y bytes mx rt).before a s = true := by
  simp only [Bool.and_eq_true, beq_iff_eq, Bool.not_eq_true', decide_eq_true_eq] at h5
  obtain ⟨⟨⟨⟨⟨g1, g2⟩, g3⟩, g4⟩, g5⟩, g6⟩ := h5
  simp [Cond.before, Cond.holds, Cond.value, h1, h2, h3, h4, g1, g2, g3, g4, g5, g6]
def isCode : Jvm.Cond → Bool
  | .code _ _ _ _ => true
  | _ => false
theorem all_split {L : List Jvm.Cond} {P : Jvm.Cond → Bool} (h1 : L.all (fun c => isCode c || P c) = true) (h2 : ∀ c ∈ L.filter isCode, P c = true) : L.all P = true := by
  refine List.all_eq_true.mpr fun c hc => ?_
  have h := List.all_eq_true.mp h1 c hc
  rcases Bool.eq_false_or_eq_true (isCode c) with hi | hi
  · exact h2 c (List.mem_filter.mpr ⟨hc, hi⟩)
  · simpa [hi] using h
set_option maxRecDepth 65536 in
theorem w_c0 : (Jvm.Cond.code x code maxLocals ret).before args0 about1 = true := code_word (m := ⟨1, 1⟩) (meth := k1m1) (c := k1c1) (by decide +kernel) rfl rfl rfl (by decide +kernel)
set_option maxRecDepth 65536 in
theorem w_c1 : (Jvm.Cond.code ({ cls := "com/example/firm_gate/firmgate/OkpCurve", name := "isSignatureForm", desc := "([B)Z" } : Jvm.MethodName) prog_10_method_11_code (2 : Nat) (Option.some Jvm.ClassFile.FieldType.boolean)).before args0 about1 = true := code_word (m := ⟨6, 0⟩) (meth := k6m0) (c := k6c0) (by decide +kernel) rfl rfl rfl (by decide +kernel)
def codes1 : List Jvm.Cond := [Jvm.Cond.code x code maxLocals ret, Jvm.Cond.code ({ cls := "com/example/firm_gate/firmgate/OkpCurve", name := "isSignatureForm", desc := "([B)Z" } : Jvm.MethodName) prog_10_method_11_code (2 : Nat) (Option.some Jvm.ClassFile.FieldType.boolean)]
set_option maxRecDepth 65536 in
theorem codes_eq : words1.filter isCode = codes1 := rfl
theorem w_codes : ∀ c ∈ words1.filter isCode, c.before args0 about1 = true := by
  rw [codes_eq]
  intro c hc
  simp only [codes1, List.mem_cons, List.not_mem_nil, or_false] at hc
  rcases hc with rfl | rfl
  · exact w_c0
  · exact w_c1
set_option maxRecDepth 65536 in
theorem w_t1 : words1.all (fun c => isCode c || c.before args0 about1) = true := by decide +kernel
theorem w_tables : (allAtoms (Jvm.Cond.code x code maxLocals ret :: tables_1)).before args0 about1 = true := by
  rw [allAtoms_all]
  show words1.all (fun c => c.before args0 about1) = true
  refine all_split ?_ w_codes
  rw [w_t1]
set_option maxRecDepth 65536 in
theorem w_case : (Jvm.Cond.and given_1 narrow_1).before args0 about1 = true := by decide +kernel
theorem w_applies : (headSpec (Jvm.Cond.code x code maxLocals ret :: tables_1) room_1).applies x e0.platform about1 = true :=
  (Spec.applies_iff w_frames).mpr ⟨w_running, w_runnable, w_alone, w_named, w_hears, w_ripe, w_room, w_tables⟩
theorem atStart : AtStart classFile x code maxLocals ret World_1 tables_1 room_1 Calls_1 rest_1 Pre_1 launch0 p0 e0 about1 theMethod args0 below0 :=
  ⟨lists_1, trivial, launch0.admits_env _ _ _, launch0.least_env, fairChoices_fair.cas, fairChoices_fair.clock, w_frames, w_args, w_heap, w_applies, trivial, trivial, w_case⟩
end start1
theorem witness_1 : WitnessClaimed_1 := ⟨start1.p0, start1.e0, start1.about1, start1.theMethod, start1.args0, start1.below0, start1.atStart⟩
end Jvm.Pilot.@@N@@
