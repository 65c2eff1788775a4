import JvmDerived
import JvmDerived.Pilot.@@N@@Statement
import JvmDerived.Pilot.@@N@@Code
set_option linter.unusedVariables false
set_option linter.unusedSimpArgs false
namespace Jvm.Pilot.@@N@@
open Jvm Jvm.ClassFile Sem Op Lib Jvm.Free Jvm.Stand Jvm.LawKit Jvm.RoadKit Bundle Jvm.Pilot.@@N@@.Jvm.D
/-! own: the run from A ends well -/
def Go (tb : Tables) (e : Env) (below : List Frame) (A : State) (P : State → Outcome → Prop) : Prop := ∃ t o, Steps tb e below A t ∧ P t o
theorem own_on {tb : Tables} {e : Env} {below : List Frame} {A B : State} {P : State → Outcome → Prop} (k : ∀ t, Steps tb e below B t → Steps tb e below A t) (h : Go tb e below B P) : Go tb e below A P := by
  obtain ⟨t, o, h1, h2⟩ := h
  exact ⟨t, o, k t h1, h2⟩
theorem own_of {tb : Tables} {e : Env} {below : List Frame} {A : State} {P : State → Outcome → Prop} (h : Go tb e below A P) : ∃ t o, Steps tb e below A t ∧ P t o := h
theorem own_old {Z : State} {n0 : Nat} {h : Heap} (O : Old Z n0 h) : n0 ≤ h.size := O.1 ▸ O.2.1
theorem own_retV {p : Program} {l : Launch} {e : Env} {R : Room} {s : State} {m : MethodId} {args : Array Value} {below : List Frame} {meth : Method} {c : Code} {T : State} {locs : List Loc} {cells slots : Nat}
    (X : Stand p l e R s m args below meth c T locs cells slots) (hx : p.tables.exec = Jvm.exec) {pc : Nat} {Ls : Array Slot} {w : Value} {t : FieldType} {rest : List Value} (hret : meth.sig.returnType = some t) (ht : t.isReference = true) (hw : w.isRef = true) (hd : decode c.code pc = .ok (.areturn, 1)) {fs : List Frame}
    (hl : ∀ (f : JFrame) (acts : List Action), f.method = m → f.locked = none → f.entered = [] → (doReturn e (T.setTop f) acts (some w)).1 = T.setFrames fs) : Steps p.tables e below (T.setTop (mkF m pc Ls (w :: rest))) (T.setFrames fs) :=
  retOut X hx hret (by cases t <;> first | (simp [FieldType.isReference] at ht; done) | (cases w <;> first | rfl | (simp [Value.isRef] at hw))) (Or.inr (Or.inr (Or.inr (Or.inr ⟨rfl, ht, hw⟩)))) hd hl
theorem own_retI {p : Program} {l : Launch} {e : Env} {R : Room} {s : State} {m : MethodId} {args : Array Value} {below : List Frame} {meth : Method} {c : Code} {T : State} {locs : List Loc} {cells slots : Nat}
    (X : Stand p l e R s m args below meth c T locs cells slots) (hx : p.tables.exec = Jvm.exec) {pc : Nat} {Ls : Array Slot} {z : Int32} {rest : List Value} (hret : meth.sig.returnType = some .int) (hd : decode c.code pc = .ok (.ireturn, 1)) {fs : List Frame}
    (hl : ∀ (f : JFrame) (acts : List Action), f.method = m → f.locked = none → f.entered = [] → (doReturn e (T.setTop f) acts (some (.int z))).1 = T.setFrames fs) : Steps p.tables e below (T.setTop (mkF m pc Ls (.int z :: rest))) (T.setFrames fs) :=
  retOut X hx hret rfl (Or.inl ⟨rfl, Or.inl rfl, z, rfl⟩) hd hl
theorem own_retN {p : Program} {l : Launch} {e : Env} {R : Room} {s : State} {m : MethodId} {args : Array Value} {below : List Frame} {meth : Method} {c : Code} {T : State} {locs : List Loc} {cells slots : Nat}
    (X : Stand p l e R s m args below meth c T locs cells slots) (hx : p.tables.exec = Jvm.exec) {pc : Nat} {Ls : Array Slot} {z : Int32} {t : FieldType} {rest : List Value} (hret : meth.sig.returnType = some t) (ht : t = .boolean ∨ t = .byte ∨ t = .char ∨ t = .short) (hz : nar t z = z) (hd : decode c.code pc = .ok (.ireturn, 1)) {fs : List Frame}
    (hl : ∀ (f : JFrame) (acts : List Action), f.method = m → f.locked = none → f.entered = [] → (doReturn e (T.setTop f) acts (some (.int z))).1 = T.setFrames fs) : Steps p.tables e below (T.setTop (mkF m pc Ls (.int z :: rest))) (T.setFrames fs) :=
  retN X hx hret ht hd (by rw [hz]; exact hl)
theorem own_retD {p : Program} {l : Launch} {e : Env} {R : Room} {s : State} {m : MethodId} {args : Array Value} {below : List Frame} {meth : Method} {c : Code} {T : State} {locs : List Loc} {cells slots : Nat}
    (X : Stand p l e R s m args below meth c T locs cells slots) (hx : p.tables.exec = Jvm.exec) {pc : Nat} {Ls : Array Slot} {z : UInt64} {rest : List Value} (hret : meth.sig.returnType = some .double) (hd : decode c.code pc = .ok (.dreturn, 1)) {fs : List Frame}
    (hl : ∀ (f : JFrame) (acts : List Action), f.method = m → f.locked = none → f.entered = [] → (doReturn e (T.setTop f) acts (some (.double z))).1 = T.setFrames fs) : Steps p.tables e below (T.setTop (mkF m pc Ls (.double z :: rest))) (T.setFrames fs) :=
  retOut X hx hret rfl (Or.inr (Or.inr (Or.inl ⟨rfl, rfl, z, rfl⟩))) hd hl
theorem own_retJ {p : Program} {l : Launch} {e : Env} {R : Room} {s : State} {m : MethodId} {args : Array Value} {below : List Frame} {meth : Method} {c : Code} {T : State} {locs : List Loc} {cells slots : Nat}
    (X : Stand p l e R s m args below meth c T locs cells slots) (hx : p.tables.exec = Jvm.exec) {pc : Nat} {Ls : Array Slot} {z : Int64} {rest : List Value} (hret : meth.sig.returnType = some .long) (hd : decode c.code pc = .ok (.lreturn, 1)) {fs : List Frame}
    (hl : ∀ (f : JFrame) (acts : List Action), f.method = m → f.locked = none → f.entered = [] → (doReturn e (T.setTop f) acts (some (.long z))).1 = T.setFrames fs) : Steps p.tables e below (T.setTop (mkF m pc Ls (.long z :: rest))) (T.setFrames fs) :=
  retOut X hx hret rfl (Or.inr (Or.inl ⟨rfl, rfl, z, rfl⟩)) hd hl
theorem own_fldI {Z : State} {args : Array Value} {t : Term} {x : Addr} {C n d : String} {k : Int32} (ev : t.eval args Z none [] Z = some (.ref x)) (h : (Cond.eq (.field t C n d) (.int k)).value args Z none Z [] = some true) : Fld Z Z.heap x C n d (.int k) := by
  refine Fld.start ?_
  cases hf : Z.fieldOf? x C n d with
  | none => simp [Cond.value, Term.eval, ev, hf] at h
  | some v => cases v <;> simp [Cond.value, Term.eval, ev, hf] at h; subst h; rfl
theorem own_nar {t : FieldType} {v : Value} (h : v.isRef = true) : narrow t v = v := by rcases ref_cases h with rfl | ⟨r, rfl⟩ <;> cases t <;> rfl
theorem own_fit {t : FieldType} {v : Value} (h : v.isRef = true) (ht : t.isReference = true := by rfl) : fits t v = true := by rcases ref_cases h with rfl | ⟨r, rfl⟩ <;> cases t <;> first | rfl | (simp [FieldType.isReference] at ht)
theorem own_st {l l' : Array Slot} {i : Nat} {v : Value} {o : Slot} (hold : l[i]? = some o) (ho : o = .unset ∨ ∃ w, o = .val w ∧ w.category = 1) (hv : v.category = 1) (e : l.setIfInBounds i (.val v) = l' := by rfl) : storeLocals l i v = some l' := e ▸ Jvm.Free.XS.store1 hold ho hv
theorem own_lremM {p : Program} {l : Launch} {e : Env} {R : Room} {s : State} {m : MethodId} {args : Array Value} {below : List Frame} {meth : Method} {c : Code} {T : State} {locs : List Loc} {cells slots : Nat} {g : JFrame} {target : State}
    (X : Stand p l e R s m args below meth c T locs cells slots) (hx : p.tables.exec = Jvm.exec) (hg : g.method = m) {x y : Int64} {rest : List Value} (hd : decode c.code g.pc = .ok (.lrem, 1)) (hs : g.stack = .long y :: .long x :: rest) (hy : y ≠ 0)
    (hr : Steps p.tables e below (T.setTop { g with pc := g.pc + 1, stack := .long (x % y) :: rest }) target) : Steps p.tables e below (T.setTop g) target :=
  Jvm.Free.XT.lrem X.here hx hg hd hs hy (by rw [lrem_mod]; exact hr)
theorem own_clone {Z : State} {h' : Heap} {b : Addr} {k : ClassId} {ty : FieldType} {n : Int32} {vs : List Value} {d : Value} {c : Cell} (A : Arr Z h' b (cloneOf c) ty) (q : c.cls = k) (S : c.slots.size = n.toNatClampNeg) (M : ¬ n < 0) (H : Has c vs d) (G : ∀ i, i < c.slots.size → fits ty (vs.getD i d) = true) : Arv Z h' b k ty n vs d := ⟨cloneOf c, A, q, S, M, H, G⟩
theorem own_fitc {Z : State} {h : Heap} {a : Addr} {ty : FieldType} {vs : List Value} {d : Value} {c : Cell} (A : Arr Z h a c ty) (H : Has c vs d) (G : ∀ i, i < c.slots.size → fits ty (vs.getD i d) = true) : FitC Z c :=
  fitC_of A fun i hi v hv => by rw [H i hi] at hv; cases hv; exact G i hi
def own_d (n : Int32) : UInt64 := FP.ddiv (FP.i2d n) 4616189618054758400
def own_q (n z : Int32) : UInt64 := if n = (0 : Int32) then (if z = (0 : Int32) then own_d n else FP.dneg (own_d n)) else own_d n
def own_ok (lo hi z y : Int32) : Prop := ¬ (0 : Int32) < cmpValue (FP.dcmp 0 (own_q lo z)) .g ∧ ¬ (0 : Int32) < cmpValue (FP.dcmp (own_q lo z) (own_q hi y)) .g ∧ cmpValue (FP.dcmp (own_q hi y) 9218868437227405312) .g < (0 : Int32) ∧ (if cmpValue (FP.dcmp (own_q hi y) 0) .l = (0 : Int32) then (1 : Int32) else (0 : Int32)) = (if hi = (0 : Int32) then (1 : Int32) else (0 : Int32)) ∧ Jvm.Free.Fl.NoNaN64 (own_d lo) ∧ Jvm.Free.Fl.NoNaN64 (own_d hi)
instance (lo hi z y : Int32) : Decidable (own_ok lo hi z y) := by unfold own_ok Jvm.Free.Fl.NoNaN64; infer_instance
set_option maxRecDepth 65536 in
theorem own_all : ∀ i j : Fin 8, ∀ b d : Bool, own_ok (Int32.ofNat i.1) (Int32.ofNat (i.1 + j.1)) (if b then 0 else 1) (if d then 0 else 1) := by decide +kernel
theorem own_rng (x y lo hi : Int32) (h1 : x &&& (7 : Int32) = lo) (h2 : lo + (y &&& (7 : Int32)) = hi) : ∃ i j : Fin 8, lo = Int32.ofNat i.1 ∧ hi = Int32.ofNat (i.1 + j.1) := by
  have e1 := c_mask x 7 3 (by decide) (by decide)
  have e2 := c_mask y 7 3 (by decide) (by decide)
  rw [h1] at e1
  have e3 := c_iadd lo (y &&& 7)
  rw [h2] at e3
  have r := rng32 hi
  refine ⟨⟨lo.toInt.toNat, by omega⟩, ⟨(y &&& 7).toInt.toNat, by omega⟩, ?_, ?_⟩
  · rw [← Int32.toInt_inj, Int32.toInt_ofNat_of_lt (by show lo.toInt.toNat < 2147483648; omega)]; show lo.toInt = (lo.toInt.toNat : Int); omega
  · rw [← Int32.toInt_inj, Int32.toInt_ofNat_of_lt (by show lo.toInt.toNat + (y &&& 7).toInt.toNat < 2147483648; omega)]; show hi.toInt = ((lo.toInt.toNat + (y &&& 7).toInt.toNat : Nat) : Int); omega
theorem own_okOf (x y lo hi z w : Int32) (P R : Prop) [Decidable P] [Decidable R] (h1 : x &&& (7 : Int32) = lo) (h2 : lo + (y &&& (7 : Int32)) = hi) (h3 : (if P then (0 : Int32) else (1 : Int32)) = z) (h4 : (if R then (0 : Int32) else (1 : Int32)) = w) : own_ok lo hi z w := by
  obtain ⟨i, j, rfl, rfl⟩ := own_rng x y lo hi h1 h2
  subst h3 h4
  have q := own_all i j (decide P) (decide R)
  simpa using q
theorem own_pn_com_example_focus_on_games_focusongames_model_StateRewardsIsZeroPinLaw : plainName "com/example/focus_on_games/focusongames/model/StateRewardsIsZeroPinLaw" = true := by first | (simp [plainName, overriddenIn]; done) | decide +kernel
theorem own_ef_1 (m : MethodId) (x0 : Int32) (x1 : Int32) : entryFrame m #[(.int x0), (.int x1)] 4 = mkF m 0 #[.val (.int x0), .val (.int x1), .unset, .unset] [] := by first | (simp [entryFrame, mkF, argsToLocals, Value.category]; done) | rfl
def Q1 (Z : State) (p0 : Int32) (p1 : Int32) (h0 : Heap) (n0 : Nat) (v : Option Value) (h : Heap) (L : List Loc) : Prop := v = some (.double (own_q p0 p1)) ∧ Fr n0 L ∧ h = h0
theorem own_d1_0 : decode method_3_code 0 = .ok (.iload_n 0, 1) := by decide +kernel
theorem own_d1_1 : decode method_3_code 1 = .ok (.i2d, 1) := by decide +kernel
theorem own_d1_2 : decode method_3_code 2 = .ok (.ldc2_w 22, 3) := by decide +kernel
theorem own_d1_5 : decode method_3_code 5 = .ok (.ddiv, 1) := by decide +kernel
theorem own_d1_6 : decode method_3_code 6 = .ok (.dstore_n 2, 1) := by decide +kernel
theorem own_d1_7 : decode method_3_code 7 = .ok (.iload_n 0, 1) := by decide +kernel
theorem own_d1_8 : decode method_3_code 8 = .ok (.ifCond .ne 10, 3) := by decide +kernel
theorem own_d1_11 : decode method_3_code 11 = .ok (.iload_n 1, 1) := by decide +kernel
theorem own_d1_12 : decode method_3_code 12 = .ok (.ifCond .eq 6, 3) := by decide +kernel
theorem own_d1_18 : decode method_3_code 18 = .ok (.dload_n 2, 1) := by decide +kernel
theorem own_d1_19 : decode method_3_code 19 = .ok (.dreturn, 1) := by decide +kernel
theorem own_d1_15 : decode method_3_code 15 = .ok (.dload_n 2, 1) := by decide +kernel
theorem own_d1_16 : decode method_3_code 16 = .ok (.dneg, 1) := by decide +kernel
theorem own_d1_17 : decode method_3_code 17 = .ok (.dreturn, 1) := by decide +kernel
set_option maxRecDepth 65536 in
set_option maxHeartbeats 40000000 in
theorem rm1 (l : Launch) (Z : State) (a0 : Array Value) (hw : ∀ d ∈ tables_1, d.before a0 Z = true) (ws : List Jvm.Cond) (p0 : Int32) (p1 : Int32) (h0 : Heap) (n0 : Nat) (O0 : Old Z n0 h0) (hnn : Jvm.Free.Fl.NoNaN64 (own_d p0)) :
    MetFree l (⟨"com/example/focus_on_games/focusongames/model/StateRewardsIsZeroPinLaw", "quarter", "(IZ)D"⟩ : MethodName) (head1 (Jvm.Cond.code (⟨"com/example/focus_on_games/focusongames/model/StateRewardsIsZeroPinLaw", "quarter", "(IZ)D"⟩ : MethodName) method_3_code 4 (some .double) :: ws) ({ frames := 0, cells := 0, slots := 0, locals := 0 } : Room)) (fun a U => a = #[(.int p0), (.int p1)] ∧ Z.Warmed39 U.vm ∧ U.heap = h0) (fun _ _ _ _ _ => True) (fun _ U o U' => ∃ v L, o = .returned v ∧ Q1 Z p0 p1 h0 n0 v U'.heap L ∧ FrameEnd U o U' L ({ frames := 0, cells := 0, slots := 0, locals := 0 } : Room).cells ({ frames := 0, cells := 0, slots := 0, locals := 0 } : Room).slots) := by
  refine MetFree.of_bodySF (plainFor_of_name own_pn_com_example_focus_on_games_focusongames_model_StateRewardsIsZeroPinLaw) hisR ?_
  intro p e s m args below meth c s₁ Bd hml0 hP hK
  obtain ⟨rfl, hZ, hh⟩ := hP
  have hx := Bd.exec
  have hby := Bd.bytes
  have hml : c.maxLocals = 4 := hml0
  have hown : s.vm.findClass "com/example/focus_on_games/focusongames/model/StateRewardsIsZeroPinLaw" = some m.cls := findClass_of_methodNamed Bd.named
  have hnm := (name_of_methodNamed Bd.named Bd.method).1
  have X0 : Stand p l e ({ frames := 0, cells := 0, slots := 0, locals := 0 } : Room) s m #[(.int p0), (.int p1)] below meth c s₁ [] 0 0 := Stand.of_body Bd
  have e0 : s₁.heap = h0 := by rw [← hh, Bd.state]; rfl
  have N0 := Fr.nil n0
  change Go p.tables e below _ _
  refine own_on (B := s₁.setTop (mkF m 0 #[.val (.int p0), .val (.int p1), .unset, .unset] [])) (fun tz kz => castTop (own_ef_1 m p0 p1) kz) ?_
  refine own_on (B := s₁.setTop (mkF m 8 #[.val (.int p0), .val (.int p1), .val (.double (FP.ddiv (FP.i2d p0) 4616189618054758400)), .second] [(.int p0)])) (fun tz kz => ?_) ?_
  · show Steps p.tables e below (s₁.setTop (mkF m 0 #[.val (.int p0), .val (.int p1), .unset, .unset] [])) tz
    refine XS.iloadN X0.here hx rfl (hb hby own_d1_0) rfl ?_
    show Steps p.tables e below (s₁.setTop (mkF m 1 #[.val (.int p0), .val (.int p1), .unset, .unset] [(.int p0)])) tz
    refine XS.i2dS X0.here hx rfl (hb hby own_d1_1) rfl (v := (FP.i2d p0)) rfl ?_
    show Steps p.tables e below (s₁.setTop (mkF m 2 #[.val (.int p0), .val (.int p1), .unset, .unset] [(.double (FP.i2d p0))])) tz
    refine X0.ldc2DoubleC hx hown (mvT hZ (hw _ (List.mem_of_getElem? (i := 5) rfl))) (g := (mkF m 2 #[.val (.int p0), .val (.int p1), .unset, .unset] [(.double (FP.i2d p0))])) rfl (hb hby own_d1_2) _ ?_
    show Steps p.tables e below (s₁.setTop (mkF m 5 #[.val (.int p0), .val (.int p1), .unset, .unset] [(.double 4616189618054758400), (.double (FP.i2d p0))])) tz
    refine XS.ddivS X0.here hx rfl (hb hby own_d1_5) rfl hnn (v := (FP.ddiv (FP.i2d p0) 4616189618054758400)) rfl ?_
    show Steps p.tables e below (s₁.setTop (mkF m 6 #[.val (.int p0), .val (.int p1), .unset, .unset] [(.double (FP.ddiv (FP.i2d p0) 4616189618054758400))])) tz
    refine XS.dstoreN X0.here hx rfl (hb hby own_d1_6) rfl (l' := #[.val (.int p0), .val (.int p1), .val (.double (FP.ddiv (FP.i2d p0) 4616189618054758400)), .second]) rfl ?_
    show Steps p.tables e below (s₁.setTop (mkF m 7 #[.val (.int p0), .val (.int p1), .val (.double (FP.ddiv (FP.i2d p0) 4616189618054758400)), .second] [])) tz
    refine XS.iloadN X0.here hx rfl (hb hby own_d1_7) rfl ?_
    exact kz
  by_cases hp0 : p0 = (0 : Int32)
  · refine own_on (B := s₁.setTop (mkF m 12 #[.val (.int p0), .val (.int p1), .val (.double (FP.ddiv (FP.i2d p0) 4616189618054758400)), .second] [(.int p1)])) (fun tz kz => ?_) ?_
    · show Steps p.tables e below (s₁.setTop (mkF m 8 #[.val (.int p0), .val (.int p1), .val (.double (FP.ddiv (FP.i2d p0) 4616189618054758400)), .second] [(.int p0)])) tz
      refine XS.ifNo X0.here hx rfl (hb hby own_d1_8) rfl ((if0 _ _).trans (teq hp0).2) ?_
      show Steps p.tables e below (s₁.setTop (mkF m 11 #[.val (.int p0), .val (.int p1), .val (.double (FP.ddiv (FP.i2d p0) 4616189618054758400)), .second] [])) tz
      refine XS.iloadN X0.here hx rfl (hb hby own_d1_11) rfl ?_
      exact kz
    by_cases hp1 : p1 = (0 : Int32)
    · refine own_on (B := s₁.setTop (mkF m 19 #[.val (.int p0), .val (.int p1), .val (.double (FP.ddiv (FP.i2d p0) 4616189618054758400)), .second] [(.double (FP.ddiv (FP.i2d p0) 4616189618054758400))])) (fun tz kz => ?_) ?_
      · show Steps p.tables e below (s₁.setTop (mkF m 12 #[.val (.int p0), .val (.int p1), .val (.double (FP.ddiv (FP.i2d p0) 4616189618054758400)), .second] [(.int p1)])) tz
        refine XS.ifYes X0.here hx rfl (pc0 := 12) (pc' := 18) rfl (hb hby own_d1_12) rfl ((if0 _ _).trans (teq hp1).1) (by decide) (by decide) ?_
        show Steps p.tables e below (s₁.setTop (mkF m 18 #[.val (.int p0), .val (.int p1), .val (.double (FP.ddiv (FP.i2d p0) 4616189618054758400)), .second] [])) tz
        refine XS.dloadN X0.here hx rfl (hb hby own_d1_18) rfl ?_
        exact kz
      obtain ⟨fs, hr, hrun, hended, hW, hsame⟩ := X0.leave (v := some (.double (FP.ddiv (FP.i2d p0) 4616189618054758400))) (fun h => by rw [Bd.returns] at h; cases h)
      refine own_of ⟨_, _, ?_, hrun, hended, _, _, rfl, ?_, ⟨_, rfl⟩, hW, hsame.mono (by decide) (by decide)⟩
      · show Steps p.tables e below (s₁.setTop (mkF m 19 #[.val (.int p0), .val (.int p1), .val (.double (FP.ddiv (FP.i2d p0) 4616189618054758400)), .second] [(.double (FP.ddiv (FP.i2d p0) 4616189618054758400))])) _
        exact own_retD X0 hx Bd.returns (hb hby own_d1_19) hr
      · show Q1 Z p0 p1 h0 n0 _ s₁.heap _
        rw [e0]
        exact ⟨by rw [own_q, if_pos hp0, if_pos hp1]; rfl, N0, rfl⟩
    · refine own_on (B := s₁.setTop (mkF m 17 #[.val (.int p0), .val (.int p1), .val (.double (FP.ddiv (FP.i2d p0) 4616189618054758400)), .second] [(.double (FP.dneg (FP.ddiv (FP.i2d p0) 4616189618054758400)))])) (fun tz kz => ?_) ?_
      · show Steps p.tables e below (s₁.setTop (mkF m 12 #[.val (.int p0), .val (.int p1), .val (.double (FP.ddiv (FP.i2d p0) 4616189618054758400)), .second] [(.int p1)])) tz
        refine XS.ifNo X0.here hx rfl (hb hby own_d1_12) rfl ((if0 _ _).trans (feq hp1).1) ?_
        show Steps p.tables e below (s₁.setTop (mkF m 15 #[.val (.int p0), .val (.int p1), .val (.double (FP.ddiv (FP.i2d p0) 4616189618054758400)), .second] [])) tz
        refine XS.dloadN X0.here hx rfl (hb hby own_d1_15) rfl ?_
        show Steps p.tables e below (s₁.setTop (mkF m 16 #[.val (.int p0), .val (.int p1), .val (.double (FP.ddiv (FP.i2d p0) 4616189618054758400)), .second] [(.double (FP.ddiv (FP.i2d p0) 4616189618054758400))])) tz
        refine XS.dnegS X0.here hx rfl (hb hby own_d1_16) rfl (v := (FP.dneg (FP.ddiv (FP.i2d p0) 4616189618054758400))) rfl ?_
        exact kz
      obtain ⟨fs, hr, hrun, hended, hW, hsame⟩ := X0.leave (v := some (.double (FP.dneg (FP.ddiv (FP.i2d p0) 4616189618054758400)))) (fun h => by rw [Bd.returns] at h; cases h)
      refine own_of ⟨_, _, ?_, hrun, hended, _, _, rfl, ?_, ⟨_, rfl⟩, hW, hsame.mono (by decide) (by decide)⟩
      · show Steps p.tables e below (s₁.setTop (mkF m 17 #[.val (.int p0), .val (.int p1), .val (.double (FP.ddiv (FP.i2d p0) 4616189618054758400)), .second] [(.double (FP.dneg (FP.ddiv (FP.i2d p0) 4616189618054758400)))])) _
        exact own_retD X0 hx Bd.returns (hb hby own_d1_17) hr
      · show Q1 Z p0 p1 h0 n0 _ s₁.heap _
        rw [e0]
        exact ⟨by rw [own_q, if_pos hp0, if_neg hp1]; rfl, N0, rfl⟩
  · refine own_on (B := s₁.setTop (mkF m 19 #[.val (.int p0), .val (.int p1), .val (.double (FP.ddiv (FP.i2d p0) 4616189618054758400)), .second] [(.double (FP.ddiv (FP.i2d p0) 4616189618054758400))])) (fun tz kz => ?_) ?_
    · show Steps p.tables e below (s₁.setTop (mkF m 8 #[.val (.int p0), .val (.int p1), .val (.double (FP.ddiv (FP.i2d p0) 4616189618054758400)), .second] [(.int p0)])) tz
      refine XS.ifYes X0.here hx rfl (pc0 := 8) (pc' := 18) rfl (hb hby own_d1_8) rfl ((if0 _ _).trans (feq hp0).2) (by decide) (by decide) ?_
      show Steps p.tables e below (s₁.setTop (mkF m 18 #[.val (.int p0), .val (.int p1), .val (.double (FP.ddiv (FP.i2d p0) 4616189618054758400)), .second] [])) tz
      refine XS.dloadN X0.here hx rfl (hb hby own_d1_18) rfl ?_
      exact kz
    obtain ⟨fs, hr, hrun, hended, hW, hsame⟩ := X0.leave (v := some (.double (FP.ddiv (FP.i2d p0) 4616189618054758400))) (fun h => by rw [Bd.returns] at h; cases h)
    refine own_of ⟨_, _, ?_, hrun, hended, _, _, rfl, ?_, ⟨_, rfl⟩, hW, hsame.mono (by decide) (by decide)⟩
    · show Steps p.tables e below (s₁.setTop (mkF m 19 #[.val (.int p0), .val (.int p1), .val (.double (FP.ddiv (FP.i2d p0) 4616189618054758400)), .second] [(.double (FP.ddiv (FP.i2d p0) 4616189618054758400))])) _
      exact own_retD X0 hx Bd.returns (hb hby own_d1_19) hr
    · show Q1 Z p0 p1 h0 n0 _ s₁.heap _
      rw [e0]
      exact ⟨by rw [own_q, if_neg hp0]; rfl, N0, rfl⟩
theorem own_pn_java_util_Arrays : plainName "java/util/Arrays" = true := by first | (simp [plainName, overriddenIn]; done) | decide +kernel
theorem own_ef_4 (m : MethodId) (x0 : Addr) (x1 : Int32) : entryFrame m #[(.ref x0), (.int x1)] 3 = mkF m 0 #[.val (.ref x0), .val (.int x1), .unset] [] := by first | (simp [entryFrame, mkF, argsToLocals, Value.category]; done) | rfl
def Q4 (Z : State) (u0 : Addr) (kk : ClassId) (x0 : UInt64) (x1 : UInt64) (h0 : Heap) (n0 : Nat) (v : Option Value) (h : Heap) (L : List Loc) : Prop := ∃ d : Addr, v = some (.ref d) ∧ Fr n0 L ∧ Keep h0 h [] ∧ h0.size ≤ d ∧ Arv Z h d kk .double 2 [(.double x0), (.double x1)] (.double 0) ∧ Exa Z h d "[D"
theorem own_d4_0 : decode jdk_65_method_127_code 0 = .ok (.iload_n 1, 1) := by decide +kernel
theorem own_d4_1 : decode jdk_65_method_127_code 1 = .ok (.aload_n 0, 1) := by decide +kernel
theorem own_d4_2 : decode jdk_65_method_127_code 2 = .ok (.arraylength, 1) := by decide +kernel
theorem own_d4_3 : decode jdk_65_method_127_code 3 = .ok (.if_icmp .ne 11, 3) := by decide +kernel
theorem own_d4_6 : decode jdk_65_method_127_code 6 = .ok (.aload_n 0, 1) := by decide +kernel
theorem own_d4_7 : decode jdk_65_method_127_code 7 = .ok (.invokevirtual 328, 3) := by decide +kernel
theorem own_d4_10 : decode jdk_65_method_127_code 10 = .ok (.checkcast 329, 3) := by decide +kernel
theorem own_d4_13 : decode jdk_65_method_127_code 13 = .ok (.areturn, 1) := by decide +kernel
set_option maxRecDepth 65536 in
set_option maxHeartbeats 40000000 in
theorem rm4 (l : Launch) (Z : State) (a0 : Array Value) (hw : ∀ d ∈ tables_1, d.before a0 Z = true) (ws : List Jvm.Cond) (u0 : Addr) (kk : ClassId) (x0 : UInt64) (x1 : UInt64) (h0 : Heap) (n0 : Nat) (O0 : Old Z n0 h0) (Va : Arv Z h0 u0 kk .double 2 [(.double x0), (.double x1)] (.double 0)) (Ea : Exa Z h0 u0 "[D") :
    MetFree l (⟨"java/util/Arrays", "copyOf", "([DI)[D"⟩ : MethodName) (head1 (Jvm.Cond.code (⟨"java/util/Arrays", "copyOf", "([DI)[D"⟩ : MethodName) jdk_65_method_127_code 3 (some (.array .double)) :: ws) ({ frames := 1, cells := 1, slots := 2, locals := 20 } : Room)) (fun a U => a = #[(.ref u0), (.int (2 : Int32))] ∧ Z.Warmed39 U.vm ∧ U.heap = h0) (fun _ _ _ _ _ => True) (fun _ U o U' => ∃ v L, o = .returned v ∧ Q4 Z u0 kk x0 x1 h0 n0 v U'.heap L ∧ FrameEnd U o U' L ({ frames := 1, cells := 1, slots := 2, locals := 20 } : Room).cells ({ frames := 1, cells := 1, slots := 2, locals := 20 } : Room).slots) := by
  refine MetFree.of_bodySF (plainFor_of_name own_pn_java_util_Arrays) hisR ?_
  intro p e s m args below meth c s₁ Bd hml0 hP hK
  obtain ⟨rfl, hZ, hh⟩ := hP
  have hx := Bd.exec
  have hby := Bd.bytes
  have hml : c.maxLocals = 3 := hml0
  have hown : s.vm.findClass "java/util/Arrays" = some m.cls := findClass_of_methodNamed Bd.named
  have hnm := (name_of_methodNamed Bd.named Bd.method).1
  have X0 : Stand p l e ({ frames := 1, cells := 1, slots := 2, locals := 20 } : Room) s m #[(.ref u0), (.int (2 : Int32))] below meth c s₁ [] 0 0 := Stand.of_body Bd
  have e0 : s₁.heap = h0 := by rw [← hh, Bd.state]; rfl
  have N0 := Fr.nil n0
  change Go p.tables e below _ _
  refine own_on (B := s₁.setTop (mkF m 0 #[.val (.ref u0), .val (.int (2 : Int32)), .unset] [])) (fun tz kz => castTop (own_ef_4 m u0 (2 : Int32)) kz) ?_
  refine own_on (B := s₁.setTop (mkF m 2 #[.val (.ref u0), .val (.int (2 : Int32)), .unset] [(.ref u0), (.int (2 : Int32))])) (fun tz kz => ?_) ?_
  · show Steps p.tables e below (s₁.setTop (mkF m 0 #[.val (.ref u0), .val (.int (2 : Int32)), .unset] [])) tz
    refine XS.iloadN X0.here hx rfl (hb hby own_d4_0) rfl ?_
    show Steps p.tables e below (s₁.setTop (mkF m 1 #[.val (.ref u0), .val (.int (2 : Int32)), .unset] [(.int (2 : Int32))])) tz
    refine XS.aloadN X0.here hx rfl (hb hby own_d4_1) rfl rfl ?_
    exact kz
  obtain ⟨cl1, Ar1, q1, S1, M1, H1, G1⟩ := id Va
  refine own_on (B := s₁.setTop (mkF m 7 #[.val (.ref u0), .val (.int (2 : Int32)), .unset] [(.ref u0)])) (fun tz kz => ?_) ?_
  · show Steps p.tables e below (s₁.setTop (mkF m 2 #[.val (.ref u0), .val (.int (2 : Int32)), .unset] [(.ref u0), (.int (2 : Int32))])) tz
    refine X0.arraylength hx (by rw [e0]; exact Ar1.1) (State.isArrayOf_alike hZ.alike Ar1.2.1) (g := (mkF m 2 #[.val (.ref u0), .val (.int (2 : Int32)), .unset] [(.ref u0), (.int (2 : Int32))])) rfl rfl (hb hby own_d4_2) _ ?_
    rw [len_of S1 M1]
    show Steps p.tables e below (s₁.setTop (mkF m 3 #[.val (.ref u0), .val (.int (2 : Int32)), .unset] [(.int (2 : Int32)), (.int (2 : Int32))])) tz
    refine XS.icmpNo X0.here hx rfl (hb hby own_d4_3) rfl (teq rfl).2 ?_
    show Steps p.tables e below (s₁.setTop (mkF m 6 #[.val (.ref u0), .val (.int (2 : Int32)), .unset] [])) tz
    refine XS.aloadN X0.here hx rfl (hb hby own_d4_6) rfl rfl ?_
    exact kz
  obtain ⟨cl2, Ar2, q2, S2, M2, H2, G2⟩ := id Va
  obtain ⟨T3, h3, X3, e3, E3, A3, Ex3, st3⟩ := cloneA X0 hx hZ hown (hw _ (List.mem_of_getElem? (i := 20) rfl)) (hw _ (List.mem_of_getElem? (i := 21) rfl)) (hw _ (List.mem_of_getElem? (i := 25) rfl)) (hw _ (List.mem_of_getElem? (i := 23) rfl)) (hw _ (List.mem_of_getElem? (i := 24) rfl)) (hw _ (List.mem_of_getElem? (i := 26) rfl)) e0 Ar2 Ea (own_fitc Ar2 H2 G2) (g := (mkF m 7 #[.val (.ref u0), .val (.int (2 : Int32)), .unset] [(.ref u0)])) rfl (by rw [hml]; rfl) rfl (hb hby own_d4_7) (by decide) (W := 0) (cap := 2) (by show 2 * 0 + _ ≤ _; exact Nat.le_of_eq rfl) (by decide) (by rw [S2]; decide) (by decide) (by decide)
  obtain ⟨b3, g3⟩ : ∃ z, z = h0.size := ⟨_, rfl⟩
  rw [← g3] at A3 Ex3 st3
  have ne_u0_b3 : u0 ≠ b3 := Nat.ne_of_lt (Nat.lt_of_lt_of_le (Va).lt (Nat.le_of_eq g3.symm))
  have g_b3 : n0 ≤ b3 := Nat.le_trans (own_old O0) (Nat.le_of_eq g3.symm)
  have sz_b3 : h0.size ≤ b3 := Nat.le_trans (Keep.refl h0 []).1 (Nat.le_of_eq g3.symm)
  have O4 := O0.ext E3
  have K4 : Keep h0 h3 [] := (Keep.refl h0 []).ext E3
  have V3 := own_clone A3 q2 S2 M2 H2 G2
  refine own_on (B := T3.setTop (mkF m 10 #[.val (.ref u0), .val (.int (2 : Int32)), .unset] [(.ref b3)])) (fun tz kz => st3 _ kz) ?_
  obtain ⟨T5, X5, e5, st5⟩ := castY X3 hx hZ hown (hw _ (List.mem_of_getElem? (i := 27) rfl)) e3 (Ins.self Ex3) (g := (mkF m 10 #[.val (.ref u0), .val (.int (2 : Int32)), .unset] [(.ref b3)])) rfl rfl (hb hby own_d4_10)
  refine own_on (B := T5.setTop (mkF m 13 #[.val (.ref u0), .val (.int (2 : Int32)), .unset] [(.ref b3)])) (fun tz kz => st5 _ kz) ?_
  obtain ⟨fs, hr, hrun, hended, hW, hsame⟩ := X5.leave (v := some (.ref b3)) (fun h => by rw [Bd.returns] at h; cases h)
  refine own_of ⟨_, _, ?_, hrun, hended, _, _, rfl, ?_, ⟨_, rfl⟩, hW, hsame.mono (by decide) (by decide)⟩
  · show Steps p.tables e below (T5.setTop (mkF m 13 #[.val (.ref u0), .val (.int (2 : Int32)), .unset] [(.ref b3)])) _
    exact own_retV X5 hx Bd.returns rfl rfl (hb hby own_d4_13) hr
  · show Q4 Z u0 kk x0 x1 h0 n0 _ T5.heap _
    rw [e5]
    exact ⟨b3, rfl, N0, K4, sz_b3, V3, Ex3⟩
theorem own_pn_com_example_focus_on_games_focusongames_model_StateRewards : plainName "com/example/focus_on_games/focusongames/model/StateRewards" = true := by first | (simp [plainName, overriddenIn]; done) | decide +kernel
theorem own_ef_2 (m : MethodId) (x0 : Addr) (x1 : Addr) (x2 : Addr) : entryFrame m #[(.ref x0), (.ref x1), (.ref x2)] 4 = mkF m 0 #[.val (.ref x0), .val (.ref x1), .val (.ref x2), .unset] [] := by first | (simp [entryFrame, mkF, argsToLocals, Value.category]; done) | rfl
def Q2 (Z : State) (u0 : Addr) (u1 : Addr) (u2 : Addr) (kx : ClassId) (ky : ClassId) (x0 : UInt64) (x1 : UInt64) (y0 : UInt64) (y1 : UInt64) (h0 : Heap) (n0 : Nat) (v : Option Value) (h : Heap) (L : List Loc) : Prop := ∃ d : Addr, v = none ∧ Fr n0 L ∧ Keep h0 h [u0] ∧ Fld Z h u0 "com/example/focus_on_games/focusongames/model/StateRewards" "above" "[D" (.ref d) ∧ Arv Z h d ky .double 2 [(.double y0), (.double y1)] (.double 0)
theorem own_d2_0 : decode prog_75_method_1_code 0 = .ok (.aload_n 0, 1) := by decide +kernel
theorem own_d2_1 : decode prog_75_method_1_code 1 = .ok (.invokespecial 1, 3) := by decide +kernel
theorem own_d2_4 : decode prog_75_method_1_code 4 = .ok (.aload_n 1, 1) := by decide +kernel
theorem own_d2_5 : decode prog_75_method_1_code 5 = .ok (.arraylength, 1) := by decide +kernel
theorem own_d2_6 : decode prog_75_method_1_code 6 = .ok (.aload_n 2, 1) := by decide +kernel
theorem own_d2_7 : decode prog_75_method_1_code 7 = .ok (.arraylength, 1) := by decide +kernel
theorem own_d2_8 : decode prog_75_method_1_code 8 = .ok (.if_icmp .eq 20, 3) := by decide +kernel
theorem own_d2_28 : decode prog_75_method_1_code 28 = .ok (.iconst 0, 1) := by decide +kernel
theorem own_d2_29 : decode prog_75_method_1_code 29 = .ok (.istore_n 3, 1) := by decide +kernel
theorem own_d2_30 : decode prog_75_method_1_code 30 = .ok (.iload_n 3, 1) := by decide +kernel
theorem own_d2_31 : decode prog_75_method_1_code 31 = .ok (.aload_n 1, 1) := by decide +kernel
theorem own_d2_32 : decode prog_75_method_1_code 32 = .ok (.arraylength, 1) := by decide +kernel
theorem own_d2_33 : decode prog_75_method_1_code 33 = .ok (.if_icmp .ge 57, 3) := by decide +kernel
theorem own_d2_36 : decode prog_75_method_1_code 36 = .ok (.dconst 0, 1) := by decide +kernel
theorem own_d2_37 : decode prog_75_method_1_code 37 = .ok (.aload_n 1, 1) := by decide +kernel
theorem own_d2_38 : decode prog_75_method_1_code 38 = .ok (.iload_n 3, 1) := by decide +kernel
theorem own_d2_39 : decode prog_75_method_1_code 39 = .ok (.daload, 1) := by decide +kernel
theorem own_d2_40 : decode prog_75_method_1_code 40 = .ok (.dcmp .g, 1) := by decide +kernel
theorem own_d2_41 : decode prog_75_method_1_code 41 = .ok (.ifCond .gt 23, 3) := by decide +kernel
theorem own_d2_44 : decode prog_75_method_1_code 44 = .ok (.aload_n 1, 1) := by decide +kernel
theorem own_d2_45 : decode prog_75_method_1_code 45 = .ok (.iload_n 3, 1) := by decide +kernel
theorem own_d2_46 : decode prog_75_method_1_code 46 = .ok (.daload, 1) := by decide +kernel
theorem own_d2_47 : decode prog_75_method_1_code 47 = .ok (.aload_n 2, 1) := by decide +kernel
theorem own_d2_48 : decode prog_75_method_1_code 48 = .ok (.iload_n 3, 1) := by decide +kernel
theorem own_d2_49 : decode prog_75_method_1_code 49 = .ok (.daload, 1) := by decide +kernel
theorem own_d2_50 : decode prog_75_method_1_code 50 = .ok (.dcmp .g, 1) := by decide +kernel
theorem own_d2_51 : decode prog_75_method_1_code 51 = .ok (.ifCond .gt 13, 3) := by decide +kernel
theorem own_d2_54 : decode prog_75_method_1_code 54 = .ok (.aload_n 2, 1) := by decide +kernel
theorem own_d2_55 : decode prog_75_method_1_code 55 = .ok (.iload_n 3, 1) := by decide +kernel
theorem own_d2_56 : decode prog_75_method_1_code 56 = .ok (.daload, 1) := by decide +kernel
theorem own_d2_57 : decode prog_75_method_1_code 57 = .ok (.ldc2_w 18, 3) := by decide +kernel
theorem own_d2_60 : decode prog_75_method_1_code 60 = .ok (.dcmp .g, 1) := by decide +kernel
theorem own_d2_61 : decode prog_75_method_1_code 61 = .ok (.ifCond .lt 23, 3) := by decide +kernel
theorem own_d2_84 : decode prog_75_method_1_code 84 = .ok (.iinc 3 1, 3) := by decide +kernel
theorem own_d2_87 : decode prog_75_method_1_code 87 = .ok (.goto (-57), 3) := by decide +kernel
theorem own_d2_90 : decode prog_75_method_1_code 90 = .ok (.aload_n 0, 1) := by decide +kernel
theorem own_d2_91 : decode prog_75_method_1_code 91 = .ok (.aload_n 1, 1) := by decide +kernel
theorem own_d2_92 : decode prog_75_method_1_code 92 = .ok (.aload_n 1, 1) := by decide +kernel
theorem own_d2_93 : decode prog_75_method_1_code 93 = .ok (.arraylength, 1) := by decide +kernel
theorem own_pd0 : parseMethodDescriptor "([DI)[D" = some ⟨[(.array .double), .int], some (.array .double)⟩ := by decide +kernel
theorem own_d2_94 : decode prog_75_method_1_code 94 = .ok (.invokestatic 23, 3) := by decide +kernel
theorem own_d2_97 : decode prog_75_method_1_code 97 = .ok (.putfield 29, 3) := by decide +kernel
theorem own_d2_100 : decode prog_75_method_1_code 100 = .ok (.aload_n 0, 1) := by decide +kernel
theorem own_d2_101 : decode prog_75_method_1_code 101 = .ok (.aload_n 2, 1) := by decide +kernel
theorem own_d2_102 : decode prog_75_method_1_code 102 = .ok (.aload_n 2, 1) := by decide +kernel
theorem own_d2_103 : decode prog_75_method_1_code 103 = .ok (.arraylength, 1) := by decide +kernel
theorem own_d2_104 : decode prog_75_method_1_code 104 = .ok (.invokestatic 23, 3) := by decide +kernel
theorem own_d2_107 : decode prog_75_method_1_code 107 = .ok (.putfield 35, 3) := by decide +kernel
theorem own_d2_110 : decode prog_75_method_1_code 110 = .ok (.return_, 1) := by decide +kernel
set_option maxRecDepth 65536 in
set_option maxHeartbeats 40000000 in
theorem rm2 (l : Launch) (Z : State) (a0 : Array Value) (hw : ∀ d ∈ tables_1, d.before a0 Z = true) (ws : List Jvm.Cond) (u0 : Addr) (u1 : Addr) (u2 : Addr) (kx : ClassId) (ky : ClassId) (x0 : UInt64) (x1 : UInt64) (y0 : UInt64) (y1 : UInt64) (h0 : Heap) (n0 : Nat) (O0 : Old Z n0 h0) (E_u0 : Exa Z h0 u0 "com/example/focus_on_games/focusongames/model/StateRewards") (g_u0 : n0 ≤ u0) (F_below : Fld Z h0 u0 "com/example/focus_on_games/focusongames/model/StateRewards" "below" "[D" .null) (F_above : Fld Z h0 u0 "com/example/focus_on_games/focusongames/model/StateRewards" "above" "[D" .null) (Vx : Arv Z h0 u1 kx .double 2 [(.double x0), (.double x1)] (.double 0)) (Ex : Exa Z h0 u1 "[D") (Vy : Arv Z h0 u2 ky .double 2 [(.double y0), (.double y1)] (.double 0)) (Ey : Exa Z h0 u2 "[D") (n01 : u0 ≠ u1) (n02 : u0 ≠ u2) (hz0 : ¬ ((0 : Int32) < (cmpValue (FP.dcmp 0 x0) .g))) (hl0 : ¬ ((0 : Int32) < (cmpValue (FP.dcmp x0 y0) .g))) (hi0 : (cmpValue (FP.dcmp y0 9218868437227405312) .g) < (0 : Int32)) (hz1 : ¬ ((0 : Int32) < (cmpValue (FP.dcmp 0 x1) .g))) (hl1 : ¬ ((0 : Int32) < (cmpValue (FP.dcmp x1 y1) .g))) (hi1 : (cmpValue (FP.dcmp y1 9218868437227405312) .g) < (0 : Int32)) :
    MetFree l (⟨"com/example/focus_on_games/focusongames/model/StateRewards", "<init>", "([D[D)V"⟩ : MethodName) (head1 (Jvm.Cond.code (⟨"com/example/focus_on_games/focusongames/model/StateRewards", "<init>", "([D[D)V"⟩ : MethodName) prog_75_method_1_code 4 none :: ws) ({ frames := 2, cells := 2, slots := 4, locals := 48 } : Room)) (fun a U => a = #[(.ref u0), (.ref u1), (.ref u2)] ∧ Z.Warmed39 U.vm ∧ U.heap = h0) (fun _ _ _ _ _ => True) (fun _ U o U' => ∃ v L, o = .returned v ∧ Q2 Z u0 u1 u2 kx ky x0 x1 y0 y1 h0 n0 v U'.heap L ∧ FrameEnd U o U' L ({ frames := 2, cells := 2, slots := 4, locals := 48 } : Room).cells ({ frames := 2, cells := 2, slots := 4, locals := 48 } : Room).slots) := by
  refine MetFree.of_bodySF (plainFor_of_name own_pn_com_example_focus_on_games_focusongames_model_StateRewards) hisR ?_
  intro p e s m args below meth c s₁ Bd hml0 hP hK
  obtain ⟨rfl, hZ, hh⟩ := hP
  have hx := Bd.exec
  have hby := Bd.bytes
  have hml : c.maxLocals = 4 := hml0
  have hown : s.vm.findClass "com/example/focus_on_games/focusongames/model/StateRewards" = some m.cls := findClass_of_methodNamed Bd.named
  have hnm := (name_of_methodNamed Bd.named Bd.method).1
  have X0 : Stand p l e ({ frames := 2, cells := 2, slots := 4, locals := 48 } : Room) s m #[(.ref u0), (.ref u1), (.ref u2)] below meth c s₁ [] 0 0 := Stand.of_body Bd
  have e0 : s₁.heap = h0 := by rw [← hh, Bd.state]; rfl
  have N0 := Fr.nil n0
  change Go p.tables e below _ _
  refine own_on (B := s₁.setTop (mkF m 0 #[.val (.ref u0), .val (.ref u1), .val (.ref u2), .unset] [])) (fun tz kz => castTop (own_ef_2 m u0 u1 u2) kz) ?_
  refine own_on (B := s₁.setTop (mkF m 1 #[.val (.ref u0), .val (.ref u1), .val (.ref u2), .unset] [(.ref u0)])) (fun tz kz => ?_) ?_
  · show Steps p.tables e below (s₁.setTop (mkF m 0 #[.val (.ref u0), .val (.ref u1), .val (.ref u2), .unset] [])) tz
    refine XS.aloadN X0.here hx rfl (hb hby own_d2_0) rfl rfl ?_
    exact kz
  obtain ⟨T1, X1, e1, st1⟩ := initO X0 hx hZ hown (hw _ (List.mem_of_getElem? (i := 12) rfl)) (hw _ (List.mem_of_getElem? (i := 13) rfl)) (hw _ (List.mem_of_getElem? (i := 14) rfl)) e0 (g := (mkF m 1 #[.val (.ref u0), .val (.ref u1), .val (.ref u2), .unset] [(.ref u0)])) rfl (by rw [hml]; rfl) rfl (hb hby own_d2_1) (by decide) (W := 0) (by show 2 * 0 + _ ≤ _; exact Nat.le_of_eq rfl) (by decide)
  refine own_on (B := T1.setTop (mkF m 4 #[.val (.ref u0), .val (.ref u1), .val (.ref u2), .unset] [])) (fun tz kz => st1 _ kz) ?_
  refine own_on (B := T1.setTop (mkF m 5 #[.val (.ref u0), .val (.ref u1), .val (.ref u2), .unset] [(.ref u1)])) (fun tz kz => ?_) ?_
  · show Steps p.tables e below (T1.setTop (mkF m 4 #[.val (.ref u0), .val (.ref u1), .val (.ref u2), .unset] [])) tz
    refine XS.aloadN X1.here hx rfl (hb hby own_d2_4) rfl rfl ?_
    exact kz
  obtain ⟨cl2, Ar2, q2, S2, M2, H2, G2⟩ := id Vx
  refine own_on (B := T1.setTop (mkF m 7 #[.val (.ref u0), .val (.ref u1), .val (.ref u2), .unset] [(.ref u2), (.int (2 : Int32))])) (fun tz kz => ?_) ?_
  · show Steps p.tables e below (T1.setTop (mkF m 5 #[.val (.ref u0), .val (.ref u1), .val (.ref u2), .unset] [(.ref u1)])) tz
    refine X1.arraylength hx (by rw [e1]; exact Ar2.1) (State.isArrayOf_alike hZ.alike Ar2.2.1) (g := (mkF m 5 #[.val (.ref u0), .val (.ref u1), .val (.ref u2), .unset] [(.ref u1)])) rfl rfl (hb hby own_d2_5) _ ?_
    rw [len_of S2 M2]
    show Steps p.tables e below (T1.setTop (mkF m 6 #[.val (.ref u0), .val (.ref u1), .val (.ref u2), .unset] [(.int (2 : Int32))])) tz
    refine XS.aloadN X1.here hx rfl (hb hby own_d2_6) rfl rfl ?_
    exact kz
  obtain ⟨cl3, Ar3, q3, S3, M3, H3, G3⟩ := id Vy
  refine own_on (B := T1.setTop (mkF m 32 #[.val (.ref u0), .val (.ref u1), .val (.ref u2), .val (.int (0 : Int32))] [(.ref u1), (.int (0 : Int32))])) (fun tz kz => ?_) ?_
  · show Steps p.tables e below (T1.setTop (mkF m 7 #[.val (.ref u0), .val (.ref u1), .val (.ref u2), .unset] [(.ref u2), (.int (2 : Int32))])) tz
    refine X1.arraylength hx (by rw [e1]; exact Ar3.1) (State.isArrayOf_alike hZ.alike Ar3.2.1) (g := (mkF m 7 #[.val (.ref u0), .val (.ref u1), .val (.ref u2), .unset] [(.ref u2), (.int (2 : Int32))])) rfl rfl (hb hby own_d2_7) _ ?_
    rw [len_of S3 M3]
    show Steps p.tables e below (T1.setTop (mkF m 8 #[.val (.ref u0), .val (.ref u1), .val (.ref u2), .unset] [(.int (2 : Int32)), (.int (2 : Int32))])) tz
    refine XS.icmpYes X1.here hx rfl (pc0 := 8) (pc' := 28) rfl (hb hby own_d2_8) rfl (teq rfl).1 (by decide) (by decide) ?_
    show Steps p.tables e below (T1.setTop (mkF m 28 #[.val (.ref u0), .val (.ref u1), .val (.ref u2), .unset] [])) tz
    refine XS.iconst X1.here hx rfl (hb hby own_d2_28) ?_
    show Steps p.tables e below (T1.setTop (mkF m 29 #[.val (.ref u0), .val (.ref u1), .val (.ref u2), .unset] [(.int (0 : Int32))])) tz
    refine XS.istoreN X1.here hx rfl (hb hby own_d2_29) rfl (l' := #[.val (.ref u0), .val (.ref u1), .val (.ref u2), .val (.int (0 : Int32))]) rfl ?_
    show Steps p.tables e below (T1.setTop (mkF m 30 #[.val (.ref u0), .val (.ref u1), .val (.ref u2), .val (.int (0 : Int32))] [])) tz
    refine XS.iloadN X1.here hx rfl (hb hby own_d2_30) rfl ?_
    show Steps p.tables e below (T1.setTop (mkF m 31 #[.val (.ref u0), .val (.ref u1), .val (.ref u2), .val (.int (0 : Int32))] [(.int (0 : Int32))])) tz
    refine XS.aloadN X1.here hx rfl (hb hby own_d2_31) rfl rfl ?_
    exact kz
  obtain ⟨cl4, Ar4, q4, S4, M4, H4, G4⟩ := id Vx
  refine own_on (B := T1.setTop (mkF m 39 #[.val (.ref u0), .val (.ref u1), .val (.ref u2), .val (.int (0 : Int32))] [(.int (0 : Int32)), (.ref u1), (.double 0)])) (fun tz kz => ?_) ?_
  · show Steps p.tables e below (T1.setTop (mkF m 32 #[.val (.ref u0), .val (.ref u1), .val (.ref u2), .val (.int (0 : Int32))] [(.ref u1), (.int (0 : Int32))])) tz
    refine X1.arraylength hx (by rw [e1]; exact Ar4.1) (State.isArrayOf_alike hZ.alike Ar4.2.1) (g := (mkF m 32 #[.val (.ref u0), .val (.ref u1), .val (.ref u2), .val (.int (0 : Int32))] [(.ref u1), (.int (0 : Int32))])) rfl rfl (hb hby own_d2_32) _ ?_
    rw [len_of S4 M4]
    show Steps p.tables e below (T1.setTop (mkF m 33 #[.val (.ref u0), .val (.ref u1), .val (.ref u2), .val (.int (0 : Int32))] [(.int (2 : Int32)), (.int (0 : Int32))])) tz
    refine XS.icmpNo X1.here hx rfl (hb hby own_d2_33) rfl (tlt (by decide : (0 : Int32) < (2 : Int32))).2.1 ?_
    show Steps p.tables e below (T1.setTop (mkF m 36 #[.val (.ref u0), .val (.ref u1), .val (.ref u2), .val (.int (0 : Int32))] [])) tz
    refine XS.dconst0 X1.here hx rfl (hb hby own_d2_36) (v := 0) (by decide +kernel) ?_
    show Steps p.tables e below (T1.setTop (mkF m 37 #[.val (.ref u0), .val (.ref u1), .val (.ref u2), .val (.int (0 : Int32))] [(.double 0)])) tz
    refine XS.aloadN X1.here hx rfl (hb hby own_d2_37) rfl rfl ?_
    show Steps p.tables e below (T1.setTop (mkF m 38 #[.val (.ref u0), .val (.ref u1), .val (.ref u2), .val (.int (0 : Int32))] [(.ref u1), (.double 0)])) tz
    refine XS.iloadN X1.here hx rfl (hb hby own_d2_38) rfl ?_
    exact kz
  obtain ⟨cl5, Ar5, q5, S5, M5, H5, G5⟩ := id Vx
  have hin6 : ¬ ((0 : Int32) < 0 ∨ cl5.slots.size ≤ ((0 : Int32)).toNatClampNeg) := inb_of S5 ⟨by decide, by decide⟩
  have hat6 : cl5.slots[((0 : Int32)).toNatClampNeg]? = some (.double x0) := Has.at H5 hin6 rfl
  refine own_on (B := T1.setTop (mkF m 46 #[.val (.ref u0), .val (.ref u1), .val (.ref u2), .val (.int (0 : Int32))] [(.int (0 : Int32)), (.ref u1)])) (fun tz kz => ?_) ?_
  · show Steps p.tables e below (T1.setTop (mkF m 39 #[.val (.ref u0), .val (.ref u1), .val (.ref u2), .val (.int (0 : Int32))] [(.int (0 : Int32)), (.ref u1), (.double 0)])) tz
    refine X1.daload hx (j := (0 : Int32)) (v := (.double x0)) (by rw [e1]; exact Ar5.1) (State.isArrayOf_alike hZ.alike Ar5.2.1) Ar5.2.2 hin6 hat6 (g := (mkF m 39 #[.val (.ref u0), .val (.ref u1), .val (.ref u2), .val (.int (0 : Int32))] [(.int (0 : Int32)), (.ref u1), (.double 0)])) rfl rfl (hb hby own_d2_39) _ ?_
    show Steps p.tables e below (T1.setTop (mkF m 40 #[.val (.ref u0), .val (.ref u1), .val (.ref u2), .val (.int (0 : Int32))] [(.double x0), (.double 0)])) tz
    refine XS.dcmpS X1.here hx rfl (hb hby own_d2_40) rfl (v := (cmpValue (FP.dcmp 0 x0) .g)) rfl ?_
    show Steps p.tables e below (T1.setTop (mkF m 41 #[.val (.ref u0), .val (.ref u1), .val (.ref u2), .val (.int (0 : Int32))] [(.int (cmpValue (FP.dcmp 0 x0) .g))])) tz
    refine XS.ifNo X1.here hx rfl (hb hby own_d2_41) rfl ((if0 _ _).trans (flt hz0).2.2.1) ?_
    show Steps p.tables e below (T1.setTop (mkF m 44 #[.val (.ref u0), .val (.ref u1), .val (.ref u2), .val (.int (0 : Int32))] [])) tz
    refine XS.aloadN X1.here hx rfl (hb hby own_d2_44) rfl rfl ?_
    show Steps p.tables e below (T1.setTop (mkF m 45 #[.val (.ref u0), .val (.ref u1), .val (.ref u2), .val (.int (0 : Int32))] [(.ref u1)])) tz
    refine XS.iloadN X1.here hx rfl (hb hby own_d2_45) rfl ?_
    exact kz
  obtain ⟨cl7, Ar7, q7, S7, M7, H7, G7⟩ := id Vx
  have hin8 : ¬ ((0 : Int32) < 0 ∨ cl7.slots.size ≤ ((0 : Int32)).toNatClampNeg) := inb_of S7 ⟨by decide, by decide⟩
  have hat8 : cl7.slots[((0 : Int32)).toNatClampNeg]? = some (.double x0) := Has.at H7 hin8 rfl
  refine own_on (B := T1.setTop (mkF m 49 #[.val (.ref u0), .val (.ref u1), .val (.ref u2), .val (.int (0 : Int32))] [(.int (0 : Int32)), (.ref u2), (.double x0)])) (fun tz kz => ?_) ?_
  · show Steps p.tables e below (T1.setTop (mkF m 46 #[.val (.ref u0), .val (.ref u1), .val (.ref u2), .val (.int (0 : Int32))] [(.int (0 : Int32)), (.ref u1)])) tz
    refine X1.daload hx (j := (0 : Int32)) (v := (.double x0)) (by rw [e1]; exact Ar7.1) (State.isArrayOf_alike hZ.alike Ar7.2.1) Ar7.2.2 hin8 hat8 (g := (mkF m 46 #[.val (.ref u0), .val (.ref u1), .val (.ref u2), .val (.int (0 : Int32))] [(.int (0 : Int32)), (.ref u1)])) rfl rfl (hb hby own_d2_46) _ ?_
    show Steps p.tables e below (T1.setTop (mkF m 47 #[.val (.ref u0), .val (.ref u1), .val (.ref u2), .val (.int (0 : Int32))] [(.double x0)])) tz
    refine XS.aloadN X1.here hx rfl (hb hby own_d2_47) rfl rfl ?_
    show Steps p.tables e below (T1.setTop (mkF m 48 #[.val (.ref u0), .val (.ref u1), .val (.ref u2), .val (.int (0 : Int32))] [(.ref u2), (.double x0)])) tz
    refine XS.iloadN X1.here hx rfl (hb hby own_d2_48) rfl ?_
    exact kz
  obtain ⟨cl9, Ar9, q9, S9, M9, H9, G9⟩ := id Vy
  have hin10 : ¬ ((0 : Int32) < 0 ∨ cl9.slots.size ≤ ((0 : Int32)).toNatClampNeg) := inb_of S9 ⟨by decide, by decide⟩
  have hat10 : cl9.slots[((0 : Int32)).toNatClampNeg]? = some (.double y0) := Has.at H9 hin10 rfl
  refine own_on (B := T1.setTop (mkF m 56 #[.val (.ref u0), .val (.ref u1), .val (.ref u2), .val (.int (0 : Int32))] [(.int (0 : Int32)), (.ref u2)])) (fun tz kz => ?_) ?_
  · show Steps p.tables e below (T1.setTop (mkF m 49 #[.val (.ref u0), .val (.ref u1), .val (.ref u2), .val (.int (0 : Int32))] [(.int (0 : Int32)), (.ref u2), (.double x0)])) tz
    refine X1.daload hx (j := (0 : Int32)) (v := (.double y0)) (by rw [e1]; exact Ar9.1) (State.isArrayOf_alike hZ.alike Ar9.2.1) Ar9.2.2 hin10 hat10 (g := (mkF m 49 #[.val (.ref u0), .val (.ref u1), .val (.ref u2), .val (.int (0 : Int32))] [(.int (0 : Int32)), (.ref u2), (.double x0)])) rfl rfl (hb hby own_d2_49) _ ?_
    show Steps p.tables e below (T1.setTop (mkF m 50 #[.val (.ref u0), .val (.ref u1), .val (.ref u2), .val (.int (0 : Int32))] [(.double y0), (.double x0)])) tz
    refine XS.dcmpS X1.here hx rfl (hb hby own_d2_50) rfl (v := (cmpValue (FP.dcmp x0 y0) .g)) rfl ?_
    show Steps p.tables e below (T1.setTop (mkF m 51 #[.val (.ref u0), .val (.ref u1), .val (.ref u2), .val (.int (0 : Int32))] [(.int (cmpValue (FP.dcmp x0 y0) .g))])) tz
    refine XS.ifNo X1.here hx rfl (hb hby own_d2_51) rfl ((if0 _ _).trans (flt hl0).2.2.1) ?_
    show Steps p.tables e below (T1.setTop (mkF m 54 #[.val (.ref u0), .val (.ref u1), .val (.ref u2), .val (.int (0 : Int32))] [])) tz
    refine XS.aloadN X1.here hx rfl (hb hby own_d2_54) rfl rfl ?_
    show Steps p.tables e below (T1.setTop (mkF m 55 #[.val (.ref u0), .val (.ref u1), .val (.ref u2), .val (.int (0 : Int32))] [(.ref u2)])) tz
    refine XS.iloadN X1.here hx rfl (hb hby own_d2_55) rfl ?_
    exact kz
  obtain ⟨cl11, Ar11, q11, S11, M11, H11, G11⟩ := id Vy
  have hin12 : ¬ ((0 : Int32) < 0 ∨ cl11.slots.size ≤ ((0 : Int32)).toNatClampNeg) := inb_of S11 ⟨by decide, by decide⟩
  have hat12 : cl11.slots[((0 : Int32)).toNatClampNeg]? = some (.double y0) := Has.at H11 hin12 rfl
  refine own_on (B := T1.setTop (mkF m 32 #[.val (.ref u0), .val (.ref u1), .val (.ref u2), .val (.int (1 : Int32))] [(.ref u1), (.int (1 : Int32))])) (fun tz kz => ?_) ?_
  · show Steps p.tables e below (T1.setTop (mkF m 56 #[.val (.ref u0), .val (.ref u1), .val (.ref u2), .val (.int (0 : Int32))] [(.int (0 : Int32)), (.ref u2)])) tz
    refine X1.daload hx (j := (0 : Int32)) (v := (.double y0)) (by rw [e1]; exact Ar11.1) (State.isArrayOf_alike hZ.alike Ar11.2.1) Ar11.2.2 hin12 hat12 (g := (mkF m 56 #[.val (.ref u0), .val (.ref u1), .val (.ref u2), .val (.int (0 : Int32))] [(.int (0 : Int32)), (.ref u2)])) rfl rfl (hb hby own_d2_56) _ ?_
    show Steps p.tables e below (T1.setTop (mkF m 57 #[.val (.ref u0), .val (.ref u1), .val (.ref u2), .val (.int (0 : Int32))] [(.double y0)])) tz
    refine X1.ldc2DoubleC hx hown (mvT hZ (hw _ (List.mem_of_getElem? (i := 15) rfl))) (g := (mkF m 57 #[.val (.ref u0), .val (.ref u1), .val (.ref u2), .val (.int (0 : Int32))] [(.double y0)])) rfl (hb hby own_d2_57) _ ?_
    show Steps p.tables e below (T1.setTop (mkF m 60 #[.val (.ref u0), .val (.ref u1), .val (.ref u2), .val (.int (0 : Int32))] [(.double 9218868437227405312), (.double y0)])) tz
    refine XS.dcmpS X1.here hx rfl (hb hby own_d2_60) rfl (v := (cmpValue (FP.dcmp y0 9218868437227405312) .g)) rfl ?_
    show Steps p.tables e below (T1.setTop (mkF m 61 #[.val (.ref u0), .val (.ref u1), .val (.ref u2), .val (.int (0 : Int32))] [(.int (cmpValue (FP.dcmp y0 9218868437227405312) .g))])) tz
    refine XS.ifYes X1.here hx rfl (pc0 := 61) (pc' := 84) rfl (hb hby own_d2_61) rfl ((if0 _ _).trans (tlt hi0).1) (by decide) (by decide) ?_
    show Steps p.tables e below (T1.setTop (mkF m 84 #[.val (.ref u0), .val (.ref u1), .val (.ref u2), .val (.int (0 : Int32))] [])) tz
    refine XS.iinc X1.here hx rfl (hb hby own_d2_84) rfl (l' := #[.val (.ref u0), .val (.ref u1), .val (.ref u2), .val (.int (1 : Int32))]) rfl ?_
    show Steps p.tables e below (T1.setTop (mkF m 87 #[.val (.ref u0), .val (.ref u1), .val (.ref u2), .val (.int (1 : Int32))] [])) tz
    refine XS.goto X1.here hx rfl (pc0 := 87) (pc' := 30) rfl (hb hby own_d2_87) (by decide) (by decide) ?_
    show Steps p.tables e below (T1.setTop (mkF m 30 #[.val (.ref u0), .val (.ref u1), .val (.ref u2), .val (.int (1 : Int32))] [])) tz
    refine XS.iloadN X1.here hx rfl (hb hby own_d2_30) rfl ?_
    show Steps p.tables e below (T1.setTop (mkF m 31 #[.val (.ref u0), .val (.ref u1), .val (.ref u2), .val (.int (1 : Int32))] [(.int (1 : Int32))])) tz
    refine XS.aloadN X1.here hx rfl (hb hby own_d2_31) rfl rfl ?_
    exact kz
  obtain ⟨cl13, Ar13, q13, S13, M13, H13, G13⟩ := id Vx
  refine own_on (B := T1.setTop (mkF m 39 #[.val (.ref u0), .val (.ref u1), .val (.ref u2), .val (.int (1 : Int32))] [(.int (1 : Int32)), (.ref u1), (.double 0)])) (fun tz kz => ?_) ?_
  · show Steps p.tables e below (T1.setTop (mkF m 32 #[.val (.ref u0), .val (.ref u1), .val (.ref u2), .val (.int (1 : Int32))] [(.ref u1), (.int (1 : Int32))])) tz
    refine X1.arraylength hx (by rw [e1]; exact Ar13.1) (State.isArrayOf_alike hZ.alike Ar13.2.1) (g := (mkF m 32 #[.val (.ref u0), .val (.ref u1), .val (.ref u2), .val (.int (1 : Int32))] [(.ref u1), (.int (1 : Int32))])) rfl rfl (hb hby own_d2_32) _ ?_
    rw [len_of S13 M13]
    show Steps p.tables e below (T1.setTop (mkF m 33 #[.val (.ref u0), .val (.ref u1), .val (.ref u2), .val (.int (1 : Int32))] [(.int (2 : Int32)), (.int (1 : Int32))])) tz
    refine XS.icmpNo X1.here hx rfl (hb hby own_d2_33) rfl (tlt (by decide : (1 : Int32) < (2 : Int32))).2.1 ?_
    show Steps p.tables e below (T1.setTop (mkF m 36 #[.val (.ref u0), .val (.ref u1), .val (.ref u2), .val (.int (1 : Int32))] [])) tz
    refine XS.dconst0 X1.here hx rfl (hb hby own_d2_36) (v := 0) (by decide +kernel) ?_
    show Steps p.tables e below (T1.setTop (mkF m 37 #[.val (.ref u0), .val (.ref u1), .val (.ref u2), .val (.int (1 : Int32))] [(.double 0)])) tz
    refine XS.aloadN X1.here hx rfl (hb hby own_d2_37) rfl rfl ?_
    show Steps p.tables e below (T1.setTop (mkF m 38 #[.val (.ref u0), .val (.ref u1), .val (.ref u2), .val (.int (1 : Int32))] [(.ref u1), (.double 0)])) tz
    refine XS.iloadN X1.here hx rfl (hb hby own_d2_38) rfl ?_
    exact kz
  obtain ⟨cl14, Ar14, q14, S14, M14, H14, G14⟩ := id Vx
  have hin15 : ¬ ((1 : Int32) < 0 ∨ cl14.slots.size ≤ ((1 : Int32)).toNatClampNeg) := inb_of S14 ⟨by decide, by decide⟩
  have hat15 : cl14.slots[((1 : Int32)).toNatClampNeg]? = some (.double x1) := Has.at H14 hin15 rfl
  refine own_on (B := T1.setTop (mkF m 46 #[.val (.ref u0), .val (.ref u1), .val (.ref u2), .val (.int (1 : Int32))] [(.int (1 : Int32)), (.ref u1)])) (fun tz kz => ?_) ?_
  · show Steps p.tables e below (T1.setTop (mkF m 39 #[.val (.ref u0), .val (.ref u1), .val (.ref u2), .val (.int (1 : Int32))] [(.int (1 : Int32)), (.ref u1), (.double 0)])) tz
    refine X1.daload hx (j := (1 : Int32)) (v := (.double x1)) (by rw [e1]; exact Ar14.1) (State.isArrayOf_alike hZ.alike Ar14.2.1) Ar14.2.2 hin15 hat15 (g := (mkF m 39 #[.val (.ref u0), .val (.ref u1), .val (.ref u2), .val (.int (1 : Int32))] [(.int (1 : Int32)), (.ref u1), (.double 0)])) rfl rfl (hb hby own_d2_39) _ ?_
    show Steps p.tables e below (T1.setTop (mkF m 40 #[.val (.ref u0), .val (.ref u1), .val (.ref u2), .val (.int (1 : Int32))] [(.double x1), (.double 0)])) tz
    refine XS.dcmpS X1.here hx rfl (hb hby own_d2_40) rfl (v := (cmpValue (FP.dcmp 0 x1) .g)) rfl ?_
    show Steps p.tables e below (T1.setTop (mkF m 41 #[.val (.ref u0), .val (.ref u1), .val (.ref u2), .val (.int (1 : Int32))] [(.int (cmpValue (FP.dcmp 0 x1) .g))])) tz
    refine XS.ifNo X1.here hx rfl (hb hby own_d2_41) rfl ((if0 _ _).trans (flt hz1).2.2.1) ?_
    show Steps p.tables e below (T1.setTop (mkF m 44 #[.val (.ref u0), .val (.ref u1), .val (.ref u2), .val (.int (1 : Int32))] [])) tz
    refine XS.aloadN X1.here hx rfl (hb hby own_d2_44) rfl rfl ?_
    show Steps p.tables e below (T1.setTop (mkF m 45 #[.val (.ref u0), .val (.ref u1), .val (.ref u2), .val (.int (1 : Int32))] [(.ref u1)])) tz
    refine XS.iloadN X1.here hx rfl (hb hby own_d2_45) rfl ?_
    exact kz
  obtain ⟨cl16, Ar16, q16, S16, M16, H16, G16⟩ := id Vx
  have hin17 : ¬ ((1 : Int32) < 0 ∨ cl16.slots.size ≤ ((1 : Int32)).toNatClampNeg) := inb_of S16 ⟨by decide, by decide⟩
  have hat17 : cl16.slots[((1 : Int32)).toNatClampNeg]? = some (.double x1) := Has.at H16 hin17 rfl
  refine own_on (B := T1.setTop (mkF m 49 #[.val (.ref u0), .val (.ref u1), .val (.ref u2), .val (.int (1 : Int32))] [(.int (1 : Int32)), (.ref u2), (.double x1)])) (fun tz kz => ?_) ?_
  · show Steps p.tables e below (T1.setTop (mkF m 46 #[.val (.ref u0), .val (.ref u1), .val (.ref u2), .val (.int (1 : Int32))] [(.int (1 : Int32)), (.ref u1)])) tz
    refine X1.daload hx (j := (1 : Int32)) (v := (.double x1)) (by rw [e1]; exact Ar16.1) (State.isArrayOf_alike hZ.alike Ar16.2.1) Ar16.2.2 hin17 hat17 (g := (mkF m 46 #[.val (.ref u0), .val (.ref u1), .val (.ref u2), .val (.int (1 : Int32))] [(.int (1 : Int32)), (.ref u1)])) rfl rfl (hb hby own_d2_46) _ ?_
    show Steps p.tables e below (T1.setTop (mkF m 47 #[.val (.ref u0), .val (.ref u1), .val (.ref u2), .val (.int (1 : Int32))] [(.double x1)])) tz
    refine XS.aloadN X1.here hx rfl (hb hby own_d2_47) rfl rfl ?_
    show Steps p.tables e below (T1.setTop (mkF m 48 #[.val (.ref u0), .val (.ref u1), .val (.ref u2), .val (.int (1 : Int32))] [(.ref u2), (.double x1)])) tz
    refine XS.iloadN X1.here hx rfl (hb hby own_d2_48) rfl ?_
    exact kz
  obtain ⟨cl18, Ar18, q18, S18, M18, H18, G18⟩ := id Vy
  have hin19 : ¬ ((1 : Int32) < 0 ∨ cl18.slots.size ≤ ((1 : Int32)).toNatClampNeg) := inb_of S18 ⟨by decide, by decide⟩
  have hat19 : cl18.slots[((1 : Int32)).toNatClampNeg]? = some (.double y1) := Has.at H18 hin19 rfl
  refine own_on (B := T1.setTop (mkF m 56 #[.val (.ref u0), .val (.ref u1), .val (.ref u2), .val (.int (1 : Int32))] [(.int (1 : Int32)), (.ref u2)])) (fun tz kz => ?_) ?_
  · show Steps p.tables e below (T1.setTop (mkF m 49 #[.val (.ref u0), .val (.ref u1), .val (.ref u2), .val (.int (1 : Int32))] [(.int (1 : Int32)), (.ref u2), (.double x1)])) tz
    refine X1.daload hx (j := (1 : Int32)) (v := (.double y1)) (by rw [e1]; exact Ar18.1) (State.isArrayOf_alike hZ.alike Ar18.2.1) Ar18.2.2 hin19 hat19 (g := (mkF m 49 #[.val (.ref u0), .val (.ref u1), .val (.ref u2), .val (.int (1 : Int32))] [(.int (1 : Int32)), (.ref u2), (.double x1)])) rfl rfl (hb hby own_d2_49) _ ?_
    show Steps p.tables e below (T1.setTop (mkF m 50 #[.val (.ref u0), .val (.ref u1), .val (.ref u2), .val (.int (1 : Int32))] [(.double y1), (.double x1)])) tz
    refine XS.dcmpS X1.here hx rfl (hb hby own_d2_50) rfl (v := (cmpValue (FP.dcmp x1 y1) .g)) rfl ?_
    show Steps p.tables e below (T1.setTop (mkF m 51 #[.val (.ref u0), .val (.ref u1), .val (.ref u2), .val (.int (1 : Int32))] [(.int (cmpValue (FP.dcmp x1 y1) .g))])) tz
    refine XS.ifNo X1.here hx rfl (hb hby own_d2_51) rfl ((if0 _ _).trans (flt hl1).2.2.1) ?_
    show Steps p.tables e below (T1.setTop (mkF m 54 #[.val (.ref u0), .val (.ref u1), .val (.ref u2), .val (.int (1 : Int32))] [])) tz
    refine XS.aloadN X1.here hx rfl (hb hby own_d2_54) rfl rfl ?_
    show Steps p.tables e below (T1.setTop (mkF m 55 #[.val (.ref u0), .val (.ref u1), .val (.ref u2), .val (.int (1 : Int32))] [(.ref u2)])) tz
    refine XS.iloadN X1.here hx rfl (hb hby own_d2_55) rfl ?_
    exact kz
  obtain ⟨cl20, Ar20, q20, S20, M20, H20, G20⟩ := id Vy
  have hin21 : ¬ ((1 : Int32) < 0 ∨ cl20.slots.size ≤ ((1 : Int32)).toNatClampNeg) := inb_of S20 ⟨by decide, by decide⟩
  have hat21 : cl20.slots[((1 : Int32)).toNatClampNeg]? = some (.double y1) := Has.at H20 hin21 rfl
  refine own_on (B := T1.setTop (mkF m 32 #[.val (.ref u0), .val (.ref u1), .val (.ref u2), .val (.int (2 : Int32))] [(.ref u1), (.int (2 : Int32))])) (fun tz kz => ?_) ?_
  · show Steps p.tables e below (T1.setTop (mkF m 56 #[.val (.ref u0), .val (.ref u1), .val (.ref u2), .val (.int (1 : Int32))] [(.int (1 : Int32)), (.ref u2)])) tz
    refine X1.daload hx (j := (1 : Int32)) (v := (.double y1)) (by rw [e1]; exact Ar20.1) (State.isArrayOf_alike hZ.alike Ar20.2.1) Ar20.2.2 hin21 hat21 (g := (mkF m 56 #[.val (.ref u0), .val (.ref u1), .val (.ref u2), .val (.int (1 : Int32))] [(.int (1 : Int32)), (.ref u2)])) rfl rfl (hb hby own_d2_56) _ ?_
    show Steps p.tables e below (T1.setTop (mkF m 57 #[.val (.ref u0), .val (.ref u1), .val (.ref u2), .val (.int (1 : Int32))] [(.double y1)])) tz
    refine X1.ldc2DoubleC hx hown (mvT hZ (hw _ (List.mem_of_getElem? (i := 15) rfl))) (g := (mkF m 57 #[.val (.ref u0), .val (.ref u1), .val (.ref u2), .val (.int (1 : Int32))] [(.double y1)])) rfl (hb hby own_d2_57) _ ?_
    show Steps p.tables e below (T1.setTop (mkF m 60 #[.val (.ref u0), .val (.ref u1), .val (.ref u2), .val (.int (1 : Int32))] [(.double 9218868437227405312), (.double y1)])) tz
    refine XS.dcmpS X1.here hx rfl (hb hby own_d2_60) rfl (v := (cmpValue (FP.dcmp y1 9218868437227405312) .g)) rfl ?_
    show Steps p.tables e below (T1.setTop (mkF m 61 #[.val (.ref u0), .val (.ref u1), .val (.ref u2), .val (.int (1 : Int32))] [(.int (cmpValue (FP.dcmp y1 9218868437227405312) .g))])) tz
    refine XS.ifYes X1.here hx rfl (pc0 := 61) (pc' := 84) rfl (hb hby own_d2_61) rfl ((if0 _ _).trans (tlt hi1).1) (by decide) (by decide) ?_
    show Steps p.tables e below (T1.setTop (mkF m 84 #[.val (.ref u0), .val (.ref u1), .val (.ref u2), .val (.int (1 : Int32))] [])) tz
    refine XS.iinc X1.here hx rfl (hb hby own_d2_84) rfl (l' := #[.val (.ref u0), .val (.ref u1), .val (.ref u2), .val (.int (2 : Int32))]) rfl ?_
    show Steps p.tables e below (T1.setTop (mkF m 87 #[.val (.ref u0), .val (.ref u1), .val (.ref u2), .val (.int (2 : Int32))] [])) tz
    refine XS.goto X1.here hx rfl (pc0 := 87) (pc' := 30) rfl (hb hby own_d2_87) (by decide) (by decide) ?_
    show Steps p.tables e below (T1.setTop (mkF m 30 #[.val (.ref u0), .val (.ref u1), .val (.ref u2), .val (.int (2 : Int32))] [])) tz
    refine XS.iloadN X1.here hx rfl (hb hby own_d2_30) rfl ?_
    show Steps p.tables e below (T1.setTop (mkF m 31 #[.val (.ref u0), .val (.ref u1), .val (.ref u2), .val (.int (2 : Int32))] [(.int (2 : Int32))])) tz
    refine XS.aloadN X1.here hx rfl (hb hby own_d2_31) rfl rfl ?_
    exact kz
  obtain ⟨cl22, Ar22, q22, S22, M22, H22, G22⟩ := id Vx
  refine own_on (B := T1.setTop (mkF m 93 #[.val (.ref u0), .val (.ref u1), .val (.ref u2), .val (.int (2 : Int32))] [(.ref u1), (.ref u1), (.ref u0)])) (fun tz kz => ?_) ?_
  · show Steps p.tables e below (T1.setTop (mkF m 32 #[.val (.ref u0), .val (.ref u1), .val (.ref u2), .val (.int (2 : Int32))] [(.ref u1), (.int (2 : Int32))])) tz
    refine X1.arraylength hx (by rw [e1]; exact Ar22.1) (State.isArrayOf_alike hZ.alike Ar22.2.1) (g := (mkF m 32 #[.val (.ref u0), .val (.ref u1), .val (.ref u2), .val (.int (2 : Int32))] [(.ref u1), (.int (2 : Int32))])) rfl rfl (hb hby own_d2_32) _ ?_
    rw [len_of S22 M22]
    show Steps p.tables e below (T1.setTop (mkF m 33 #[.val (.ref u0), .val (.ref u1), .val (.ref u2), .val (.int (2 : Int32))] [(.int (2 : Int32)), (.int (2 : Int32))])) tz
    refine XS.icmpYes X1.here hx rfl (pc0 := 33) (pc' := 90) rfl (hb hby own_d2_33) rfl (flt Int32.lt_irrefl).2.1 (by decide) (by decide) ?_
    show Steps p.tables e below (T1.setTop (mkF m 90 #[.val (.ref u0), .val (.ref u1), .val (.ref u2), .val (.int (2 : Int32))] [])) tz
    refine XS.aloadN X1.here hx rfl (hb hby own_d2_90) rfl rfl ?_
    show Steps p.tables e below (T1.setTop (mkF m 91 #[.val (.ref u0), .val (.ref u1), .val (.ref u2), .val (.int (2 : Int32))] [(.ref u0)])) tz
    refine XS.aloadN X1.here hx rfl (hb hby own_d2_91) rfl rfl ?_
    show Steps p.tables e below (T1.setTop (mkF m 92 #[.val (.ref u0), .val (.ref u1), .val (.ref u2), .val (.int (2 : Int32))] [(.ref u1), (.ref u0)])) tz
    refine XS.aloadN X1.here hx rfl (hb hby own_d2_92) rfl rfl ?_
    exact kz
  obtain ⟨cl23, Ar23, q23, S23, M23, H23, G23⟩ := id Vx
  refine own_on (B := T1.setTop (mkF m 94 #[.val (.ref u0), .val (.ref u1), .val (.ref u2), .val (.int (2 : Int32))] [(.int (2 : Int32)), (.ref u1), (.ref u0)])) (fun tz kz => ?_) ?_
  · show Steps p.tables e below (T1.setTop (mkF m 93 #[.val (.ref u0), .val (.ref u1), .val (.ref u2), .val (.int (2 : Int32))] [(.ref u1), (.ref u1), (.ref u0)])) tz
    refine X1.arraylength hx (by rw [e1]; exact Ar23.1) (State.isArrayOf_alike hZ.alike Ar23.2.1) (g := (mkF m 93 #[.val (.ref u0), .val (.ref u1), .val (.ref u2), .val (.int (2 : Int32))] [(.ref u1), (.ref u1), (.ref u0)])) rfl rfl (hb hby own_d2_93) _ ?_
    rw [len_of S23 M23]
    exact kz
  obtain ⟨_, _, ⟨T24, L24, k24, n24⟩, -, X24, ⟨Lc24, hQ24, l24, y24, z24⟩, st24⟩ := Jvm.LawKit.callS X1 hx (y := (⟨"java/util/Arrays", "copyOf", "([DI)[D"⟩ : MethodName)) hown (mvT hZ (hw _ (List.mem_of_getElem? (i := 16) rfl))) (mvT hZ (hw _ (List.mem_of_getElem? (i := 17) rfl))) (mvT hZ (hw _ (List.mem_of_getElem? (i := 18) rfl))) (mvT hZ (hw _ (List.mem_of_getElem? (i := 19) rfl))) (by decide) (backOf (W := 1) (rm4 l Z a0 hw [] u1 kx x0 x1 h0 n0 O0 Vx Ex) hZ (hw _ (List.mem_of_getElem? (i := 19) rfl)) (hw _ (List.mem_of_getElem? (i := 18) rfl)) (by decide) (by decide)) (g := (mkF m 94 #[.val (.ref u0), .val (.ref u1), .val (.ref u2), .val (.int (2 : Int32))] [(.int (2 : Int32)), (.ref u1), (.ref u0)])) rfl (by rw [hml]; rfl) (argsL := [(.ref u1), (.int (2 : Int32))]) (rest := [(.ref u0)]) (lenOf own_pd0 rfl) rfl (by show 2 * 0 + _ ≤ _; exact Nat.le_of_eq rfl) (hb hby own_d2_94) (fun _ _ => ⟨rfl, e1, (by decide : 0 + 1 ≤ _), (by decide : 0 + 2 ≤ _)⟩)
  dsimp only [Pt.U, Pt.locs, Pt.cells, Pt.slots] at X24 l24 y24 z24 st24 hQ24
  subst l24 y24 z24
  obtain ⟨d24, rfl, Nq24, Kq24, zq24, Vq24, Eq24⟩ := hQ24
  have N24 := Fr.app N0 Nq24
  have ne_u0_d24 : u0 ≠ d24 := Nat.ne_of_lt (Nat.lt_of_lt_of_le (E_u0).lt zq24)
  have ne_u1_d24 : u1 ≠ d24 := Nat.ne_of_lt (Nat.lt_of_lt_of_le (Vx).lt zq24)
  have ne_u2_d24 : u2 ≠ d24 := Nat.ne_of_lt (Nat.lt_of_lt_of_le (Vy).lt zq24)
  have g_d24 : n0 ≤ d24 := Nat.le_trans (own_old O0) zq24
  have sz_d24 : h0.size ≤ d24 := Nat.le_trans (Keep.refl h0 [u0]).1 zq24
  have O25 := O0.keep Kq24 all0
  have K25 : Keep h0 T24.heap [u0] := (Keep.refl h0 [u0]).trans Kq24 all0
  refine own_on (B := T24.setTop (mkF m 97 #[.val (.ref u0), .val (.ref u1), .val (.ref u2), .val (.int (2 : Int32))] [(.ref d24), (.ref u0)])) (fun tz kz => st24 _ kz) ?_
  have f_26 := (F_below.keep Kq24 nin0)
  have f_27 := (E_u0.keep Kq24)
  obtain ⟨T28, h28, X28, e28, W28, st28⟩ := putF X24 hx hZ hown (host := "") (Or.inl (hw _ (List.mem_of_getElem? (i := 29) rfl))) Via.refl rfl f_26 f_27 (Or.inr ⟨(hw _ (List.mem_of_getElem? (i := 30) rfl)), rfl, hnm⟩) (hw _ (List.mem_of_getElem? (i := 7) rfl)) (ty := (.array .double)) (by decide) rfl rfl (g := (mkF m 97 #[.val (.ref u0), .val (.ref u1), .val (.ref u2), .val (.int (2 : Int32))] [(.ref d24), (.ref u0)])) rfl rfl (hb hby own_d2_97)
  have Fw28 := f_26.same W28
  have N28 := Fr.snoc X28 N24 g_u0
  have O29 := O25.wr W28 g_u0
  have K29 : Keep h0 h28 [u0] := K25.wr W28 (Or.inl (List.mem_of_getElem? (i := 0) rfl))
  refine own_on (B := T28.setTop (mkF m 100 #[.val (.ref u0), .val (.ref u1), .val (.ref u2), .val (.int (2 : Int32))] [])) (fun tz kz => st28 _ kz) ?_
  refine own_on (B := T28.setTop (mkF m 103 #[.val (.ref u0), .val (.ref u1), .val (.ref u2), .val (.int (2 : Int32))] [(.ref u2), (.ref u2), (.ref u0)])) (fun tz kz => ?_) ?_
  · show Steps p.tables e below (T28.setTop (mkF m 100 #[.val (.ref u0), .val (.ref u1), .val (.ref u2), .val (.int (2 : Int32))] [])) tz
    refine XS.aloadN X28.here hx rfl (hb hby own_d2_100) rfl rfl ?_
    show Steps p.tables e below (T28.setTop (mkF m 101 #[.val (.ref u0), .val (.ref u1), .val (.ref u2), .val (.int (2 : Int32))] [(.ref u0)])) tz
    refine XS.aloadN X28.here hx rfl (hb hby own_d2_101) rfl rfl ?_
    show Steps p.tables e below (T28.setTop (mkF m 102 #[.val (.ref u0), .val (.ref u1), .val (.ref u2), .val (.int (2 : Int32))] [(.ref u2), (.ref u0)])) tz
    refine XS.aloadN X28.here hx rfl (hb hby own_d2_102) rfl rfl ?_
    exact kz
  have f_30 := ((Vy.keep Kq24 nin0).other W28 (Ne.symm n02))
  obtain ⟨cl31, Ar31, q31, S31, M31, H31, G31⟩ := id f_30
  have f_32 := ((Ey.keep Kq24).wr W28)
  refine own_on (B := T28.setTop (mkF m 104 #[.val (.ref u0), .val (.ref u1), .val (.ref u2), .val (.int (2 : Int32))] [(.int (2 : Int32)), (.ref u2), (.ref u0)])) (fun tz kz => ?_) ?_
  · show Steps p.tables e below (T28.setTop (mkF m 103 #[.val (.ref u0), .val (.ref u1), .val (.ref u2), .val (.int (2 : Int32))] [(.ref u2), (.ref u2), (.ref u0)])) tz
    refine X28.arraylength hx (by rw [e28]; exact Ar31.1) (State.isArrayOf_alike hZ.alike Ar31.2.1) (g := (mkF m 103 #[.val (.ref u0), .val (.ref u1), .val (.ref u2), .val (.int (2 : Int32))] [(.ref u2), (.ref u2), (.ref u0)])) rfl rfl (hb hby own_d2_103) _ ?_
    rw [len_of S31 M31]
    exact kz
  obtain ⟨_, _, ⟨T33, L33, k33, n33⟩, -, X33, ⟨Lc33, hQ33, l33, y33, z33⟩, st33⟩ := Jvm.LawKit.callS X28 hx (y := (⟨"java/util/Arrays", "copyOf", "([DI)[D"⟩ : MethodName)) hown (mvT hZ (hw _ (List.mem_of_getElem? (i := 16) rfl))) (mvT hZ (hw _ (List.mem_of_getElem? (i := 17) rfl))) (mvT hZ (hw _ (List.mem_of_getElem? (i := 18) rfl))) (mvT hZ (hw _ (List.mem_of_getElem? (i := 19) rfl))) (by decide) (backOf (W := 1) (rm4 l Z a0 hw [] u2 ky y0 y1 h28 n0 O29 f_30 f_32) hZ (hw _ (List.mem_of_getElem? (i := 19) rfl)) (hw _ (List.mem_of_getElem? (i := 18) rfl)) (by decide) (by decide)) (g := (mkF m 104 #[.val (.ref u0), .val (.ref u1), .val (.ref u2), .val (.int (2 : Int32))] [(.int (2 : Int32)), (.ref u2), (.ref u0)])) rfl (by rw [hml]; rfl) (argsL := [(.ref u2), (.int (2 : Int32))]) (rest := [(.ref u0)]) (lenOf own_pd0 rfl) rfl (by show 2 * 0 + _ ≤ _; exact Nat.le_of_eq rfl) (hb hby own_d2_104) (fun _ _ => ⟨rfl, e28, (by decide : 1 + 1 ≤ _), (by decide : 2 + 2 ≤ _)⟩)
  dsimp only [Pt.U, Pt.locs, Pt.cells, Pt.slots] at X33 l33 y33 z33 st33 hQ33
  subst l33 y33 z33
  obtain ⟨d33, rfl, Nq33, Kq33, zq33, Vq33, Eq33⟩ := hQ33
  have N33 := Fr.app N28 Nq33
  have f_34 := (f_27.wr W28)
  have ne_u0_d33 : u0 ≠ d33 := Nat.ne_of_lt (Nat.lt_of_lt_of_le (f_34).lt zq33)
  have f_35 := ((Vx.keep Kq24 nin0).other W28 (Ne.symm n01))
  have ne_u1_d33 : u1 ≠ d33 := Nat.ne_of_lt (Nat.lt_of_lt_of_le (f_35).lt zq33)
  have ne_u2_d33 : u2 ≠ d33 := Nat.ne_of_lt (Nat.lt_of_lt_of_le (f_30).lt zq33)
  have f_36 := (Vq24.other W28 (Ne.symm ne_u0_d24))
  have ne_d24_d33 : d24 ≠ d33 := Nat.ne_of_lt (Nat.lt_of_lt_of_le (f_36).lt zq33)
  have g_d33 : n0 ≤ d33 := Nat.le_trans (own_old O29) zq33
  have sz_d33 : h0.size ≤ d33 := Nat.le_trans K29.1 zq33
  have O37 := O29.keep Kq33 all0
  have K37 : Keep h0 T33.heap [u0] := K29.trans Kq33 all0
  refine own_on (B := T33.setTop (mkF m 107 #[.val (.ref u0), .val (.ref u1), .val (.ref u2), .val (.int (2 : Int32))] [(.ref d33), (.ref u0)])) (fun tz kz => st33 _ kz) ?_
  have f_38 := (((F_above.keep Kq24 nin0).other W28 (Or.inr (slot_ne (Or.inr (hw _ (List.mem_of_getElem? (i := 32) rfl))) (Or.inr (hw _ (List.mem_of_getElem? (i := 30) rfl))) (by decide) (t := (.array .double)) (t' := (.array .double)) (by decide) (by decide)))).keep Kq33 nin0)
  have f_39 := (f_34.keep Kq33)
  obtain ⟨T40, h40, X40, e40, W40, st40⟩ := putF X33 hx hZ hown (host := "") (Or.inl (hw _ (List.mem_of_getElem? (i := 31) rfl))) Via.refl rfl f_38 f_39 (Or.inr ⟨(hw _ (List.mem_of_getElem? (i := 32) rfl)), rfl, hnm⟩) (hw _ (List.mem_of_getElem? (i := 7) rfl)) (ty := (.array .double)) (by decide) rfl rfl (g := (mkF m 107 #[.val (.ref u0), .val (.ref u1), .val (.ref u2), .val (.int (2 : Int32))] [(.ref d33), (.ref u0)])) rfl rfl (hb hby own_d2_107)
  have Fw40 := f_38.same W40
  have N40 := Fr.snoc X40 N33 g_u0
  have O41 := O37.wr W40 g_u0
  have K41 : Keep h0 h40 [u0] := K37.wr W40 (Or.inl (List.mem_of_getElem? (i := 0) rfl))
  refine own_on (B := T40.setTop (mkF m 110 #[.val (.ref u0), .val (.ref u1), .val (.ref u2), .val (.int (2 : Int32))] [])) (fun tz kz => st40 _ kz) ?_
  have f_42 := (Vq33.other W40 (Ne.symm ne_u0_d33))
  obtain ⟨fs, hr, hrun, hended, hW, hsame⟩ := X40.leave (v := none) (fun _ => rfl)
  refine own_of ⟨_, _, ?_, hrun, hended, _, _, rfl, ?_, ⟨_, rfl⟩, hW, hsame.mono (by decide) (by decide)⟩
  · show Steps p.tables e below (T40.setTop (mkF m 110 #[.val (.ref u0), .val (.ref u1), .val (.ref u2), .val (.int (2 : Int32))] [])) _
    exact X40.returnOut hx Bd.returns (hb hby own_d2_110) hr
  · show Q2 Z u0 u1 u2 kx ky x0 x1 y0 y1 h0 n0 _ T40.heap _
    rw [e40]
    exact ⟨d33, rfl, N40, K41, Fw40, f_42⟩
theorem own_ef_5a (m : MethodId) (x0 : Addr) (x1 : Int32) : entryFrame m #[(.ref x0), (.int x1)] 2 = mkF m 0 #[.val (.ref x0), .val (.int x1)] [] := by first | (simp [entryFrame, mkF, argsToLocals, Value.category]; done) | rfl
def Q5a (Z : State) (u0 : Addr) (d : Addr) (ky : ClassId) (y0 : UInt64) (y1 : UInt64) (h0 : Heap) (n0 : Nat) (v : Option Value) (h : Heap) (L : List Loc) : Prop := v = some (.int (if (cmpValue (FP.dcmp y0 0) .l) = (0 : Int32) then (1 : Int32) else (0 : Int32))) ∧ Fr n0 L ∧ h = h0
theorem own_d5_0 : decode prog_75_method_5_code 0 = .ok (.aload_n 0, 1) := by decide +kernel
theorem own_d5_1 : decode prog_75_method_5_code 1 = .ok (.getfield 35, 3) := by decide +kernel
theorem own_d5_4 : decode prog_75_method_5_code 4 = .ok (.iload_n 1, 1) := by decide +kernel
theorem own_d5_5 : decode prog_75_method_5_code 5 = .ok (.daload, 1) := by decide +kernel
theorem own_d5_6 : decode prog_75_method_5_code 6 = .ok (.dconst 0, 1) := by decide +kernel
theorem own_d5_7 : decode prog_75_method_5_code 7 = .ok (.dcmp .l, 1) := by decide +kernel
theorem own_d5_8 : decode prog_75_method_5_code 8 = .ok (.ifCond .ne 7, 3) := by decide +kernel
theorem own_d5_11 : decode prog_75_method_5_code 11 = .ok (.iconst 1, 1) := by decide +kernel
theorem own_d5_12 : decode prog_75_method_5_code 12 = .ok (.goto 4, 3) := by decide +kernel
theorem own_d5_15 : decode prog_75_method_5_code 15 = .ok (.iconst 0, 1) := by decide +kernel
theorem own_d5_16 : decode prog_75_method_5_code 16 = .ok (.ireturn, 1) := by decide +kernel
set_option maxRecDepth 65536 in
set_option maxHeartbeats 40000000 in
theorem rm5a (l : Launch) (Z : State) (a0 : Array Value) (hw : ∀ d ∈ tables_1, d.before a0 Z = true) (ws : List Jvm.Cond) (u0 : Addr) (d : Addr) (ky : ClassId) (y0 : UInt64) (y1 : UInt64) (h0 : Heap) (n0 : Nat) (O0 : Old Z n0 h0) (Fa : Fld Z h0 u0 "com/example/focus_on_games/focusongames/model/StateRewards" "above" "[D" (.ref d)) (Va : Arv Z h0 d ky .double 2 [(.double y0), (.double y1)] (.double 0)) :
    MetFree l (⟨"com/example/focus_on_games/focusongames/model/StateRewards", "isZero", "(I)Z"⟩ : MethodName) (head1 (Jvm.Cond.code (⟨"com/example/focus_on_games/focusongames/model/StateRewards", "isZero", "(I)Z"⟩ : MethodName) prog_75_method_5_code 2 (some .boolean) :: ws) ({ frames := 0, cells := 0, slots := 0, locals := 0 } : Room)) (fun a U => a = #[(.ref u0), (.int (0 : Int32))] ∧ Z.Warmed39 U.vm ∧ U.heap = h0) (fun _ _ _ _ _ => True) (fun _ U o U' => ∃ v L, o = .returned v ∧ Q5a Z u0 d ky y0 y1 h0 n0 v U'.heap L ∧ FrameEnd U o U' L ({ frames := 0, cells := 0, slots := 0, locals := 0 } : Room).cells ({ frames := 0, cells := 0, slots := 0, locals := 0 } : Room).slots) := by
  refine MetFree.of_bodySF (plainFor_of_name own_pn_com_example_focus_on_games_focusongames_model_StateRewards) hisR ?_
  intro p e s m args below meth c s₁ Bd hml0 hP hK
  obtain ⟨rfl, hZ, hh⟩ := hP
  have hx := Bd.exec
  have hby := Bd.bytes
  have hml : c.maxLocals = 2 := hml0
  have hown : s.vm.findClass "com/example/focus_on_games/focusongames/model/StateRewards" = some m.cls := findClass_of_methodNamed Bd.named
  have hnm := (name_of_methodNamed Bd.named Bd.method).1
  have X0 : Stand p l e ({ frames := 0, cells := 0, slots := 0, locals := 0 } : Room) s m #[(.ref u0), (.int (0 : Int32))] below meth c s₁ [] 0 0 := Stand.of_body Bd
  have e0 : s₁.heap = h0 := by rw [← hh, Bd.state]; rfl
  have N0 := Fr.nil n0
  change Go p.tables e below _ _
  refine own_on (B := s₁.setTop (mkF m 0 #[.val (.ref u0), .val (.int (0 : Int32))] [])) (fun tz kz => castTop (own_ef_5a m u0 (0 : Int32)) kz) ?_
  refine own_on (B := s₁.setTop (mkF m 1 #[.val (.ref u0), .val (.int (0 : Int32))] [(.ref u0)])) (fun tz kz => ?_) ?_
  · show Steps p.tables e below (s₁.setTop (mkF m 0 #[.val (.ref u0), .val (.int (0 : Int32))] [])) tz
    refine XS.aloadN X0.here hx rfl (hb hby own_d5_0) rfl rfl ?_
    exact kz
  obtain ⟨T1, X1, e1, st1⟩ := getF X0 hx hZ hown (host := "") (Or.inl (hw _ (List.mem_of_getElem? (i := 31) rfl))) Via.refl e0 Fa (g := (mkF m 1 #[.val (.ref u0), .val (.int (0 : Int32))] [(.ref u0)])) rfl rfl (hb hby own_d5_1)
  refine own_on (B := T1.setTop (mkF m 4 #[.val (.ref u0), .val (.int (0 : Int32))] [(.ref d)])) (fun tz kz => st1 _ kz) ?_
  refine own_on (B := T1.setTop (mkF m 5 #[.val (.ref u0), .val (.int (0 : Int32))] [(.int (0 : Int32)), (.ref d)])) (fun tz kz => ?_) ?_
  · show Steps p.tables e below (T1.setTop (mkF m 4 #[.val (.ref u0), .val (.int (0 : Int32))] [(.ref d)])) tz
    refine XS.iloadN X1.here hx rfl (hb hby own_d5_4) rfl ?_
    exact kz
  obtain ⟨cl2, Ar2, q2, S2, M2, H2, G2⟩ := id Va
  have hin3 : ¬ ((0 : Int32) < 0 ∨ cl2.slots.size ≤ ((0 : Int32)).toNatClampNeg) := inb_of S2 ⟨by decide, by decide⟩
  have hat3 : cl2.slots[((0 : Int32)).toNatClampNeg]? = some (.double y0) := Has.at H2 hin3 rfl
  refine own_on (B := T1.setTop (mkF m 8 #[.val (.ref u0), .val (.int (0 : Int32))] [(.int (cmpValue (FP.dcmp y0 0) .l))])) (fun tz kz => ?_) ?_
  · show Steps p.tables e below (T1.setTop (mkF m 5 #[.val (.ref u0), .val (.int (0 : Int32))] [(.int (0 : Int32)), (.ref d)])) tz
    refine X1.daload hx (j := (0 : Int32)) (v := (.double y0)) (by rw [e1]; exact Ar2.1) (State.isArrayOf_alike hZ.alike Ar2.2.1) Ar2.2.2 hin3 hat3 (g := (mkF m 5 #[.val (.ref u0), .val (.int (0 : Int32))] [(.int (0 : Int32)), (.ref d)])) rfl rfl (hb hby own_d5_5) _ ?_
    show Steps p.tables e below (T1.setTop (mkF m 6 #[.val (.ref u0), .val (.int (0 : Int32))] [(.double y0)])) tz
    refine XS.dconst0 X1.here hx rfl (hb hby own_d5_6) (v := 0) (by decide +kernel) ?_
    show Steps p.tables e below (T1.setTop (mkF m 7 #[.val (.ref u0), .val (.int (0 : Int32))] [(.double 0), (.double y0)])) tz
    refine XS.dcmpS X1.here hx rfl (hb hby own_d5_7) rfl (v := (cmpValue (FP.dcmp y0 0) .l)) rfl ?_
    exact kz
  obtain ⟨mv5, hmv5⟩ : ∃ z, z = (if (cmpValue (FP.dcmp y0 0) .l) = (0 : Int32) then (1 : Int32) else (0 : Int32)) := ⟨_, rfl⟩
  refine own_on (B := T1.setTop (mkF m 16 #[.val (.ref u0), .val (.int (0 : Int32))] [(.int mv5)])) (fun tz kz => ?_) ?_
  · show Steps p.tables e below (T1.setTop (mkF m 8 #[.val (.ref u0), .val (.int (0 : Int32))] [(.int (cmpValue (FP.dcmp y0 0) .l))])) tz
    by_cases hm4 : (cmpValue (FP.dcmp y0 0) .l) = (0 : Int32)
    · refine XS.ifNo X1.here hx rfl (hb hby own_d5_8) rfl ((if0 _ _).trans (teq hm4).2) ?_
      show Steps p.tables e below (T1.setTop (mkF m 11 #[.val (.ref u0), .val (.int (0 : Int32))] [])) tz
      refine XS.iconst X1.here hx rfl (hb hby own_d5_11) ?_
      show Steps p.tables e below (T1.setTop (mkF m 12 #[.val (.ref u0), .val (.int (0 : Int32))] [(.int (1 : Int32))])) tz
      refine XS.goto X1.here hx rfl (pc0 := 12) (pc' := 16) rfl (hb hby own_d5_12) (by decide) (by decide) ?_
      show Steps p.tables e below (T1.setTop (mkF m 16 #[.val (.ref u0), .val (.int (0 : Int32))] [(.int (1 : Int32))])) tz
      rw [if_pos hm4] at hmv5
      rw [hmv5] at kz
      exact kz
    · refine XS.ifYes X1.here hx rfl (pc0 := 8) (pc' := 15) rfl (hb hby own_d5_8) rfl ((if0 _ _).trans (feq hm4).2) (by decide) (by decide) ?_
      show Steps p.tables e below (T1.setTop (mkF m 15 #[.val (.ref u0), .val (.int (0 : Int32))] [])) tz
      refine XS.iconst X1.here hx rfl (hb hby own_d5_15) ?_
      show Steps p.tables e below (T1.setTop (mkF m 16 #[.val (.ref u0), .val (.int (0 : Int32))] [(.int (0 : Int32))])) tz
      rw [if_neg hm4] at hmv5
      rw [hmv5] at kz
      exact kz
  rw [hmv5]
  obtain ⟨fs, hr, hrun, hended, hW, hsame⟩ := X1.leave (v := some (.int (if (cmpValue (FP.dcmp y0 0) .l) = (0 : Int32) then (1 : Int32) else (0 : Int32)))) (fun h => by rw [Bd.returns] at h; cases h)
  refine own_of ⟨_, _, ?_, hrun, hended, _, _, rfl, ?_, ⟨_, rfl⟩, hW, hsame.mono (by decide) (by decide)⟩
  · show Steps p.tables e below (T1.setTop (mkF m 16 #[.val (.ref u0), .val (.int (0 : Int32))] [(.int (if (cmpValue (FP.dcmp y0 0) .l) = (0 : Int32) then (1 : Int32) else (0 : Int32)))])) _
    exact own_retN X1 hx (t := .boolean) Bd.returns (by simp) (by first | rfl | (split <;> first | rfl | (split <;> first | rfl | (split <;> rfl)))) (hb hby own_d5_16) hr
  · show Q5a Z u0 d ky y0 y1 h0 n0 _ T1.heap _
    rw [e1]
    exact ⟨rfl, N0, rfl⟩
theorem own_ef_5b (m : MethodId) (x0 : Addr) (x1 : Int32) : entryFrame m #[(.ref x0), (.int x1)] 2 = mkF m 0 #[.val (.ref x0), .val (.int x1)] [] := by first | (simp [entryFrame, mkF, argsToLocals, Value.category]; done) | rfl
def Q5b (Z : State) (u0 : Addr) (d : Addr) (ky : ClassId) (y0 : UInt64) (y1 : UInt64) (h0 : Heap) (n0 : Nat) (v : Option Value) (h : Heap) (L : List Loc) : Prop := v = some (.int (if (cmpValue (FP.dcmp y1 0) .l) = (0 : Int32) then (1 : Int32) else (0 : Int32))) ∧ Fr n0 L ∧ h = h0
set_option maxRecDepth 65536 in
set_option maxHeartbeats 40000000 in
theorem rm5b (l : Launch) (Z : State) (a0 : Array Value) (hw : ∀ d ∈ tables_1, d.before a0 Z = true) (ws : List Jvm.Cond) (u0 : Addr) (d : Addr) (ky : ClassId) (y0 : UInt64) (y1 : UInt64) (h0 : Heap) (n0 : Nat) (O0 : Old Z n0 h0) (Fa : Fld Z h0 u0 "com/example/focus_on_games/focusongames/model/StateRewards" "above" "[D" (.ref d)) (Va : Arv Z h0 d ky .double 2 [(.double y0), (.double y1)] (.double 0)) :
    MetFree l (⟨"com/example/focus_on_games/focusongames/model/StateRewards", "isZero", "(I)Z"⟩ : MethodName) (head1 (Jvm.Cond.code (⟨"com/example/focus_on_games/focusongames/model/StateRewards", "isZero", "(I)Z"⟩ : MethodName) prog_75_method_5_code 2 (some .boolean) :: ws) ({ frames := 0, cells := 0, slots := 0, locals := 0 } : Room)) (fun a U => a = #[(.ref u0), (.int (1 : Int32))] ∧ Z.Warmed39 U.vm ∧ U.heap = h0) (fun _ _ _ _ _ => True) (fun _ U o U' => ∃ v L, o = .returned v ∧ Q5b Z u0 d ky y0 y1 h0 n0 v U'.heap L ∧ FrameEnd U o U' L ({ frames := 0, cells := 0, slots := 0, locals := 0 } : Room).cells ({ frames := 0, cells := 0, slots := 0, locals := 0 } : Room).slots) := by
  refine MetFree.of_bodySF (plainFor_of_name own_pn_com_example_focus_on_games_focusongames_model_StateRewards) hisR ?_
  intro p e s m args below meth c s₁ Bd hml0 hP hK
  obtain ⟨rfl, hZ, hh⟩ := hP
  have hx := Bd.exec
  have hby := Bd.bytes
  have hml : c.maxLocals = 2 := hml0
  have hown : s.vm.findClass "com/example/focus_on_games/focusongames/model/StateRewards" = some m.cls := findClass_of_methodNamed Bd.named
  have hnm := (name_of_methodNamed Bd.named Bd.method).1
  have X0 : Stand p l e ({ frames := 0, cells := 0, slots := 0, locals := 0 } : Room) s m #[(.ref u0), (.int (1 : Int32))] below meth c s₁ [] 0 0 := Stand.of_body Bd
  have e0 : s₁.heap = h0 := by rw [← hh, Bd.state]; rfl
  have N0 := Fr.nil n0
  change Go p.tables e below _ _
  refine own_on (B := s₁.setTop (mkF m 0 #[.val (.ref u0), .val (.int (1 : Int32))] [])) (fun tz kz => castTop (own_ef_5b m u0 (1 : Int32)) kz) ?_
  refine own_on (B := s₁.setTop (mkF m 1 #[.val (.ref u0), .val (.int (1 : Int32))] [(.ref u0)])) (fun tz kz => ?_) ?_
  · show Steps p.tables e below (s₁.setTop (mkF m 0 #[.val (.ref u0), .val (.int (1 : Int32))] [])) tz
    refine XS.aloadN X0.here hx rfl (hb hby own_d5_0) rfl rfl ?_
    exact kz
  obtain ⟨T1, X1, e1, st1⟩ := getF X0 hx hZ hown (host := "") (Or.inl (hw _ (List.mem_of_getElem? (i := 31) rfl))) Via.refl e0 Fa (g := (mkF m 1 #[.val (.ref u0), .val (.int (1 : Int32))] [(.ref u0)])) rfl rfl (hb hby own_d5_1)
  refine own_on (B := T1.setTop (mkF m 4 #[.val (.ref u0), .val (.int (1 : Int32))] [(.ref d)])) (fun tz kz => st1 _ kz) ?_
  refine own_on (B := T1.setTop (mkF m 5 #[.val (.ref u0), .val (.int (1 : Int32))] [(.int (1 : Int32)), (.ref d)])) (fun tz kz => ?_) ?_
  · show Steps p.tables e below (T1.setTop (mkF m 4 #[.val (.ref u0), .val (.int (1 : Int32))] [(.ref d)])) tz
    refine XS.iloadN X1.here hx rfl (hb hby own_d5_4) rfl ?_
    exact kz
  obtain ⟨cl2, Ar2, q2, S2, M2, H2, G2⟩ := id Va
  have hin3 : ¬ ((1 : Int32) < 0 ∨ cl2.slots.size ≤ ((1 : Int32)).toNatClampNeg) := inb_of S2 ⟨by decide, by decide⟩
  have hat3 : cl2.slots[((1 : Int32)).toNatClampNeg]? = some (.double y1) := Has.at H2 hin3 rfl
  refine own_on (B := T1.setTop (mkF m 8 #[.val (.ref u0), .val (.int (1 : Int32))] [(.int (cmpValue (FP.dcmp y1 0) .l))])) (fun tz kz => ?_) ?_
  · show Steps p.tables e below (T1.setTop (mkF m 5 #[.val (.ref u0), .val (.int (1 : Int32))] [(.int (1 : Int32)), (.ref d)])) tz
    refine X1.daload hx (j := (1 : Int32)) (v := (.double y1)) (by rw [e1]; exact Ar2.1) (State.isArrayOf_alike hZ.alike Ar2.2.1) Ar2.2.2 hin3 hat3 (g := (mkF m 5 #[.val (.ref u0), .val (.int (1 : Int32))] [(.int (1 : Int32)), (.ref d)])) rfl rfl (hb hby own_d5_5) _ ?_
    show Steps p.tables e below (T1.setTop (mkF m 6 #[.val (.ref u0), .val (.int (1 : Int32))] [(.double y1)])) tz
    refine XS.dconst0 X1.here hx rfl (hb hby own_d5_6) (v := 0) (by decide +kernel) ?_
    show Steps p.tables e below (T1.setTop (mkF m 7 #[.val (.ref u0), .val (.int (1 : Int32))] [(.double 0), (.double y1)])) tz
    refine XS.dcmpS X1.here hx rfl (hb hby own_d5_7) rfl (v := (cmpValue (FP.dcmp y1 0) .l)) rfl ?_
    exact kz
  obtain ⟨mv5, hmv5⟩ : ∃ z, z = (if (cmpValue (FP.dcmp y1 0) .l) = (0 : Int32) then (1 : Int32) else (0 : Int32)) := ⟨_, rfl⟩
  refine own_on (B := T1.setTop (mkF m 16 #[.val (.ref u0), .val (.int (1 : Int32))] [(.int mv5)])) (fun tz kz => ?_) ?_
  · show Steps p.tables e below (T1.setTop (mkF m 8 #[.val (.ref u0), .val (.int (1 : Int32))] [(.int (cmpValue (FP.dcmp y1 0) .l))])) tz
    by_cases hm4 : (cmpValue (FP.dcmp y1 0) .l) = (0 : Int32)
    · refine XS.ifNo X1.here hx rfl (hb hby own_d5_8) rfl ((if0 _ _).trans (teq hm4).2) ?_
      show Steps p.tables e below (T1.setTop (mkF m 11 #[.val (.ref u0), .val (.int (1 : Int32))] [])) tz
      refine XS.iconst X1.here hx rfl (hb hby own_d5_11) ?_
      show Steps p.tables e below (T1.setTop (mkF m 12 #[.val (.ref u0), .val (.int (1 : Int32))] [(.int (1 : Int32))])) tz
      refine XS.goto X1.here hx rfl (pc0 := 12) (pc' := 16) rfl (hb hby own_d5_12) (by decide) (by decide) ?_
      show Steps p.tables e below (T1.setTop (mkF m 16 #[.val (.ref u0), .val (.int (1 : Int32))] [(.int (1 : Int32))])) tz
      rw [if_pos hm4] at hmv5
      rw [hmv5] at kz
      exact kz
    · refine XS.ifYes X1.here hx rfl (pc0 := 8) (pc' := 15) rfl (hb hby own_d5_8) rfl ((if0 _ _).trans (feq hm4).2) (by decide) (by decide) ?_
      show Steps p.tables e below (T1.setTop (mkF m 15 #[.val (.ref u0), .val (.int (1 : Int32))] [])) tz
      refine XS.iconst X1.here hx rfl (hb hby own_d5_15) ?_
      show Steps p.tables e below (T1.setTop (mkF m 16 #[.val (.ref u0), .val (.int (1 : Int32))] [(.int (0 : Int32))])) tz
      rw [if_neg hm4] at hmv5
      rw [hmv5] at kz
      exact kz
  rw [hmv5]
  obtain ⟨fs, hr, hrun, hended, hW, hsame⟩ := X1.leave (v := some (.int (if (cmpValue (FP.dcmp y1 0) .l) = (0 : Int32) then (1 : Int32) else (0 : Int32)))) (fun h => by rw [Bd.returns] at h; cases h)
  refine own_of ⟨_, _, ?_, hrun, hended, _, _, rfl, ?_, ⟨_, rfl⟩, hW, hsame.mono (by decide) (by decide)⟩
  · show Steps p.tables e below (T1.setTop (mkF m 16 #[.val (.ref u0), .val (.int (1 : Int32))] [(.int (if (cmpValue (FP.dcmp y1 0) .l) = (0 : Int32) then (1 : Int32) else (0 : Int32)))])) _
    exact own_retN X1 hx (t := .boolean) Bd.returns (by simp) (by first | rfl | (split <;> first | rfl | (split <;> first | rfl | (split <;> rfl)))) (hb hby own_d5_16) hr
  · show Q5b Z u0 d ky y0 y1 h0 n0 _ T1.heap _
    rw [e1]
    exact ⟨rfl, N0, rfl⟩
theorem own_ef_0 (m : MethodId) (x0 : Int32) (x1 : Int32) (x2 : Int32) (x3 : Int32) (x4 : Int32) : entryFrame m #[(.int x0), (.int x1), (.int x2), (.int x3), (.int x4)] maxLocals = mkF m 0 #[.val (.int x0), .val (.int x1), .val (.int x2), .val (.int x3), .val (.int x4), .unset, .unset, .unset, .unset, .unset, .unset, .unset] [] := by first | (simp [entryFrame, mkF, argsToLocals, Value.category, maxLocals]; done) | rfl
def Q0 (Z : State) (p0 : Int32) (p1 : Int32) (p2 : Int32) (p3 : Int32) (p4 : Int32) (h0 : Heap) (n0 : Nat) (v : Option Value) (h : Heap) (L : List Loc) : Prop := v = some (.int 1) ∧ Fr n0 L
theorem own_pd1 : parseMethodDescriptor "(IZ)D" = some ⟨[.int, .boolean], some .double⟩ := by decide +kernel
theorem own_pd2 : parseMethodDescriptor "([D[D)V" = some ⟨[(.array .double), (.array .double)], none⟩ := by decide +kernel
theorem own_pd3 : parseMethodDescriptor "(I)Z" = some ⟨[.int], some .boolean⟩ := by decide +kernel
set_option maxRecDepth 65536 in
set_option maxHeartbeats 40000000 in
theorem rm0 (l : Launch) (Z : State) (a0 : Array Value) (hw : ∀ d ∈ tables_1, d.before a0 Z = true) (ws : List Jvm.Cond) (p0 : Int32) (p1 : Int32) (p2 : Int32) (p3 : Int32) (p4 : Int32) (h0 : Heap) (n0 : Nat) (O0 : Old Z n0 h0) :
    MetFree l x (head1 (Jvm.Cond.code x code maxLocals ret :: ws) room_1) (fun a U => a = #[(.int p0), (.int p1), (.int p2), (.int p3), (.int p4)] ∧ Z.Warmed39 U.vm ∧ U.heap = h0) (fun _ _ _ _ _ => True) (fun _ U o U' => ∃ v L, o = .returned v ∧ Q0 Z p0 p1 p2 p3 p4 h0 n0 v U'.heap L ∧ FrameEnd U o U' L room_1.cells room_1.slots) := by
  refine MetFree.of_bodySF (plainFor_of_name own_pn_com_example_focus_on_games_focusongames_model_StateRewardsIsZeroPinLaw) hisR ?_
  intro p e s m args below meth c s₁ Bd hml0 hP hK
  obtain ⟨rfl, hZ, hh⟩ := hP
  have hx := Bd.exec
  have hby := Bd.bytes
  have hml : c.maxLocals = 12 := hml0
  have hown : s.vm.findClass "com/example/focus_on_games/focusongames/model/StateRewardsIsZeroPinLaw" = some m.cls := findClass_of_methodNamed Bd.named
  have hnm := (name_of_methodNamed Bd.named Bd.method).1
  have X0 : Stand p l e room_1 s m #[(.int p0), (.int p1), (.int p2), (.int p3), (.int p4)] below meth c s₁ [] 0 0 := Stand.of_body Bd
  have e0 : s₁.heap = h0 := by rw [← hh, Bd.state]; rfl
  have N0 := Fr.nil n0
  change Go p.tables e below _ _
  refine own_on (B := s₁.setTop (mkF m 0 #[.val (.int p0), .val (.int p1), .val (.int p2), .val (.int p3), .val (.int p4), .unset, .unset, .unset, .unset, .unset, .unset, .unset] [])) (fun tz kz => castTop (own_ef_0 m p0 p1 p2 p3 p4) kz) ?_
  refine own_on (B := s₁.setTop (mkF m 30 #[.val (.int p0), .val (.int p1), .val (.int p2), .val (.int p3), .val (.int p4), .val (.int (p0 &&& (7 : Int32))), .val (.int ((p0 &&& (7 : Int32)) + (p1 &&& (7 : Int32)))), .val (.int (p2 &&& (7 : Int32))), .val (.int ((p2 &&& (7 : Int32)) + (p3 &&& (7 : Int32)))), .unset, .unset, .unset] [])) (fun tz kz => ?_) ?_
  · show Steps p.tables e below (s₁.setTop (mkF m 0 #[.val (.int p0), .val (.int p1), .val (.int p2), .val (.int p3), .val (.int p4), .unset, .unset, .unset, .unset, .unset, .unset, .unset] [])) tz
    refine XS.iloadN X0.here hx rfl (hb hby at_0) rfl ?_
    show Steps p.tables e below (s₁.setTop (mkF m 1 #[.val (.int p0), .val (.int p1), .val (.int p2), .val (.int p3), .val (.int p4), .unset, .unset, .unset, .unset, .unset, .unset, .unset] [(.int p0)])) tz
    refine XS.bipush X0.here hx rfl (hb hby at_1) ?_
    show Steps p.tables e below (s₁.setTop (mkF m 3 #[.val (.int p0), .val (.int p1), .val (.int p2), .val (.int p3), .val (.int p4), .unset, .unset, .unset, .unset, .unset, .unset, .unset] [(.int (7 : Int32)), (.int p0)])) tz
    refine XS.iand X0.here hx rfl (hb hby at_3) rfl ?_
    show Steps p.tables e below (s₁.setTop (mkF m 4 #[.val (.int p0), .val (.int p1), .val (.int p2), .val (.int p3), .val (.int p4), .unset, .unset, .unset, .unset, .unset, .unset, .unset] [(.int (p0 &&& (7 : Int32)))])) tz
    refine XS.istore X0.here hx rfl (hb hby at_4) rfl (l' := #[.val (.int p0), .val (.int p1), .val (.int p2), .val (.int p3), .val (.int p4), .val (.int (p0 &&& (7 : Int32))), .unset, .unset, .unset, .unset, .unset, .unset]) rfl ?_
    show Steps p.tables e below (s₁.setTop (mkF m 6 #[.val (.int p0), .val (.int p1), .val (.int p2), .val (.int p3), .val (.int p4), .val (.int (p0 &&& (7 : Int32))), .unset, .unset, .unset, .unset, .unset, .unset] [])) tz
    refine XS.iload X0.here hx rfl (hb hby at_6) rfl ?_
    show Steps p.tables e below (s₁.setTop (mkF m 8 #[.val (.int p0), .val (.int p1), .val (.int p2), .val (.int p3), .val (.int p4), .val (.int (p0 &&& (7 : Int32))), .unset, .unset, .unset, .unset, .unset, .unset] [(.int (p0 &&& (7 : Int32)))])) tz
    refine XS.iloadN X0.here hx rfl (hb hby at_8) rfl ?_
    show Steps p.tables e below (s₁.setTop (mkF m 9 #[.val (.int p0), .val (.int p1), .val (.int p2), .val (.int p3), .val (.int p4), .val (.int (p0 &&& (7 : Int32))), .unset, .unset, .unset, .unset, .unset, .unset] [(.int p1), (.int (p0 &&& (7 : Int32)))])) tz
    refine XS.bipush X0.here hx rfl (hb hby at_9) ?_
    show Steps p.tables e below (s₁.setTop (mkF m 11 #[.val (.int p0), .val (.int p1), .val (.int p2), .val (.int p3), .val (.int p4), .val (.int (p0 &&& (7 : Int32))), .unset, .unset, .unset, .unset, .unset, .unset] [(.int (7 : Int32)), (.int p1), (.int (p0 &&& (7 : Int32)))])) tz
    refine XS.iand X0.here hx rfl (hb hby at_11) rfl ?_
    show Steps p.tables e below (s₁.setTop (mkF m 12 #[.val (.int p0), .val (.int p1), .val (.int p2), .val (.int p3), .val (.int p4), .val (.int (p0 &&& (7 : Int32))), .unset, .unset, .unset, .unset, .unset, .unset] [(.int (p1 &&& (7 : Int32))), (.int (p0 &&& (7 : Int32)))])) tz
    refine XS.iadd X0.here hx rfl (hb hby at_12) rfl ?_
    show Steps p.tables e below (s₁.setTop (mkF m 13 #[.val (.int p0), .val (.int p1), .val (.int p2), .val (.int p3), .val (.int p4), .val (.int (p0 &&& (7 : Int32))), .unset, .unset, .unset, .unset, .unset, .unset] [(.int ((p0 &&& (7 : Int32)) + (p1 &&& (7 : Int32))))])) tz
    refine XS.istore X0.here hx rfl (hb hby at_13) rfl (l' := #[.val (.int p0), .val (.int p1), .val (.int p2), .val (.int p3), .val (.int p4), .val (.int (p0 &&& (7 : Int32))), .val (.int ((p0 &&& (7 : Int32)) + (p1 &&& (7 : Int32)))), .unset, .unset, .unset, .unset, .unset]) rfl ?_
    show Steps p.tables e below (s₁.setTop (mkF m 15 #[.val (.int p0), .val (.int p1), .val (.int p2), .val (.int p3), .val (.int p4), .val (.int (p0 &&& (7 : Int32))), .val (.int ((p0 &&& (7 : Int32)) + (p1 &&& (7 : Int32)))), .unset, .unset, .unset, .unset, .unset] [])) tz
    refine XS.iloadN X0.here hx rfl (hb hby at_15) rfl ?_
    show Steps p.tables e below (s₁.setTop (mkF m 16 #[.val (.int p0), .val (.int p1), .val (.int p2), .val (.int p3), .val (.int p4), .val (.int (p0 &&& (7 : Int32))), .val (.int ((p0 &&& (7 : Int32)) + (p1 &&& (7 : Int32)))), .unset, .unset, .unset, .unset, .unset] [(.int p2)])) tz
    refine XS.bipush X0.here hx rfl (hb hby at_16) ?_
    show Steps p.tables e below (s₁.setTop (mkF m 18 #[.val (.int p0), .val (.int p1), .val (.int p2), .val (.int p3), .val (.int p4), .val (.int (p0 &&& (7 : Int32))), .val (.int ((p0 &&& (7 : Int32)) + (p1 &&& (7 : Int32)))), .unset, .unset, .unset, .unset, .unset] [(.int (7 : Int32)), (.int p2)])) tz
    refine XS.iand X0.here hx rfl (hb hby at_18) rfl ?_
    show Steps p.tables e below (s₁.setTop (mkF m 19 #[.val (.int p0), .val (.int p1), .val (.int p2), .val (.int p3), .val (.int p4), .val (.int (p0 &&& (7 : Int32))), .val (.int ((p0 &&& (7 : Int32)) + (p1 &&& (7 : Int32)))), .unset, .unset, .unset, .unset, .unset] [(.int (p2 &&& (7 : Int32)))])) tz
    refine XS.istore X0.here hx rfl (hb hby at_19) rfl (l' := #[.val (.int p0), .val (.int p1), .val (.int p2), .val (.int p3), .val (.int p4), .val (.int (p0 &&& (7 : Int32))), .val (.int ((p0 &&& (7 : Int32)) + (p1 &&& (7 : Int32)))), .val (.int (p2 &&& (7 : Int32))), .unset, .unset, .unset, .unset]) rfl ?_
    show Steps p.tables e below (s₁.setTop (mkF m 21 #[.val (.int p0), .val (.int p1), .val (.int p2), .val (.int p3), .val (.int p4), .val (.int (p0 &&& (7 : Int32))), .val (.int ((p0 &&& (7 : Int32)) + (p1 &&& (7 : Int32)))), .val (.int (p2 &&& (7 : Int32))), .unset, .unset, .unset, .unset] [])) tz
    refine XS.iload X0.here hx rfl (hb hby at_21) rfl ?_
    show Steps p.tables e below (s₁.setTop (mkF m 23 #[.val (.int p0), .val (.int p1), .val (.int p2), .val (.int p3), .val (.int p4), .val (.int (p0 &&& (7 : Int32))), .val (.int ((p0 &&& (7 : Int32)) + (p1 &&& (7 : Int32)))), .val (.int (p2 &&& (7 : Int32))), .unset, .unset, .unset, .unset] [(.int (p2 &&& (7 : Int32)))])) tz
    refine XS.iloadN X0.here hx rfl (hb hby at_23) rfl ?_
    show Steps p.tables e below (s₁.setTop (mkF m 24 #[.val (.int p0), .val (.int p1), .val (.int p2), .val (.int p3), .val (.int p4), .val (.int (p0 &&& (7 : Int32))), .val (.int ((p0 &&& (7 : Int32)) + (p1 &&& (7 : Int32)))), .val (.int (p2 &&& (7 : Int32))), .unset, .unset, .unset, .unset] [(.int p3), (.int (p2 &&& (7 : Int32)))])) tz
    refine XS.bipush X0.here hx rfl (hb hby at_24) ?_
    show Steps p.tables e below (s₁.setTop (mkF m 26 #[.val (.int p0), .val (.int p1), .val (.int p2), .val (.int p3), .val (.int p4), .val (.int (p0 &&& (7 : Int32))), .val (.int ((p0 &&& (7 : Int32)) + (p1 &&& (7 : Int32)))), .val (.int (p2 &&& (7 : Int32))), .unset, .unset, .unset, .unset] [(.int (7 : Int32)), (.int p3), (.int (p2 &&& (7 : Int32)))])) tz
    refine XS.iand X0.here hx rfl (hb hby at_26) rfl ?_
    show Steps p.tables e below (s₁.setTop (mkF m 27 #[.val (.int p0), .val (.int p1), .val (.int p2), .val (.int p3), .val (.int p4), .val (.int (p0 &&& (7 : Int32))), .val (.int ((p0 &&& (7 : Int32)) + (p1 &&& (7 : Int32)))), .val (.int (p2 &&& (7 : Int32))), .unset, .unset, .unset, .unset] [(.int (p3 &&& (7 : Int32))), (.int (p2 &&& (7 : Int32)))])) tz
    refine XS.iadd X0.here hx rfl (hb hby at_27) rfl ?_
    show Steps p.tables e below (s₁.setTop (mkF m 28 #[.val (.int p0), .val (.int p1), .val (.int p2), .val (.int p3), .val (.int p4), .val (.int (p0 &&& (7 : Int32))), .val (.int ((p0 &&& (7 : Int32)) + (p1 &&& (7 : Int32)))), .val (.int (p2 &&& (7 : Int32))), .unset, .unset, .unset, .unset] [(.int ((p2 &&& (7 : Int32)) + (p3 &&& (7 : Int32))))])) tz
    refine XS.istore X0.here hx rfl (hb hby at_28) rfl (l' := #[.val (.int p0), .val (.int p1), .val (.int p2), .val (.int p3), .val (.int p4), .val (.int (p0 &&& (7 : Int32))), .val (.int ((p0 &&& (7 : Int32)) + (p1 &&& (7 : Int32)))), .val (.int (p2 &&& (7 : Int32))), .val (.int ((p2 &&& (7 : Int32)) + (p3 &&& (7 : Int32)))), .unset, .unset, .unset]) rfl ?_
    exact kz
  generalize hv_lo0 : (p0 &&& (7 : Int32)) = lo0
  generalize hv_hi0 : (lo0 + (p1 &&& (7 : Int32))) = hi0
  generalize hv_lo1 : (p2 &&& (7 : Int32)) = lo1
  generalize hv_hi1 : (lo1 + (p3 &&& (7 : Int32))) = hi1
  refine own_on (B := s₁.setTop (mkF m 31 #[.val (.int p0), .val (.int p1), .val (.int p2), .val (.int p3), .val (.int p4), .val (.int lo0), .val (.int hi0), .val (.int lo1), .val (.int hi1), .unset, .unset, .unset] [(.int (2 : Int32))])) (fun tz kz => ?_) ?_
  · show Steps p.tables e below (s₁.setTop (mkF m 30 #[.val (.int p0), .val (.int p1), .val (.int p2), .val (.int p3), .val (.int p4), .val (.int lo0), .val (.int hi0), .val (.int lo1), .val (.int hi1), .unset, .unset, .unset] [])) tz
    refine XS.iconst X0.here hx rfl (hb hby at_30) ?_
    exact kz
  obtain ⟨T1, h1, k1, X1, e1, E1, A1, Ex1, st1⟩ := newPE X0 hx hZ (hw _ (List.mem_of_getElem? (i := 0) rfl)) e0 (g := (mkF m 31 #[.val (.int p0), .val (.int p1), .val (.int p2), .val (.int p3), .val (.int p4), .val (.int lo0), .val (.int hi0), .val (.int lo1), .val (.int hi1), .unset, .unset, .unset] [(.int (2 : Int32))])) rfl (hb hby at_31) rfl (by decide) (cap := 2) (by decide) (by decide) (by decide) (by decide) (ad := "[D") (by decide)
  obtain ⟨b1, g1⟩ : ∃ z, z = h0.size := ⟨_, rfl⟩
  rw [← g1] at A1 st1
  rw [← g1] at Ex1
  have g_b1 : n0 ≤ b1 := Nat.le_trans (own_old O0) (Nat.le_of_eq g1.symm)
  have sz_b1 : h0.size ≤ b1 := Nat.le_trans (Keep.refl h0 []).1 (Nat.le_of_eq g1.symm)
  have O2 := O0.ext E1
  have K2 : Keep h0 h1 [] := (Keep.refl h0 []).ext E1
  have V1 : Arv Z h1 b1 k1 .double (2 : Int32) [(.double 0), (.double 0)] (.double 0) := (Arv.new A1 (by decide)).pad (pad_rep [] (.double 0) 2)
  refine own_on (B := T1.setTop (mkF m 33 #[.val (.int p0), .val (.int p1), .val (.int p2), .val (.int p3), .val (.int p4), .val (.int lo0), .val (.int hi0), .val (.int lo1), .val (.int hi1), .unset, .unset, .unset] [(.ref b1)])) (fun tz kz => st1 _ kz) ?_
  refine own_on (B := T1.setTop (mkF m 36 #[.val (.int p0), .val (.int p1), .val (.int p2), .val (.int p3), .val (.int p4), .val (.int lo0), .val (.int hi0), .val (.int lo1), .val (.int hi1), .val (.ref b1), .unset, .unset] [(.int (2 : Int32))])) (fun tz kz => ?_) ?_
  · show Steps p.tables e below (T1.setTop (mkF m 33 #[.val (.int p0), .val (.int p1), .val (.int p2), .val (.int p3), .val (.int p4), .val (.int lo0), .val (.int hi0), .val (.int lo1), .val (.int hi1), .unset, .unset, .unset] [(.ref b1)])) tz
    refine XS.astore X1.here hx rfl (hb hby at_33) rfl rfl (l' := #[.val (.int p0), .val (.int p1), .val (.int p2), .val (.int p3), .val (.int p4), .val (.int lo0), .val (.int hi0), .val (.int lo1), .val (.int hi1), .val (.ref b1), .unset, .unset]) rfl ?_
    show Steps p.tables e below (T1.setTop (mkF m 35 #[.val (.int p0), .val (.int p1), .val (.int p2), .val (.int p3), .val (.int p4), .val (.int lo0), .val (.int hi0), .val (.int lo1), .val (.int hi1), .val (.ref b1), .unset, .unset] [])) tz
    refine XS.iconst X1.here hx rfl (hb hby at_35) ?_
    exact kz
  obtain ⟨T3, h3, k3, X3, e3, E3, A3, Ex3, st3⟩ := newPE X1 hx hZ (hw _ (List.mem_of_getElem? (i := 0) rfl)) e1 (g := (mkF m 36 #[.val (.int p0), .val (.int p1), .val (.int p2), .val (.int p3), .val (.int p4), .val (.int lo0), .val (.int hi0), .val (.int lo1), .val (.int hi1), .val (.ref b1), .unset, .unset] [(.int (2 : Int32))])) rfl (hb hby at_36) rfl (by decide) (cap := 2) (by decide) (by decide) (by decide) (by decide) (ad := "[D") (by decide)
  obtain ⟨b3, g3⟩ : ∃ z, z = h1.size := ⟨_, rfl⟩
  rw [← g3] at A3 st3
  rw [← g3] at Ex3
  have ne_b1_b3 : b1 ≠ b3 := Nat.ne_of_lt (Nat.lt_of_lt_of_le (V1).lt (Nat.le_of_eq g3.symm))
  have g_b3 : n0 ≤ b3 := Nat.le_trans (own_old O2) (Nat.le_of_eq g3.symm)
  have sz_b3 : h0.size ≤ b3 := Nat.le_trans K2.1 (Nat.le_of_eq g3.symm)
  have O4 := O2.ext E3
  have K4 : Keep h0 h3 [] := K2.ext E3
  have V3 : Arv Z h3 b3 k3 .double (2 : Int32) [(.double 0), (.double 0)] (.double 0) := (Arv.new A3 (by decide)).pad (pad_rep [] (.double 0) 2)
  refine own_on (B := T3.setTop (mkF m 38 #[.val (.int p0), .val (.int p1), .val (.int p2), .val (.int p3), .val (.int p4), .val (.int lo0), .val (.int hi0), .val (.int lo1), .val (.int hi1), .val (.ref b1), .unset, .unset] [(.ref b3)])) (fun tz kz => st3 _ kz) ?_
  refine own_on (B := T3.setTop (mkF m 49 #[.val (.int p0), .val (.int p1), .val (.int p2), .val (.int p3), .val (.int p4), .val (.int lo0), .val (.int hi0), .val (.int lo1), .val (.int hi1), .val (.ref b1), .val (.ref b3), .unset] [(.int (p4 &&& (1 : Int32))), (.int lo0), (.int (0 : Int32)), (.ref b1)])) (fun tz kz => ?_) ?_
  · show Steps p.tables e below (T3.setTop (mkF m 38 #[.val (.int p0), .val (.int p1), .val (.int p2), .val (.int p3), .val (.int p4), .val (.int lo0), .val (.int hi0), .val (.int lo1), .val (.int hi1), .val (.ref b1), .unset, .unset] [(.ref b3)])) tz
    refine XS.astore X3.here hx rfl (hb hby at_38) rfl rfl (l' := #[.val (.int p0), .val (.int p1), .val (.int p2), .val (.int p3), .val (.int p4), .val (.int lo0), .val (.int hi0), .val (.int lo1), .val (.int hi1), .val (.ref b1), .val (.ref b3), .unset]) rfl ?_
    show Steps p.tables e below (T3.setTop (mkF m 40 #[.val (.int p0), .val (.int p1), .val (.int p2), .val (.int p3), .val (.int p4), .val (.int lo0), .val (.int hi0), .val (.int lo1), .val (.int hi1), .val (.ref b1), .val (.ref b3), .unset] [])) tz
    refine XS.aload X3.here hx rfl (hb hby at_40) rfl rfl ?_
    show Steps p.tables e below (T3.setTop (mkF m 42 #[.val (.int p0), .val (.int p1), .val (.int p2), .val (.int p3), .val (.int p4), .val (.int lo0), .val (.int hi0), .val (.int lo1), .val (.int hi1), .val (.ref b1), .val (.ref b3), .unset] [(.ref b1)])) tz
    refine XS.iconst X3.here hx rfl (hb hby at_42) ?_
    show Steps p.tables e below (T3.setTop (mkF m 43 #[.val (.int p0), .val (.int p1), .val (.int p2), .val (.int p3), .val (.int p4), .val (.int lo0), .val (.int hi0), .val (.int lo1), .val (.int hi1), .val (.ref b1), .val (.ref b3), .unset] [(.int (0 : Int32)), (.ref b1)])) tz
    refine XS.iload X3.here hx rfl (hb hby at_43) rfl ?_
    show Steps p.tables e below (T3.setTop (mkF m 45 #[.val (.int p0), .val (.int p1), .val (.int p2), .val (.int p3), .val (.int p4), .val (.int lo0), .val (.int hi0), .val (.int lo1), .val (.int hi1), .val (.ref b1), .val (.ref b3), .unset] [(.int lo0), (.int (0 : Int32)), (.ref b1)])) tz
    refine XS.iload X3.here hx rfl (hb hby at_45) rfl ?_
    show Steps p.tables e below (T3.setTop (mkF m 47 #[.val (.int p0), .val (.int p1), .val (.int p2), .val (.int p3), .val (.int p4), .val (.int lo0), .val (.int hi0), .val (.int lo1), .val (.int hi1), .val (.ref b1), .val (.ref b3), .unset] [(.int p4), (.int lo0), (.int (0 : Int32)), (.ref b1)])) tz
    refine XS.iconst X3.here hx rfl (hb hby at_47) ?_
    show Steps p.tables e below (T3.setTop (mkF m 48 #[.val (.int p0), .val (.int p1), .val (.int p2), .val (.int p3), .val (.int p4), .val (.int lo0), .val (.int hi0), .val (.int lo1), .val (.int hi1), .val (.ref b1), .val (.ref b3), .unset] [(.int (1 : Int32)), (.int p4), (.int lo0), (.int (0 : Int32)), (.ref b1)])) tz
    refine XS.iand X3.here hx rfl (hb hby at_48) rfl ?_
    exact kz
  obtain ⟨mv6, hmv6⟩ : ∃ z, z = (if (p4 &&& (1 : Int32)) = (0 : Int32) then (0 : Int32) else (1 : Int32)) := ⟨_, rfl⟩
  refine own_on (B := T3.setTop (mkF m 57 #[.val (.int p0), .val (.int p1), .val (.int p2), .val (.int p3), .val (.int p4), .val (.int lo0), .val (.int hi0), .val (.int lo1), .val (.int hi1), .val (.ref b1), .val (.ref b3), .unset] [(.int mv6), (.int lo0), (.int (0 : Int32)), (.ref b1)])) (fun tz kz => ?_) ?_
  · show Steps p.tables e below (T3.setTop (mkF m 49 #[.val (.int p0), .val (.int p1), .val (.int p2), .val (.int p3), .val (.int p4), .val (.int lo0), .val (.int hi0), .val (.int lo1), .val (.int hi1), .val (.ref b1), .val (.ref b3), .unset] [(.int (p4 &&& (1 : Int32))), (.int lo0), (.int (0 : Int32)), (.ref b1)])) tz
    by_cases hm5 : (p4 &&& (1 : Int32)) = (0 : Int32)
    · refine XS.ifYes X3.here hx rfl (pc0 := 49) (pc' := 56) rfl (hb hby at_49) rfl ((if0 _ _).trans (teq hm5).1) (by decide) (by decide) ?_
      show Steps p.tables e below (T3.setTop (mkF m 56 #[.val (.int p0), .val (.int p1), .val (.int p2), .val (.int p3), .val (.int p4), .val (.int lo0), .val (.int hi0), .val (.int lo1), .val (.int hi1), .val (.ref b1), .val (.ref b3), .unset] [(.int lo0), (.int (0 : Int32)), (.ref b1)])) tz
      refine XS.iconst X3.here hx rfl (hb hby at_56) ?_
      show Steps p.tables e below (T3.setTop (mkF m 57 #[.val (.int p0), .val (.int p1), .val (.int p2), .val (.int p3), .val (.int p4), .val (.int lo0), .val (.int hi0), .val (.int lo1), .val (.int hi1), .val (.ref b1), .val (.ref b3), .unset] [(.int (0 : Int32)), (.int lo0), (.int (0 : Int32)), (.ref b1)])) tz
      rw [if_pos hm5] at hmv6
      rw [hmv6] at kz
      exact kz
    · refine XS.ifNo X3.here hx rfl (hb hby at_49) rfl ((if0 _ _).trans (feq hm5).1) ?_
      show Steps p.tables e below (T3.setTop (mkF m 52 #[.val (.int p0), .val (.int p1), .val (.int p2), .val (.int p3), .val (.int p4), .val (.int lo0), .val (.int hi0), .val (.int lo1), .val (.int hi1), .val (.ref b1), .val (.ref b3), .unset] [(.int lo0), (.int (0 : Int32)), (.ref b1)])) tz
      refine XS.iconst X3.here hx rfl (hb hby at_52) ?_
      show Steps p.tables e below (T3.setTop (mkF m 53 #[.val (.int p0), .val (.int p1), .val (.int p2), .val (.int p3), .val (.int p4), .val (.int lo0), .val (.int hi0), .val (.int lo1), .val (.int hi1), .val (.ref b1), .val (.ref b3), .unset] [(.int (1 : Int32)), (.int lo0), (.int (0 : Int32)), (.ref b1)])) tz
      refine XS.goto X3.here hx rfl (pc0 := 53) (pc' := 57) rfl (hb hby at_53) (by decide) (by decide) ?_
      show Steps p.tables e below (T3.setTop (mkF m 57 #[.val (.int p0), .val (.int p1), .val (.int p2), .val (.int p3), .val (.int p4), .val (.int lo0), .val (.int hi0), .val (.int lo1), .val (.int hi1), .val (.ref b1), .val (.ref b3), .unset] [(.int (1 : Int32)), (.int lo0), (.int (0 : Int32)), (.ref b1)])) tz
      rw [if_neg hm5] at hmv6
      rw [hmv6] at kz
      exact kz
  rw [hmv6]
  generalize hv_z0 : (if (p4 &&& (1 : Int32)) = (0 : Int32) then (0 : Int32) else (1 : Int32)) = z0
  have nn_lo0 := (own_okOf p0 p1 lo0 hi0 0 0 True True hv_lo0 hv_hi0 rfl rfl).2.2.2.2.1
  obtain ⟨_, _, ⟨T7, L7, k7, n7⟩, -, X7, ⟨Lc7, hQ7, l7, y7, z7⟩, st7⟩ := Jvm.LawKit.callS X3 hx (y := (⟨"com/example/focus_on_games/focusongames/model/StateRewardsIsZeroPinLaw", "quarter", "(IZ)D"⟩ : MethodName)) hown (mvT hZ (hw _ (List.mem_of_getElem? (i := 1) rfl))) (mvT hZ (hw _ (List.mem_of_getElem? (i := 2) rfl))) (mvT hZ (hw _ (List.mem_of_getElem? (i := 3) rfl))) (mvT hZ (hw _ (List.mem_of_getElem? (i := 4) rfl))) (by decide) (backOf (W := 2) (rm1 l Z a0 hw [] lo0 z0  h3 n0 O4 nn_lo0) hZ (hw _ (List.mem_of_getElem? (i := 4) rfl)) (hw _ (List.mem_of_getElem? (i := 3) rfl)) (by decide) (by decide)) (g := (mkF m 57 #[.val (.int p0), .val (.int p1), .val (.int p2), .val (.int p3), .val (.int p4), .val (.int lo0), .val (.int hi0), .val (.int lo1), .val (.int hi1), .val (.ref b1), .val (.ref b3), .unset] [(.int z0), (.int lo0), (.int (0 : Int32)), (.ref b1)])) rfl (by rw [hml]; rfl) (argsL := [(.int lo0), (.int z0)]) (rest := [(.int (0 : Int32)), (.ref b1)]) (lenOf own_pd1 rfl) rfl (by show 2 * 0 + _ ≤ _; exact Nat.le_of_eq rfl) (hb hby at_57) (fun _ _ => ⟨rfl, e3, (by decide : 2 + 0 ≤ _), (by decide : 4 + 0 ≤ _)⟩)
  dsimp only [Pt.U, Pt.locs, Pt.cells, Pt.slots] at X7 l7 y7 z7 st7 hQ7
  subst l7 y7 z7
  obtain ⟨rfl, Nq7, e7⟩ := hQ7
  have N7 := Fr.app N0 Nq7
  refine own_on (B := T7.setTop (mkF m 60 #[.val (.int p0), .val (.int p1), .val (.int p2), .val (.int p3), .val (.int p4), .val (.int lo0), .val (.int hi0), .val (.int lo1), .val (.int hi1), .val (.ref b1), .val (.ref b3), .unset] [(.double (own_q lo0 z0)), (.int (0 : Int32)), (.ref b1)])) (fun tz kz => st7 _ kz) ?_
  have f_8 := (V1.ext E3)
  obtain ⟨cl9, Ar9, q9, S9, M9, H9, G9⟩ := id f_8
  have hin10 : ¬ ((0 : Int32) < 0 ∨ cl9.slots.size ≤ ((0 : Int32)).toNatClampNeg) := inb_of S9 ⟨by decide, by decide⟩
  obtain ⟨T10, h10, X10, e10, W10, st10⟩ := stD X7 hx hZ e7 Ar9 (j := (0 : Int32)) hin10 (g := (mkF m 60 #[.val (.int p0), .val (.int p1), .val (.int p2), .val (.int p3), .val (.int p4), .val (.int lo0), .val (.int hi0), .val (.int lo1), .val (.int hi1), .val (.ref b1), .val (.ref b3), .unset] [(.double (own_q lo0 z0)), (.int (0 : Int32)), (.ref b1)])) rfl rfl (hb hby at_60)
  have V10 : Arv Z h10 b1 k1 .double (2 : Int32) [(.double (own_q lo0 z0)), (.double 0)] (.double 0) := Arv.set Ar9 q9 S9 M9 H9 G9 rfl W10 0 rfl (Nat.le_of_ble_eq_true rfl)
  have N10 := Fr.snoc X10 N7 g_b1
  have O11 := O4.wr W10 g_b1
  have K11 : Keep h0 h10 [] := K4.wr W10 (Or.inr sz_b1)
  refine own_on (B := T10.setTop (mkF m 61 #[.val (.int p0), .val (.int p1), .val (.int p2), .val (.int p3), .val (.int p4), .val (.int lo0), .val (.int hi0), .val (.int lo1), .val (.int hi1), .val (.ref b1), .val (.ref b3), .unset] [])) (fun tz kz => st10 _ kz) ?_
  refine own_on (B := T10.setTop (mkF m 70 #[.val (.int p0), .val (.int p1), .val (.int p2), .val (.int p3), .val (.int p4), .val (.int lo0), .val (.int hi0), .val (.int lo1), .val (.int hi1), .val (.ref b1), .val (.ref b3), .unset] [(.int (p4 &&& (2 : Int32))), (.int hi0), (.int (0 : Int32)), (.ref b3)])) (fun tz kz => ?_) ?_
  · show Steps p.tables e below (T10.setTop (mkF m 61 #[.val (.int p0), .val (.int p1), .val (.int p2), .val (.int p3), .val (.int p4), .val (.int lo0), .val (.int hi0), .val (.int lo1), .val (.int hi1), .val (.ref b1), .val (.ref b3), .unset] [])) tz
    refine XS.aload X10.here hx rfl (hb hby at_61) rfl rfl ?_
    show Steps p.tables e below (T10.setTop (mkF m 63 #[.val (.int p0), .val (.int p1), .val (.int p2), .val (.int p3), .val (.int p4), .val (.int lo0), .val (.int hi0), .val (.int lo1), .val (.int hi1), .val (.ref b1), .val (.ref b3), .unset] [(.ref b3)])) tz
    refine XS.iconst X10.here hx rfl (hb hby at_63) ?_
    show Steps p.tables e below (T10.setTop (mkF m 64 #[.val (.int p0), .val (.int p1), .val (.int p2), .val (.int p3), .val (.int p4), .val (.int lo0), .val (.int hi0), .val (.int lo1), .val (.int hi1), .val (.ref b1), .val (.ref b3), .unset] [(.int (0 : Int32)), (.ref b3)])) tz
    refine XS.iload X10.here hx rfl (hb hby at_64) rfl ?_
    show Steps p.tables e below (T10.setTop (mkF m 66 #[.val (.int p0), .val (.int p1), .val (.int p2), .val (.int p3), .val (.int p4), .val (.int lo0), .val (.int hi0), .val (.int lo1), .val (.int hi1), .val (.ref b1), .val (.ref b3), .unset] [(.int hi0), (.int (0 : Int32)), (.ref b3)])) tz
    refine XS.iload X10.here hx rfl (hb hby at_66) rfl ?_
    show Steps p.tables e below (T10.setTop (mkF m 68 #[.val (.int p0), .val (.int p1), .val (.int p2), .val (.int p3), .val (.int p4), .val (.int lo0), .val (.int hi0), .val (.int lo1), .val (.int hi1), .val (.ref b1), .val (.ref b3), .unset] [(.int p4), (.int hi0), (.int (0 : Int32)), (.ref b3)])) tz
    refine XS.iconst X10.here hx rfl (hb hby at_68) ?_
    show Steps p.tables e below (T10.setTop (mkF m 69 #[.val (.int p0), .val (.int p1), .val (.int p2), .val (.int p3), .val (.int p4), .val (.int lo0), .val (.int hi0), .val (.int lo1), .val (.int hi1), .val (.ref b1), .val (.ref b3), .unset] [(.int (2 : Int32)), (.int p4), (.int hi0), (.int (0 : Int32)), (.ref b3)])) tz
    refine XS.iand X10.here hx rfl (hb hby at_69) rfl ?_
    exact kz
  obtain ⟨mv13, hmv13⟩ : ∃ z, z = (if (p4 &&& (2 : Int32)) = (0 : Int32) then (0 : Int32) else (1 : Int32)) := ⟨_, rfl⟩
  refine own_on (B := T10.setTop (mkF m 78 #[.val (.int p0), .val (.int p1), .val (.int p2), .val (.int p3), .val (.int p4), .val (.int lo0), .val (.int hi0), .val (.int lo1), .val (.int hi1), .val (.ref b1), .val (.ref b3), .unset] [(.int mv13), (.int hi0), (.int (0 : Int32)), (.ref b3)])) (fun tz kz => ?_) ?_
  · show Steps p.tables e below (T10.setTop (mkF m 70 #[.val (.int p0), .val (.int p1), .val (.int p2), .val (.int p3), .val (.int p4), .val (.int lo0), .val (.int hi0), .val (.int lo1), .val (.int hi1), .val (.ref b1), .val (.ref b3), .unset] [(.int (p4 &&& (2 : Int32))), (.int hi0), (.int (0 : Int32)), (.ref b3)])) tz
    by_cases hm12 : (p4 &&& (2 : Int32)) = (0 : Int32)
    · refine XS.ifYes X10.here hx rfl (pc0 := 70) (pc' := 77) rfl (hb hby at_70) rfl ((if0 _ _).trans (teq hm12).1) (by decide) (by decide) ?_
      show Steps p.tables e below (T10.setTop (mkF m 77 #[.val (.int p0), .val (.int p1), .val (.int p2), .val (.int p3), .val (.int p4), .val (.int lo0), .val (.int hi0), .val (.int lo1), .val (.int hi1), .val (.ref b1), .val (.ref b3), .unset] [(.int hi0), (.int (0 : Int32)), (.ref b3)])) tz
      refine XS.iconst X10.here hx rfl (hb hby at_77) ?_
      show Steps p.tables e below (T10.setTop (mkF m 78 #[.val (.int p0), .val (.int p1), .val (.int p2), .val (.int p3), .val (.int p4), .val (.int lo0), .val (.int hi0), .val (.int lo1), .val (.int hi1), .val (.ref b1), .val (.ref b3), .unset] [(.int (0 : Int32)), (.int hi0), (.int (0 : Int32)), (.ref b3)])) tz
      rw [if_pos hm12] at hmv13
      rw [hmv13] at kz
      exact kz
    · refine XS.ifNo X10.here hx rfl (hb hby at_70) rfl ((if0 _ _).trans (feq hm12).1) ?_
      show Steps p.tables e below (T10.setTop (mkF m 73 #[.val (.int p0), .val (.int p1), .val (.int p2), .val (.int p3), .val (.int p4), .val (.int lo0), .val (.int hi0), .val (.int lo1), .val (.int hi1), .val (.ref b1), .val (.ref b3), .unset] [(.int hi0), (.int (0 : Int32)), (.ref b3)])) tz
      refine XS.iconst X10.here hx rfl (hb hby at_73) ?_
      show Steps p.tables e below (T10.setTop (mkF m 74 #[.val (.int p0), .val (.int p1), .val (.int p2), .val (.int p3), .val (.int p4), .val (.int lo0), .val (.int hi0), .val (.int lo1), .val (.int hi1), .val (.ref b1), .val (.ref b3), .unset] [(.int (1 : Int32)), (.int hi0), (.int (0 : Int32)), (.ref b3)])) tz
      refine XS.goto X10.here hx rfl (pc0 := 74) (pc' := 78) rfl (hb hby at_74) (by decide) (by decide) ?_
      show Steps p.tables e below (T10.setTop (mkF m 78 #[.val (.int p0), .val (.int p1), .val (.int p2), .val (.int p3), .val (.int p4), .val (.int lo0), .val (.int hi0), .val (.int lo1), .val (.int hi1), .val (.ref b1), .val (.ref b3), .unset] [(.int (1 : Int32)), (.int hi0), (.int (0 : Int32)), (.ref b3)])) tz
      rw [if_neg hm12] at hmv13
      rw [hmv13] at kz
      exact kz
  rw [hmv13]
  generalize hv_z1 : (if (p4 &&& (2 : Int32)) = (0 : Int32) then (0 : Int32) else (1 : Int32)) = z1
  have nn_hi0 := (own_okOf p0 p1 lo0 hi0 0 0 True True hv_lo0 hv_hi0 rfl rfl).2.2.2.2.2
  obtain ⟨_, _, ⟨T14, L14, k14, n14⟩, -, X14, ⟨Lc14, hQ14, l14, y14, z14⟩, st14⟩ := Jvm.LawKit.callS X10 hx (y := (⟨"com/example/focus_on_games/focusongames/model/StateRewardsIsZeroPinLaw", "quarter", "(IZ)D"⟩ : MethodName)) hown (mvT hZ (hw _ (List.mem_of_getElem? (i := 1) rfl))) (mvT hZ (hw _ (List.mem_of_getElem? (i := 2) rfl))) (mvT hZ (hw _ (List.mem_of_getElem? (i := 3) rfl))) (mvT hZ (hw _ (List.mem_of_getElem? (i := 4) rfl))) (by decide) (backOf (W := 2) (rm1 l Z a0 hw [] hi0 z1  h10 n0 O11 nn_hi0) hZ (hw _ (List.mem_of_getElem? (i := 4) rfl)) (hw _ (List.mem_of_getElem? (i := 3) rfl)) (by decide) (by decide)) (g := (mkF m 78 #[.val (.int p0), .val (.int p1), .val (.int p2), .val (.int p3), .val (.int p4), .val (.int lo0), .val (.int hi0), .val (.int lo1), .val (.int hi1), .val (.ref b1), .val (.ref b3), .unset] [(.int z1), (.int hi0), (.int (0 : Int32)), (.ref b3)])) rfl (by rw [hml]; rfl) (argsL := [(.int hi0), (.int z1)]) (rest := [(.int (0 : Int32)), (.ref b3)]) (lenOf own_pd1 rfl) rfl (by show 2 * 0 + _ ≤ _; exact Nat.le_of_eq rfl) (hb hby at_78) (fun _ _ => ⟨rfl, e10, (by decide : 2 + 0 ≤ _), (by decide : 4 + 0 ≤ _)⟩)
  dsimp only [Pt.U, Pt.locs, Pt.cells, Pt.slots] at X14 l14 y14 z14 st14 hQ14
  subst l14 y14 z14
  obtain ⟨rfl, Nq14, e14⟩ := hQ14
  have N14 := Fr.app N10 Nq14
  refine own_on (B := T14.setTop (mkF m 81 #[.val (.int p0), .val (.int p1), .val (.int p2), .val (.int p3), .val (.int p4), .val (.int lo0), .val (.int hi0), .val (.int lo1), .val (.int hi1), .val (.ref b1), .val (.ref b3), .unset] [(.double (own_q hi0 z1)), (.int (0 : Int32)), (.ref b3)])) (fun tz kz => st14 _ kz) ?_
  have f_15 := (V3.other W10 (Ne.symm ne_b1_b3))
  obtain ⟨cl16, Ar16, q16, S16, M16, H16, G16⟩ := id f_15
  have hin17 : ¬ ((0 : Int32) < 0 ∨ cl16.slots.size ≤ ((0 : Int32)).toNatClampNeg) := inb_of S16 ⟨by decide, by decide⟩
  obtain ⟨T17, h17, X17, e17, W17, st17⟩ := stD X14 hx hZ e14 Ar16 (j := (0 : Int32)) hin17 (g := (mkF m 81 #[.val (.int p0), .val (.int p1), .val (.int p2), .val (.int p3), .val (.int p4), .val (.int lo0), .val (.int hi0), .val (.int lo1), .val (.int hi1), .val (.ref b1), .val (.ref b3), .unset] [(.double (own_q hi0 z1)), (.int (0 : Int32)), (.ref b3)])) rfl rfl (hb hby at_81)
  have V17 : Arv Z h17 b3 k3 .double (2 : Int32) [(.double (own_q hi0 z1)), (.double 0)] (.double 0) := Arv.set Ar16 q16 S16 M16 H16 G16 rfl W17 0 rfl (Nat.le_of_ble_eq_true rfl)
  have N17 := Fr.snoc X17 N14 g_b3
  have O18 := O11.wr W17 g_b3
  have K18 : Keep h0 h17 [] := K11.wr W17 (Or.inr sz_b3)
  refine own_on (B := T17.setTop (mkF m 82 #[.val (.int p0), .val (.int p1), .val (.int p2), .val (.int p3), .val (.int p4), .val (.int lo0), .val (.int hi0), .val (.int lo1), .val (.int hi1), .val (.ref b1), .val (.ref b3), .unset] [])) (fun tz kz => st17 _ kz) ?_
  refine own_on (B := T17.setTop (mkF m 91 #[.val (.int p0), .val (.int p1), .val (.int p2), .val (.int p3), .val (.int p4), .val (.int lo0), .val (.int hi0), .val (.int lo1), .val (.int hi1), .val (.ref b1), .val (.ref b3), .unset] [(.int (p4 &&& (4 : Int32))), (.int lo1), (.int (1 : Int32)), (.ref b1)])) (fun tz kz => ?_) ?_
  · show Steps p.tables e below (T17.setTop (mkF m 82 #[.val (.int p0), .val (.int p1), .val (.int p2), .val (.int p3), .val (.int p4), .val (.int lo0), .val (.int hi0), .val (.int lo1), .val (.int hi1), .val (.ref b1), .val (.ref b3), .unset] [])) tz
    refine XS.aload X17.here hx rfl (hb hby at_82) rfl rfl ?_
    show Steps p.tables e below (T17.setTop (mkF m 84 #[.val (.int p0), .val (.int p1), .val (.int p2), .val (.int p3), .val (.int p4), .val (.int lo0), .val (.int hi0), .val (.int lo1), .val (.int hi1), .val (.ref b1), .val (.ref b3), .unset] [(.ref b1)])) tz
    refine XS.iconst X17.here hx rfl (hb hby at_84) ?_
    show Steps p.tables e below (T17.setTop (mkF m 85 #[.val (.int p0), .val (.int p1), .val (.int p2), .val (.int p3), .val (.int p4), .val (.int lo0), .val (.int hi0), .val (.int lo1), .val (.int hi1), .val (.ref b1), .val (.ref b3), .unset] [(.int (1 : Int32)), (.ref b1)])) tz
    refine XS.iload X17.here hx rfl (hb hby at_85) rfl ?_
    show Steps p.tables e below (T17.setTop (mkF m 87 #[.val (.int p0), .val (.int p1), .val (.int p2), .val (.int p3), .val (.int p4), .val (.int lo0), .val (.int hi0), .val (.int lo1), .val (.int hi1), .val (.ref b1), .val (.ref b3), .unset] [(.int lo1), (.int (1 : Int32)), (.ref b1)])) tz
    refine XS.iload X17.here hx rfl (hb hby at_87) rfl ?_
    show Steps p.tables e below (T17.setTop (mkF m 89 #[.val (.int p0), .val (.int p1), .val (.int p2), .val (.int p3), .val (.int p4), .val (.int lo0), .val (.int hi0), .val (.int lo1), .val (.int hi1), .val (.ref b1), .val (.ref b3), .unset] [(.int p4), (.int lo1), (.int (1 : Int32)), (.ref b1)])) tz
    refine XS.iconst X17.here hx rfl (hb hby at_89) ?_
    show Steps p.tables e below (T17.setTop (mkF m 90 #[.val (.int p0), .val (.int p1), .val (.int p2), .val (.int p3), .val (.int p4), .val (.int lo0), .val (.int hi0), .val (.int lo1), .val (.int hi1), .val (.ref b1), .val (.ref b3), .unset] [(.int (4 : Int32)), (.int p4), (.int lo1), (.int (1 : Int32)), (.ref b1)])) tz
    refine XS.iand X17.here hx rfl (hb hby at_90) rfl ?_
    exact kz
  obtain ⟨mv20, hmv20⟩ : ∃ z, z = (if (p4 &&& (4 : Int32)) = (0 : Int32) then (0 : Int32) else (1 : Int32)) := ⟨_, rfl⟩
  refine own_on (B := T17.setTop (mkF m 99 #[.val (.int p0), .val (.int p1), .val (.int p2), .val (.int p3), .val (.int p4), .val (.int lo0), .val (.int hi0), .val (.int lo1), .val (.int hi1), .val (.ref b1), .val (.ref b3), .unset] [(.int mv20), (.int lo1), (.int (1 : Int32)), (.ref b1)])) (fun tz kz => ?_) ?_
  · show Steps p.tables e below (T17.setTop (mkF m 91 #[.val (.int p0), .val (.int p1), .val (.int p2), .val (.int p3), .val (.int p4), .val (.int lo0), .val (.int hi0), .val (.int lo1), .val (.int hi1), .val (.ref b1), .val (.ref b3), .unset] [(.int (p4 &&& (4 : Int32))), (.int lo1), (.int (1 : Int32)), (.ref b1)])) tz
    by_cases hm19 : (p4 &&& (4 : Int32)) = (0 : Int32)
    · refine XS.ifYes X17.here hx rfl (pc0 := 91) (pc' := 98) rfl (hb hby at_91) rfl ((if0 _ _).trans (teq hm19).1) (by decide) (by decide) ?_
      show Steps p.tables e below (T17.setTop (mkF m 98 #[.val (.int p0), .val (.int p1), .val (.int p2), .val (.int p3), .val (.int p4), .val (.int lo0), .val (.int hi0), .val (.int lo1), .val (.int hi1), .val (.ref b1), .val (.ref b3), .unset] [(.int lo1), (.int (1 : Int32)), (.ref b1)])) tz
      refine XS.iconst X17.here hx rfl (hb hby at_98) ?_
      show Steps p.tables e below (T17.setTop (mkF m 99 #[.val (.int p0), .val (.int p1), .val (.int p2), .val (.int p3), .val (.int p4), .val (.int lo0), .val (.int hi0), .val (.int lo1), .val (.int hi1), .val (.ref b1), .val (.ref b3), .unset] [(.int (0 : Int32)), (.int lo1), (.int (1 : Int32)), (.ref b1)])) tz
      rw [if_pos hm19] at hmv20
      rw [hmv20] at kz
      exact kz
    · refine XS.ifNo X17.here hx rfl (hb hby at_91) rfl ((if0 _ _).trans (feq hm19).1) ?_
      show Steps p.tables e below (T17.setTop (mkF m 94 #[.val (.int p0), .val (.int p1), .val (.int p2), .val (.int p3), .val (.int p4), .val (.int lo0), .val (.int hi0), .val (.int lo1), .val (.int hi1), .val (.ref b1), .val (.ref b3), .unset] [(.int lo1), (.int (1 : Int32)), (.ref b1)])) tz
      refine XS.iconst X17.here hx rfl (hb hby at_94) ?_
      show Steps p.tables e below (T17.setTop (mkF m 95 #[.val (.int p0), .val (.int p1), .val (.int p2), .val (.int p3), .val (.int p4), .val (.int lo0), .val (.int hi0), .val (.int lo1), .val (.int hi1), .val (.ref b1), .val (.ref b3), .unset] [(.int (1 : Int32)), (.int lo1), (.int (1 : Int32)), (.ref b1)])) tz
      refine XS.goto X17.here hx rfl (pc0 := 95) (pc' := 99) rfl (hb hby at_95) (by decide) (by decide) ?_
      show Steps p.tables e below (T17.setTop (mkF m 99 #[.val (.int p0), .val (.int p1), .val (.int p2), .val (.int p3), .val (.int p4), .val (.int lo0), .val (.int hi0), .val (.int lo1), .val (.int hi1), .val (.ref b1), .val (.ref b3), .unset] [(.int (1 : Int32)), (.int lo1), (.int (1 : Int32)), (.ref b1)])) tz
      rw [if_neg hm19] at hmv20
      rw [hmv20] at kz
      exact kz
  rw [hmv20]
  generalize hv_z2 : (if (p4 &&& (4 : Int32)) = (0 : Int32) then (0 : Int32) else (1 : Int32)) = z2
  have nn_lo1 := (own_okOf p2 p3 lo1 hi1 0 0 True True hv_lo1 hv_hi1 rfl rfl).2.2.2.2.1
  obtain ⟨_, _, ⟨T21, L21, k21, n21⟩, -, X21, ⟨Lc21, hQ21, l21, y21, z21⟩, st21⟩ := Jvm.LawKit.callS X17 hx (y := (⟨"com/example/focus_on_games/focusongames/model/StateRewardsIsZeroPinLaw", "quarter", "(IZ)D"⟩ : MethodName)) hown (mvT hZ (hw _ (List.mem_of_getElem? (i := 1) rfl))) (mvT hZ (hw _ (List.mem_of_getElem? (i := 2) rfl))) (mvT hZ (hw _ (List.mem_of_getElem? (i := 3) rfl))) (mvT hZ (hw _ (List.mem_of_getElem? (i := 4) rfl))) (by decide) (backOf (W := 2) (rm1 l Z a0 hw [] lo1 z2  h17 n0 O18 nn_lo1) hZ (hw _ (List.mem_of_getElem? (i := 4) rfl)) (hw _ (List.mem_of_getElem? (i := 3) rfl)) (by decide) (by decide)) (g := (mkF m 99 #[.val (.int p0), .val (.int p1), .val (.int p2), .val (.int p3), .val (.int p4), .val (.int lo0), .val (.int hi0), .val (.int lo1), .val (.int hi1), .val (.ref b1), .val (.ref b3), .unset] [(.int z2), (.int lo1), (.int (1 : Int32)), (.ref b1)])) rfl (by rw [hml]; rfl) (argsL := [(.int lo1), (.int z2)]) (rest := [(.int (1 : Int32)), (.ref b1)]) (lenOf own_pd1 rfl) rfl (by show 2 * 0 + _ ≤ _; exact Nat.le_of_eq rfl) (hb hby at_99) (fun _ _ => ⟨rfl, e17, (by decide : 2 + 0 ≤ _), (by decide : 4 + 0 ≤ _)⟩)
  dsimp only [Pt.U, Pt.locs, Pt.cells, Pt.slots] at X21 l21 y21 z21 st21 hQ21
  subst l21 y21 z21
  obtain ⟨rfl, Nq21, e21⟩ := hQ21
  have N21 := Fr.app N17 Nq21
  refine own_on (B := T21.setTop (mkF m 102 #[.val (.int p0), .val (.int p1), .val (.int p2), .val (.int p3), .val (.int p4), .val (.int lo0), .val (.int hi0), .val (.int lo1), .val (.int hi1), .val (.ref b1), .val (.ref b3), .unset] [(.double (own_q lo1 z2)), (.int (1 : Int32)), (.ref b1)])) (fun tz kz => st21 _ kz) ?_
  have f_22 := (V10.other W17 ne_b1_b3)
  obtain ⟨cl23, Ar23, q23, S23, M23, H23, G23⟩ := id f_22
  have hin24 : ¬ ((1 : Int32) < 0 ∨ cl23.slots.size ≤ ((1 : Int32)).toNatClampNeg) := inb_of S23 ⟨by decide, by decide⟩
  obtain ⟨T24, h24, X24, e24, W24, st24⟩ := stD X21 hx hZ e21 Ar23 (j := (1 : Int32)) hin24 (g := (mkF m 102 #[.val (.int p0), .val (.int p1), .val (.int p2), .val (.int p3), .val (.int p4), .val (.int lo0), .val (.int hi0), .val (.int lo1), .val (.int hi1), .val (.ref b1), .val (.ref b3), .unset] [(.double (own_q lo1 z2)), (.int (1 : Int32)), (.ref b1)])) rfl rfl (hb hby at_102)
  have V24 : Arv Z h24 b1 k1 .double (2 : Int32) [(.double (own_q lo0 z0)), (.double (own_q lo1 z2))] (.double 0) := Arv.set Ar23 q23 S23 M23 H23 G23 rfl W24 1 rfl (Nat.le_of_ble_eq_true rfl)
  have N24 := Fr.snoc X24 N21 g_b1
  have O25 := O18.wr W24 g_b1
  have K25 : Keep h0 h24 [] := K18.wr W24 (Or.inr sz_b1)
  refine own_on (B := T24.setTop (mkF m 103 #[.val (.int p0), .val (.int p1), .val (.int p2), .val (.int p3), .val (.int p4), .val (.int lo0), .val (.int hi0), .val (.int lo1), .val (.int hi1), .val (.ref b1), .val (.ref b3), .unset] [])) (fun tz kz => st24 _ kz) ?_
  refine own_on (B := T24.setTop (mkF m 113 #[.val (.int p0), .val (.int p1), .val (.int p2), .val (.int p3), .val (.int p4), .val (.int lo0), .val (.int hi0), .val (.int lo1), .val (.int hi1), .val (.ref b1), .val (.ref b3), .unset] [(.int (p4 &&& (8 : Int32))), (.int hi1), (.int (1 : Int32)), (.ref b3)])) (fun tz kz => ?_) ?_
  · show Steps p.tables e below (T24.setTop (mkF m 103 #[.val (.int p0), .val (.int p1), .val (.int p2), .val (.int p3), .val (.int p4), .val (.int lo0), .val (.int hi0), .val (.int lo1), .val (.int hi1), .val (.ref b1), .val (.ref b3), .unset] [])) tz
    refine XS.aload X24.here hx rfl (hb hby at_103) rfl rfl ?_
    show Steps p.tables e below (T24.setTop (mkF m 105 #[.val (.int p0), .val (.int p1), .val (.int p2), .val (.int p3), .val (.int p4), .val (.int lo0), .val (.int hi0), .val (.int lo1), .val (.int hi1), .val (.ref b1), .val (.ref b3), .unset] [(.ref b3)])) tz
    refine XS.iconst X24.here hx rfl (hb hby at_105) ?_
    show Steps p.tables e below (T24.setTop (mkF m 106 #[.val (.int p0), .val (.int p1), .val (.int p2), .val (.int p3), .val (.int p4), .val (.int lo0), .val (.int hi0), .val (.int lo1), .val (.int hi1), .val (.ref b1), .val (.ref b3), .unset] [(.int (1 : Int32)), (.ref b3)])) tz
    refine XS.iload X24.here hx rfl (hb hby at_106) rfl ?_
    show Steps p.tables e below (T24.setTop (mkF m 108 #[.val (.int p0), .val (.int p1), .val (.int p2), .val (.int p3), .val (.int p4), .val (.int lo0), .val (.int hi0), .val (.int lo1), .val (.int hi1), .val (.ref b1), .val (.ref b3), .unset] [(.int hi1), (.int (1 : Int32)), (.ref b3)])) tz
    refine XS.iload X24.here hx rfl (hb hby at_108) rfl ?_
    show Steps p.tables e below (T24.setTop (mkF m 110 #[.val (.int p0), .val (.int p1), .val (.int p2), .val (.int p3), .val (.int p4), .val (.int lo0), .val (.int hi0), .val (.int lo1), .val (.int hi1), .val (.ref b1), .val (.ref b3), .unset] [(.int p4), (.int hi1), (.int (1 : Int32)), (.ref b3)])) tz
    refine XS.bipush X24.here hx rfl (hb hby at_110) ?_
    show Steps p.tables e below (T24.setTop (mkF m 112 #[.val (.int p0), .val (.int p1), .val (.int p2), .val (.int p3), .val (.int p4), .val (.int lo0), .val (.int hi0), .val (.int lo1), .val (.int hi1), .val (.ref b1), .val (.ref b3), .unset] [(.int (8 : Int32)), (.int p4), (.int hi1), (.int (1 : Int32)), (.ref b3)])) tz
    refine XS.iand X24.here hx rfl (hb hby at_112) rfl ?_
    exact kz
  obtain ⟨mv27, hmv27⟩ : ∃ z, z = (if (p4 &&& (8 : Int32)) = (0 : Int32) then (0 : Int32) else (1 : Int32)) := ⟨_, rfl⟩
  refine own_on (B := T24.setTop (mkF m 121 #[.val (.int p0), .val (.int p1), .val (.int p2), .val (.int p3), .val (.int p4), .val (.int lo0), .val (.int hi0), .val (.int lo1), .val (.int hi1), .val (.ref b1), .val (.ref b3), .unset] [(.int mv27), (.int hi1), (.int (1 : Int32)), (.ref b3)])) (fun tz kz => ?_) ?_
  · show Steps p.tables e below (T24.setTop (mkF m 113 #[.val (.int p0), .val (.int p1), .val (.int p2), .val (.int p3), .val (.int p4), .val (.int lo0), .val (.int hi0), .val (.int lo1), .val (.int hi1), .val (.ref b1), .val (.ref b3), .unset] [(.int (p4 &&& (8 : Int32))), (.int hi1), (.int (1 : Int32)), (.ref b3)])) tz
    by_cases hm26 : (p4 &&& (8 : Int32)) = (0 : Int32)
    · refine XS.ifYes X24.here hx rfl (pc0 := 113) (pc' := 120) rfl (hb hby at_113) rfl ((if0 _ _).trans (teq hm26).1) (by decide) (by decide) ?_
      show Steps p.tables e below (T24.setTop (mkF m 120 #[.val (.int p0), .val (.int p1), .val (.int p2), .val (.int p3), .val (.int p4), .val (.int lo0), .val (.int hi0), .val (.int lo1), .val (.int hi1), .val (.ref b1), .val (.ref b3), .unset] [(.int hi1), (.int (1 : Int32)), (.ref b3)])) tz
      refine XS.iconst X24.here hx rfl (hb hby at_120) ?_
      show Steps p.tables e below (T24.setTop (mkF m 121 #[.val (.int p0), .val (.int p1), .val (.int p2), .val (.int p3), .val (.int p4), .val (.int lo0), .val (.int hi0), .val (.int lo1), .val (.int hi1), .val (.ref b1), .val (.ref b3), .unset] [(.int (0 : Int32)), (.int hi1), (.int (1 : Int32)), (.ref b3)])) tz
      rw [if_pos hm26] at hmv27
      rw [hmv27] at kz
      exact kz
    · refine XS.ifNo X24.here hx rfl (hb hby at_113) rfl ((if0 _ _).trans (feq hm26).1) ?_
      show Steps p.tables e below (T24.setTop (mkF m 116 #[.val (.int p0), .val (.int p1), .val (.int p2), .val (.int p3), .val (.int p4), .val (.int lo0), .val (.int hi0), .val (.int lo1), .val (.int hi1), .val (.ref b1), .val (.ref b3), .unset] [(.int hi1), (.int (1 : Int32)), (.ref b3)])) tz
      refine XS.iconst X24.here hx rfl (hb hby at_116) ?_
      show Steps p.tables e below (T24.setTop (mkF m 117 #[.val (.int p0), .val (.int p1), .val (.int p2), .val (.int p3), .val (.int p4), .val (.int lo0), .val (.int hi0), .val (.int lo1), .val (.int hi1), .val (.ref b1), .val (.ref b3), .unset] [(.int (1 : Int32)), (.int hi1), (.int (1 : Int32)), (.ref b3)])) tz
      refine XS.goto X24.here hx rfl (pc0 := 117) (pc' := 121) rfl (hb hby at_117) (by decide) (by decide) ?_
      show Steps p.tables e below (T24.setTop (mkF m 121 #[.val (.int p0), .val (.int p1), .val (.int p2), .val (.int p3), .val (.int p4), .val (.int lo0), .val (.int hi0), .val (.int lo1), .val (.int hi1), .val (.ref b1), .val (.ref b3), .unset] [(.int (1 : Int32)), (.int hi1), (.int (1 : Int32)), (.ref b3)])) tz
      rw [if_neg hm26] at hmv27
      rw [hmv27] at kz
      exact kz
  rw [hmv27]
  generalize hv_z3 : (if (p4 &&& (8 : Int32)) = (0 : Int32) then (0 : Int32) else (1 : Int32)) = z3
  have nn_hi1 := (own_okOf p2 p3 lo1 hi1 0 0 True True hv_lo1 hv_hi1 rfl rfl).2.2.2.2.2
  obtain ⟨_, _, ⟨T28, L28, k28, n28⟩, -, X28, ⟨Lc28, hQ28, l28, y28, z28⟩, st28⟩ := Jvm.LawKit.callS X24 hx (y := (⟨"com/example/focus_on_games/focusongames/model/StateRewardsIsZeroPinLaw", "quarter", "(IZ)D"⟩ : MethodName)) hown (mvT hZ (hw _ (List.mem_of_getElem? (i := 1) rfl))) (mvT hZ (hw _ (List.mem_of_getElem? (i := 2) rfl))) (mvT hZ (hw _ (List.mem_of_getElem? (i := 3) rfl))) (mvT hZ (hw _ (List.mem_of_getElem? (i := 4) rfl))) (by decide) (backOf (W := 2) (rm1 l Z a0 hw [] hi1 z3  h24 n0 O25 nn_hi1) hZ (hw _ (List.mem_of_getElem? (i := 4) rfl)) (hw _ (List.mem_of_getElem? (i := 3) rfl)) (by decide) (by decide)) (g := (mkF m 121 #[.val (.int p0), .val (.int p1), .val (.int p2), .val (.int p3), .val (.int p4), .val (.int lo0), .val (.int hi0), .val (.int lo1), .val (.int hi1), .val (.ref b1), .val (.ref b3), .unset] [(.int z3), (.int hi1), (.int (1 : Int32)), (.ref b3)])) rfl (by rw [hml]; rfl) (argsL := [(.int hi1), (.int z3)]) (rest := [(.int (1 : Int32)), (.ref b3)]) (lenOf own_pd1 rfl) rfl (by show 2 * 0 + _ ≤ _; exact Nat.le_of_eq rfl) (hb hby at_121) (fun _ _ => ⟨rfl, e24, (by decide : 2 + 0 ≤ _), (by decide : 4 + 0 ≤ _)⟩)
  dsimp only [Pt.U, Pt.locs, Pt.cells, Pt.slots] at X28 l28 y28 z28 st28 hQ28
  subst l28 y28 z28
  obtain ⟨rfl, Nq28, e28⟩ := hQ28
  have N28 := Fr.app N24 Nq28
  refine own_on (B := T28.setTop (mkF m 124 #[.val (.int p0), .val (.int p1), .val (.int p2), .val (.int p3), .val (.int p4), .val (.int lo0), .val (.int hi0), .val (.int lo1), .val (.int hi1), .val (.ref b1), .val (.ref b3), .unset] [(.double (own_q hi1 z3)), (.int (1 : Int32)), (.ref b3)])) (fun tz kz => st28 _ kz) ?_
  have f_29 := (V17.other W24 (Ne.symm ne_b1_b3))
  obtain ⟨cl30, Ar30, q30, S30, M30, H30, G30⟩ := id f_29
  have hin31 : ¬ ((1 : Int32) < 0 ∨ cl30.slots.size ≤ ((1 : Int32)).toNatClampNeg) := inb_of S30 ⟨by decide, by decide⟩
  obtain ⟨T31, h31, X31, e31, W31, st31⟩ := stD X28 hx hZ e28 Ar30 (j := (1 : Int32)) hin31 (g := (mkF m 124 #[.val (.int p0), .val (.int p1), .val (.int p2), .val (.int p3), .val (.int p4), .val (.int lo0), .val (.int hi0), .val (.int lo1), .val (.int hi1), .val (.ref b1), .val (.ref b3), .unset] [(.double (own_q hi1 z3)), (.int (1 : Int32)), (.ref b3)])) rfl rfl (hb hby at_124)
  have V31 : Arv Z h31 b3 k3 .double (2 : Int32) [(.double (own_q hi0 z1)), (.double (own_q hi1 z3))] (.double 0) := Arv.set Ar30 q30 S30 M30 H30 G30 rfl W31 1 rfl (Nat.le_of_ble_eq_true rfl)
  have N31 := Fr.snoc X31 N28 g_b3
  have O32 := O25.wr W31 g_b3
  have K32 : Keep h0 h31 [] := K25.wr W31 (Or.inr sz_b3)
  refine own_on (B := T31.setTop (mkF m 125 #[.val (.int p0), .val (.int p1), .val (.int p2), .val (.int p3), .val (.int p4), .val (.int lo0), .val (.int hi0), .val (.int lo1), .val (.int hi1), .val (.ref b1), .val (.ref b3), .unset] [])) (fun tz kz => st31 _ kz) ?_
  have ok0 := own_okOf _ _ _ _ _ _ _ _ hv_lo0 hv_hi0 hv_z0 hv_z1
  have ok1 := own_okOf _ _ _ _ _ _ _ _ hv_lo1 hv_hi1 hv_z2 hv_z3
  obtain ⟨T33, h33, X33, e33, E33, A33, D33, -, st33⟩ := newO X31 hx hZ hown (hw _ (List.mem_of_getElem? (i := 6) rfl)) (hw _ (List.mem_of_getElem? (i := 7) rfl)) (hw _ (List.mem_of_getElem? (i := 8) rfl)) e31 (g := (mkF m 125 #[.val (.int p0), .val (.int p1), .val (.int p2), .val (.int p3), .val (.int p4), .val (.int lo0), .val (.int hi0), .val (.int lo1), .val (.int hi1), .val (.ref b1), .val (.ref b3), .unset] [])) rfl (hb hby at_125) (by decide) (by decide)
  obtain ⟨b33, g33⟩ : ∃ z, z = h31.size := ⟨_, rfl⟩
  rw [← g33] at A33 D33 st33
  have f_34 := (V24.other W31 ne_b1_b3)
  have ne_b1_b33 : b1 ≠ b33 := Nat.ne_of_lt (Nat.lt_of_lt_of_le (f_34).lt (Nat.le_of_eq g33.symm))
  have ne_b3_b33 : b3 ≠ b33 := Nat.ne_of_lt (Nat.lt_of_lt_of_le (V31).lt (Nat.le_of_eq g33.symm))
  have g_b33 : n0 ≤ b33 := Nat.le_trans (own_old O32) (Nat.le_of_eq g33.symm)
  have sz_b33 : h0.size ≤ b33 := Nat.le_trans K32.1 (Nat.le_of_eq g33.symm)
  have O35 := O32.ext E33
  have K35 : Keep h0 h33 [] := K32.ext E33
  have F33_below : Fld Z h33 b33 "com/example/focus_on_games/focusongames/model/StateRewards" "below" "[D" .null := D33 (Or.inr (hw _ (List.mem_of_getElem? (i := 30) rfl))) (ty := (.array .double)) (by decide)
  have F33_above : Fld Z h33 b33 "com/example/focus_on_games/focusongames/model/StateRewards" "above" "[D" .null := D33 (Or.inr (hw _ (List.mem_of_getElem? (i := 32) rfl))) (ty := (.array .double)) (by decide)
  refine own_on (B := T33.setTop (mkF m 128 #[.val (.int p0), .val (.int p1), .val (.int p2), .val (.int p3), .val (.int p4), .val (.int lo0), .val (.int hi0), .val (.int lo1), .val (.int hi1), .val (.ref b1), .val (.ref b3), .unset] [(.ref b33)])) (fun tz kz => st33 _ kz) ?_
  have f_36 := (f_34.ext E33)
  have f_37 := ((((((Ex1.ext E3).wr W10).wr W17).wr W24).wr W31).ext E33)
  have f_38 := (V31.ext E33)
  have f_39 := (((((Ex3.wr W10).wr W17).wr W24).wr W31).ext E33)
  refine own_on (B := T33.setTop (mkF m 133 #[.val (.int p0), .val (.int p1), .val (.int p2), .val (.int p3), .val (.int p4), .val (.int lo0), .val (.int hi0), .val (.int lo1), .val (.int hi1), .val (.ref b1), .val (.ref b3), .unset] [(.ref b3), (.ref b1), (.ref b33), (.ref b33)])) (fun tz kz => ?_) ?_
  · show Steps p.tables e below (T33.setTop (mkF m 128 #[.val (.int p0), .val (.int p1), .val (.int p2), .val (.int p3), .val (.int p4), .val (.int lo0), .val (.int hi0), .val (.int lo1), .val (.int hi1), .val (.ref b1), .val (.ref b3), .unset] [(.ref b33)])) tz
    refine XS.dup X33.here hx rfl (hb hby at_128) rfl rfl ?_
    show Steps p.tables e below (T33.setTop (mkF m 129 #[.val (.int p0), .val (.int p1), .val (.int p2), .val (.int p3), .val (.int p4), .val (.int lo0), .val (.int hi0), .val (.int lo1), .val (.int hi1), .val (.ref b1), .val (.ref b3), .unset] [(.ref b33), (.ref b33)])) tz
    refine XS.aload X33.here hx rfl (hb hby at_129) rfl rfl ?_
    show Steps p.tables e below (T33.setTop (mkF m 131 #[.val (.int p0), .val (.int p1), .val (.int p2), .val (.int p3), .val (.int p4), .val (.int lo0), .val (.int hi0), .val (.int lo1), .val (.int hi1), .val (.ref b1), .val (.ref b3), .unset] [(.ref b1), (.ref b33), (.ref b33)])) tz
    refine XS.aload X33.here hx rfl (hb hby at_131) rfl rfl ?_
    exact kz
  obtain ⟨_, _, ⟨T40, L40, k40, n40⟩, -, X40, ⟨Lc40, hQ40, l40, y40, z40⟩, st40⟩ := X33.specialBack hx (y := (⟨"com/example/focus_on_games/focusongames/model/StateRewards", "<init>", "([D[D)V"⟩ : MethodName)) rfl hown (mvT hZ (hw _ (List.mem_of_getElem? (i := 9) rfl))) (mvT hZ (hw _ (List.mem_of_getElem? (i := 10) rfl))) (mvT hZ (hw _ (List.mem_of_getElem? (i := 11) rfl))) (by decide) (backOf (W := 1) (rm2 l Z a0 hw [] b33 b1 b3 k1 k3 (own_q lo0 z0) (own_q lo1 z2) (own_q hi0 z1) (own_q hi1 z3) h33 n0 O35 A33 g_b33 F33_below F33_above f_36 f_37 f_38 f_39 (Ne.symm ne_b1_b33) (Ne.symm ne_b3_b33) ok0.1 ok0.2.1 ok0.2.2.1 ok1.1 ok1.2.1 ok1.2.2.1) hZ (hw _ (List.mem_of_getElem? (i := 11) rfl)) (hw _ (List.mem_of_getElem? (i := 8) rfl)) (by decide) (by decide)) (g := (mkF m 133 #[.val (.int p0), .val (.int p1), .val (.int p2), .val (.int p3), .val (.int p4), .val (.int lo0), .val (.int hi0), .val (.int lo1), .val (.int hi1), .val (.ref b1), .val (.ref b3), .unset] [(.ref b3), (.ref b1), (.ref b33), (.ref b33)])) rfl (by rw [hml]; rfl) (Steps.refl _) (a := b33) (argsL := [(.ref b1), (.ref b3)]) (rest := [(.ref b33)]) (lenOf own_pd2 rfl) rfl (by show 2 * 0 + _ ≤ _; exact Nat.le_of_eq rfl) (hb hby at_133) (fun _ _ => ⟨rfl, e33, (by decide : 3 + 2 ≤ _), (by decide : 6 + 4 ≤ _)⟩)
  dsimp only [Pt.U, Pt.locs, Pt.cells, Pt.slots] at X40 l40 y40 z40 st40 hQ40
  subst l40 y40 z40
  obtain ⟨d40, rfl, Nq40, Kq40, Fq40, Vq40⟩ := hQ40
  have N40 := Fr.app N31 Nq40
  have O41 := O35.keep Kq40 (allS g_b33 all0)
  have K41 : Keep h0 T40.heap [] := K35.trans Kq40 (allS (Or.inr sz_b33) all0)
  refine own_on (B := T40.setTop (mkF m 136 #[.val (.int p0), .val (.int p1), .val (.int p2), .val (.int p3), .val (.int p4), .val (.int lo0), .val (.int hi0), .val (.int lo1), .val (.int hi1), .val (.ref b1), .val (.ref b3), .unset] [(.ref b33)])) (fun tz kz => st40.trans kz) ?_
  refine own_on (B := T40.setTop (mkF m 141 #[.val (.int p0), .val (.int p1), .val (.int p2), .val (.int p3), .val (.int p4), .val (.int lo0), .val (.int hi0), .val (.int lo1), .val (.int hi1), .val (.ref b1), .val (.ref b3), .val (.ref b33)] [(.int (0 : Int32)), (.ref b33)])) (fun tz kz => ?_) ?_
  · show Steps p.tables e below (T40.setTop (mkF m 136 #[.val (.int p0), .val (.int p1), .val (.int p2), .val (.int p3), .val (.int p4), .val (.int lo0), .val (.int hi0), .val (.int lo1), .val (.int hi1), .val (.ref b1), .val (.ref b3), .unset] [(.ref b33)])) tz
    refine XS.astore X40.here hx rfl (hb hby at_136) rfl rfl (l' := #[.val (.int p0), .val (.int p1), .val (.int p2), .val (.int p3), .val (.int p4), .val (.int lo0), .val (.int hi0), .val (.int lo1), .val (.int hi1), .val (.ref b1), .val (.ref b3), .val (.ref b33)]) rfl ?_
    show Steps p.tables e below (T40.setTop (mkF m 138 #[.val (.int p0), .val (.int p1), .val (.int p2), .val (.int p3), .val (.int p4), .val (.int lo0), .val (.int hi0), .val (.int lo1), .val (.int hi1), .val (.ref b1), .val (.ref b3), .val (.ref b33)] [])) tz
    refine XS.aload X40.here hx rfl (hb hby at_138) rfl rfl ?_
    show Steps p.tables e below (T40.setTop (mkF m 140 #[.val (.int p0), .val (.int p1), .val (.int p2), .val (.int p3), .val (.int p4), .val (.int lo0), .val (.int hi0), .val (.int lo1), .val (.int hi1), .val (.ref b1), .val (.ref b3), .val (.ref b33)] [(.ref b33)])) tz
    refine XS.iconst X40.here hx rfl (hb hby at_140) ?_
    exact kz
  have f_43 := (A33.keep Kq40)
  obtain ⟨cq42, kq42, q42a, q42b, q42c⟩ := isOf hZ rfl f_43
  obtain ⟨_, _, ⟨T42, L42, k42, n42⟩, -, X42, ⟨Lc42, hQ42, l42, y42, z42⟩, st42⟩ := X40.virtualBack hx (y := (⟨"com/example/focus_on_games/focusongames/model/StateRewards", "isZero", "(I)Z"⟩ : MethodName)) (z := (⟨"com/example/focus_on_games/focusongames/model/StateRewards", "isZero", "(I)Z"⟩ : MethodName)) hown (mvT hZ (hw _ (List.mem_of_getElem? (i := 33) rfl))) (mvT hZ (hw _ (List.mem_of_getElem? (i := 34) rfl))) (notFace_of_selects (args := #[]) (mvT hZ (hw _ (List.mem_of_getElem? (i := 36) rfl)))) (mvT hZ (hw _ (List.mem_of_getElem? (i := 36) rfl))) (mvT hZ (hw _ (List.mem_of_getElem? (i := 35) rfl))) (by decide) (backOf (W := 0) (rm5a l Z a0 hw [] b33 d40 k3 (own_q hi0 z1) (own_q hi1 z3) T40.heap n0 O41 Fq40 Vq40) hZ (hw _ (List.mem_of_getElem? (i := 37) rfl)) (hw _ (List.mem_of_getElem? (i := 8) rfl)) (by decide) (by decide)) q42a q42c (g := (mkF m 141 #[.val (.int p0), .val (.int p1), .val (.int p2), .val (.int p3), .val (.int p4), .val (.int lo0), .val (.int hi0), .val (.int lo1), .val (.int hi1), .val (.ref b1), .val (.ref b3), .val (.ref b33)] [(.int (0 : Int32)), (.ref b33)])) rfl (by rw [hml]; rfl) (Steps.refl _) (argsL := [(.int (0 : Int32))]) (rest := []) (lenOf own_pd3 rfl) rfl (by show 2 * 0 + _ ≤ _; exact Nat.le_of_eq rfl) (hb hby at_141) (fun _ _ => ⟨rfl, rfl, (by decide : 5 + 0 ≤ _), (by decide : 10 + 0 ≤ _)⟩)
  dsimp only [Pt.U, Pt.locs, Pt.cells, Pt.slots] at X42 l42 y42 z42 st42 hQ42
  subst l42 y42 z42
  obtain ⟨rfl, Nq42, e42⟩ := hQ42
  have N42 := Fr.app N40 Nq42
  refine own_on (B := T42.setTop (mkF m 144 #[.val (.int p0), .val (.int p1), .val (.int p2), .val (.int p3), .val (.int p4), .val (.int lo0), .val (.int hi0), .val (.int lo1), .val (.int hi1), .val (.ref b1), .val (.ref b3), .val (.ref b33)] [(.int (if (cmpValue (FP.dcmp (own_q hi0 z1) 0) .l) = (0 : Int32) then (1 : Int32) else (0 : Int32)))])) (fun tz kz => st42.trans kz) ?_
  refine own_on (B := T42.setTop (mkF m 146 #[.val (.int p0), .val (.int p1), .val (.int p2), .val (.int p3), .val (.int p4), .val (.int lo0), .val (.int hi0), .val (.int lo1), .val (.int hi1), .val (.ref b1), .val (.ref b3), .val (.ref b33)] [(.int hi0), (.int (if (cmpValue (FP.dcmp (own_q hi0 z1) 0) .l) = (0 : Int32) then (1 : Int32) else (0 : Int32)))])) (fun tz kz => ?_) ?_
  · show Steps p.tables e below (T42.setTop (mkF m 144 #[.val (.int p0), .val (.int p1), .val (.int p2), .val (.int p3), .val (.int p4), .val (.int lo0), .val (.int hi0), .val (.int lo1), .val (.int hi1), .val (.ref b1), .val (.ref b3), .val (.ref b33)] [(.int (if (cmpValue (FP.dcmp (own_q hi0 z1) 0) .l) = (0 : Int32) then (1 : Int32) else (0 : Int32)))])) tz
    refine XS.iload X42.here hx rfl (hb hby at_144) rfl ?_
    exact kz
  obtain ⟨mv45, hmv45⟩ : ∃ z, z = (if hi0 = (0 : Int32) then (1 : Int32) else (0 : Int32)) := ⟨_, rfl⟩
  refine own_on (B := T42.setTop (mkF m 154 #[.val (.int p0), .val (.int p1), .val (.int p2), .val (.int p3), .val (.int p4), .val (.int lo0), .val (.int hi0), .val (.int lo1), .val (.int hi1), .val (.ref b1), .val (.ref b3), .val (.ref b33)] [(.int mv45), (.int (if (cmpValue (FP.dcmp (own_q hi0 z1) 0) .l) = (0 : Int32) then (1 : Int32) else (0 : Int32)))])) (fun tz kz => ?_) ?_
  · show Steps p.tables e below (T42.setTop (mkF m 146 #[.val (.int p0), .val (.int p1), .val (.int p2), .val (.int p3), .val (.int p4), .val (.int lo0), .val (.int hi0), .val (.int lo1), .val (.int hi1), .val (.ref b1), .val (.ref b3), .val (.ref b33)] [(.int hi0), (.int (if (cmpValue (FP.dcmp (own_q hi0 z1) 0) .l) = (0 : Int32) then (1 : Int32) else (0 : Int32)))])) tz
    by_cases hm44 : hi0 = (0 : Int32)
    · refine XS.ifNo X42.here hx rfl (hb hby at_146) rfl ((if0 _ _).trans (teq hm44).2) ?_
      show Steps p.tables e below (T42.setTop (mkF m 149 #[.val (.int p0), .val (.int p1), .val (.int p2), .val (.int p3), .val (.int p4), .val (.int lo0), .val (.int hi0), .val (.int lo1), .val (.int hi1), .val (.ref b1), .val (.ref b3), .val (.ref b33)] [(.int (if (cmpValue (FP.dcmp (own_q hi0 z1) 0) .l) = (0 : Int32) then (1 : Int32) else (0 : Int32)))])) tz
      refine XS.iconst X42.here hx rfl (hb hby at_149) ?_
      show Steps p.tables e below (T42.setTop (mkF m 150 #[.val (.int p0), .val (.int p1), .val (.int p2), .val (.int p3), .val (.int p4), .val (.int lo0), .val (.int hi0), .val (.int lo1), .val (.int hi1), .val (.ref b1), .val (.ref b3), .val (.ref b33)] [(.int (1 : Int32)), (.int (if (cmpValue (FP.dcmp (own_q hi0 z1) 0) .l) = (0 : Int32) then (1 : Int32) else (0 : Int32)))])) tz
      refine XS.goto X42.here hx rfl (pc0 := 150) (pc' := 154) rfl (hb hby at_150) (by decide) (by decide) ?_
      show Steps p.tables e below (T42.setTop (mkF m 154 #[.val (.int p0), .val (.int p1), .val (.int p2), .val (.int p3), .val (.int p4), .val (.int lo0), .val (.int hi0), .val (.int lo1), .val (.int hi1), .val (.ref b1), .val (.ref b3), .val (.ref b33)] [(.int (1 : Int32)), (.int (if (cmpValue (FP.dcmp (own_q hi0 z1) 0) .l) = (0 : Int32) then (1 : Int32) else (0 : Int32)))])) tz
      rw [if_pos hm44] at hmv45
      rw [hmv45] at kz
      exact kz
    · refine XS.ifYes X42.here hx rfl (pc0 := 146) (pc' := 153) rfl (hb hby at_146) rfl ((if0 _ _).trans (feq hm44).2) (by decide) (by decide) ?_
      show Steps p.tables e below (T42.setTop (mkF m 153 #[.val (.int p0), .val (.int p1), .val (.int p2), .val (.int p3), .val (.int p4), .val (.int lo0), .val (.int hi0), .val (.int lo1), .val (.int hi1), .val (.ref b1), .val (.ref b3), .val (.ref b33)] [(.int (if (cmpValue (FP.dcmp (own_q hi0 z1) 0) .l) = (0 : Int32) then (1 : Int32) else (0 : Int32)))])) tz
      refine XS.iconst X42.here hx rfl (hb hby at_153) ?_
      show Steps p.tables e below (T42.setTop (mkF m 154 #[.val (.int p0), .val (.int p1), .val (.int p2), .val (.int p3), .val (.int p4), .val (.int lo0), .val (.int hi0), .val (.int lo1), .val (.int hi1), .val (.ref b1), .val (.ref b3), .val (.ref b33)] [(.int (0 : Int32)), (.int (if (cmpValue (FP.dcmp (own_q hi0 z1) 0) .l) = (0 : Int32) then (1 : Int32) else (0 : Int32)))])) tz
      rw [if_neg hm44] at hmv45
      rw [hmv45] at kz
      exact kz
  rw [hmv45]
  refine own_on (B := T42.setTop (mkF m 160 #[.val (.int p0), .val (.int p1), .val (.int p2), .val (.int p3), .val (.int p4), .val (.int lo0), .val (.int hi0), .val (.int lo1), .val (.int hi1), .val (.ref b1), .val (.ref b3), .val (.ref b33)] [(.int (1 : Int32)), (.ref b33)])) (fun tz kz => ?_) ?_
  · show Steps p.tables e below (T42.setTop (mkF m 154 #[.val (.int p0), .val (.int p1), .val (.int p2), .val (.int p3), .val (.int p4), .val (.int lo0), .val (.int hi0), .val (.int lo1), .val (.int hi1), .val (.ref b1), .val (.ref b3), .val (.ref b33)] [(.int (if hi0 = (0 : Int32) then (1 : Int32) else (0 : Int32))), (.int (if (cmpValue (FP.dcmp (own_q hi0 z1) 0) .l) = (0 : Int32) then (1 : Int32) else (0 : Int32)))])) tz
    refine XS.icmpNo X42.here hx rfl (hb hby at_154) rfl (teq (ok0.2.2.2.1)).2 ?_
    show Steps p.tables e below (T42.setTop (mkF m 157 #[.val (.int p0), .val (.int p1), .val (.int p2), .val (.int p3), .val (.int p4), .val (.int lo0), .val (.int hi0), .val (.int lo1), .val (.int hi1), .val (.ref b1), .val (.ref b3), .val (.ref b33)] [])) tz
    refine XS.aload X42.here hx rfl (hb hby at_157) rfl rfl ?_
    show Steps p.tables e below (T42.setTop (mkF m 159 #[.val (.int p0), .val (.int p1), .val (.int p2), .val (.int p3), .val (.int p4), .val (.int lo0), .val (.int hi0), .val (.int lo1), .val (.int hi1), .val (.ref b1), .val (.ref b3), .val (.ref b33)] [(.ref b33)])) tz
    refine XS.iconst X42.here hx rfl (hb hby at_159) ?_
    exact kz
  obtain ⟨cq46, kq46, q46a, q46b, q46c⟩ := isOf hZ e42 f_43
  obtain ⟨_, _, ⟨T46, L46, k46, n46⟩, -, X46, ⟨Lc46, hQ46, l46, y46, z46⟩, st46⟩ := X42.virtualBack hx (y := (⟨"com/example/focus_on_games/focusongames/model/StateRewards", "isZero", "(I)Z"⟩ : MethodName)) (z := (⟨"com/example/focus_on_games/focusongames/model/StateRewards", "isZero", "(I)Z"⟩ : MethodName)) hown (mvT hZ (hw _ (List.mem_of_getElem? (i := 33) rfl))) (mvT hZ (hw _ (List.mem_of_getElem? (i := 34) rfl))) (notFace_of_selects (args := #[]) (mvT hZ (hw _ (List.mem_of_getElem? (i := 36) rfl)))) (mvT hZ (hw _ (List.mem_of_getElem? (i := 36) rfl))) (mvT hZ (hw _ (List.mem_of_getElem? (i := 35) rfl))) (by decide) (backOf (W := 0) (rm5b l Z a0 hw [] b33 d40 k3 (own_q hi0 z1) (own_q hi1 z3) T40.heap n0 O41 Fq40 Vq40) hZ (hw _ (List.mem_of_getElem? (i := 37) rfl)) (hw _ (List.mem_of_getElem? (i := 8) rfl)) (by decide) (by decide)) q46a q46c (g := (mkF m 160 #[.val (.int p0), .val (.int p1), .val (.int p2), .val (.int p3), .val (.int p4), .val (.int lo0), .val (.int hi0), .val (.int lo1), .val (.int hi1), .val (.ref b1), .val (.ref b3), .val (.ref b33)] [(.int (1 : Int32)), (.ref b33)])) rfl (by rw [hml]; rfl) (Steps.refl _) (argsL := [(.int (1 : Int32))]) (rest := []) (lenOf own_pd3 rfl) rfl (by show 2 * 0 + _ ≤ _; exact Nat.le_of_eq rfl) (hb hby at_160) (fun _ _ => ⟨rfl, e42, (by decide : 5 + 0 ≤ _), (by decide : 10 + 0 ≤ _)⟩)
  dsimp only [Pt.U, Pt.locs, Pt.cells, Pt.slots] at X46 l46 y46 z46 st46 hQ46
  subst l46 y46 z46
  obtain ⟨rfl, Nq46, e46⟩ := hQ46
  have N46 := Fr.app N42 Nq46
  refine own_on (B := T46.setTop (mkF m 163 #[.val (.int p0), .val (.int p1), .val (.int p2), .val (.int p3), .val (.int p4), .val (.int lo0), .val (.int hi0), .val (.int lo1), .val (.int hi1), .val (.ref b1), .val (.ref b3), .val (.ref b33)] [(.int (if (cmpValue (FP.dcmp (own_q hi1 z3) 0) .l) = (0 : Int32) then (1 : Int32) else (0 : Int32)))])) (fun tz kz => st46.trans kz) ?_
  refine own_on (B := T46.setTop (mkF m 165 #[.val (.int p0), .val (.int p1), .val (.int p2), .val (.int p3), .val (.int p4), .val (.int lo0), .val (.int hi0), .val (.int lo1), .val (.int hi1), .val (.ref b1), .val (.ref b3), .val (.ref b33)] [(.int hi1), (.int (if (cmpValue (FP.dcmp (own_q hi1 z3) 0) .l) = (0 : Int32) then (1 : Int32) else (0 : Int32)))])) (fun tz kz => ?_) ?_
  · show Steps p.tables e below (T46.setTop (mkF m 163 #[.val (.int p0), .val (.int p1), .val (.int p2), .val (.int p3), .val (.int p4), .val (.int lo0), .val (.int hi0), .val (.int lo1), .val (.int hi1), .val (.ref b1), .val (.ref b3), .val (.ref b33)] [(.int (if (cmpValue (FP.dcmp (own_q hi1 z3) 0) .l) = (0 : Int32) then (1 : Int32) else (0 : Int32)))])) tz
    refine XS.iload X46.here hx rfl (hb hby at_163) rfl ?_
    exact kz
  obtain ⟨mv48, hmv48⟩ : ∃ z, z = (if hi1 = (0 : Int32) then (1 : Int32) else (0 : Int32)) := ⟨_, rfl⟩
  refine own_on (B := T46.setTop (mkF m 173 #[.val (.int p0), .val (.int p1), .val (.int p2), .val (.int p3), .val (.int p4), .val (.int lo0), .val (.int hi0), .val (.int lo1), .val (.int hi1), .val (.ref b1), .val (.ref b3), .val (.ref b33)] [(.int mv48), (.int (if (cmpValue (FP.dcmp (own_q hi1 z3) 0) .l) = (0 : Int32) then (1 : Int32) else (0 : Int32)))])) (fun tz kz => ?_) ?_
  · show Steps p.tables e below (T46.setTop (mkF m 165 #[.val (.int p0), .val (.int p1), .val (.int p2), .val (.int p3), .val (.int p4), .val (.int lo0), .val (.int hi0), .val (.int lo1), .val (.int hi1), .val (.ref b1), .val (.ref b3), .val (.ref b33)] [(.int hi1), (.int (if (cmpValue (FP.dcmp (own_q hi1 z3) 0) .l) = (0 : Int32) then (1 : Int32) else (0 : Int32)))])) tz
    by_cases hm47 : hi1 = (0 : Int32)
    · refine XS.ifNo X46.here hx rfl (hb hby at_165) rfl ((if0 _ _).trans (teq hm47).2) ?_
      show Steps p.tables e below (T46.setTop (mkF m 168 #[.val (.int p0), .val (.int p1), .val (.int p2), .val (.int p3), .val (.int p4), .val (.int lo0), .val (.int hi0), .val (.int lo1), .val (.int hi1), .val (.ref b1), .val (.ref b3), .val (.ref b33)] [(.int (if (cmpValue (FP.dcmp (own_q hi1 z3) 0) .l) = (0 : Int32) then (1 : Int32) else (0 : Int32)))])) tz
      refine XS.iconst X46.here hx rfl (hb hby at_168) ?_
      show Steps p.tables e below (T46.setTop (mkF m 169 #[.val (.int p0), .val (.int p1), .val (.int p2), .val (.int p3), .val (.int p4), .val (.int lo0), .val (.int hi0), .val (.int lo1), .val (.int hi1), .val (.ref b1), .val (.ref b3), .val (.ref b33)] [(.int (1 : Int32)), (.int (if (cmpValue (FP.dcmp (own_q hi1 z3) 0) .l) = (0 : Int32) then (1 : Int32) else (0 : Int32)))])) tz
      refine XS.goto X46.here hx rfl (pc0 := 169) (pc' := 173) rfl (hb hby at_169) (by decide) (by decide) ?_
      show Steps p.tables e below (T46.setTop (mkF m 173 #[.val (.int p0), .val (.int p1), .val (.int p2), .val (.int p3), .val (.int p4), .val (.int lo0), .val (.int hi0), .val (.int lo1), .val (.int hi1), .val (.ref b1), .val (.ref b3), .val (.ref b33)] [(.int (1 : Int32)), (.int (if (cmpValue (FP.dcmp (own_q hi1 z3) 0) .l) = (0 : Int32) then (1 : Int32) else (0 : Int32)))])) tz
      rw [if_pos hm47] at hmv48
      rw [hmv48] at kz
      exact kz
    · refine XS.ifYes X46.here hx rfl (pc0 := 165) (pc' := 172) rfl (hb hby at_165) rfl ((if0 _ _).trans (feq hm47).2) (by decide) (by decide) ?_
      show Steps p.tables e below (T46.setTop (mkF m 172 #[.val (.int p0), .val (.int p1), .val (.int p2), .val (.int p3), .val (.int p4), .val (.int lo0), .val (.int hi0), .val (.int lo1), .val (.int hi1), .val (.ref b1), .val (.ref b3), .val (.ref b33)] [(.int (if (cmpValue (FP.dcmp (own_q hi1 z3) 0) .l) = (0 : Int32) then (1 : Int32) else (0 : Int32)))])) tz
      refine XS.iconst X46.here hx rfl (hb hby at_172) ?_
      show Steps p.tables e below (T46.setTop (mkF m 173 #[.val (.int p0), .val (.int p1), .val (.int p2), .val (.int p3), .val (.int p4), .val (.int lo0), .val (.int hi0), .val (.int lo1), .val (.int hi1), .val (.ref b1), .val (.ref b3), .val (.ref b33)] [(.int (0 : Int32)), (.int (if (cmpValue (FP.dcmp (own_q hi1 z3) 0) .l) = (0 : Int32) then (1 : Int32) else (0 : Int32)))])) tz
      rw [if_neg hm47] at hmv48
      rw [hmv48] at kz
      exact kz
  rw [hmv48]
  refine own_on (B := T46.setTop (mkF m 181 #[.val (.int p0), .val (.int p1), .val (.int p2), .val (.int p3), .val (.int p4), .val (.int lo0), .val (.int hi0), .val (.int lo1), .val (.int hi1), .val (.ref b1), .val (.ref b3), .val (.ref b33)] [(.int (1 : Int32))])) (fun tz kz => ?_) ?_
  · show Steps p.tables e below (T46.setTop (mkF m 173 #[.val (.int p0), .val (.int p1), .val (.int p2), .val (.int p3), .val (.int p4), .val (.int lo0), .val (.int hi0), .val (.int lo1), .val (.int hi1), .val (.ref b1), .val (.ref b3), .val (.ref b33)] [(.int (if hi1 = (0 : Int32) then (1 : Int32) else (0 : Int32))), (.int (if (cmpValue (FP.dcmp (own_q hi1 z3) 0) .l) = (0 : Int32) then (1 : Int32) else (0 : Int32)))])) tz
    refine XS.icmpNo X46.here hx rfl (hb hby at_173) rfl (teq (ok1.2.2.2.1)).2 ?_
    show Steps p.tables e below (T46.setTop (mkF m 176 #[.val (.int p0), .val (.int p1), .val (.int p2), .val (.int p3), .val (.int p4), .val (.int lo0), .val (.int hi0), .val (.int lo1), .val (.int hi1), .val (.ref b1), .val (.ref b3), .val (.ref b33)] [])) tz
    refine XS.iconst X46.here hx rfl (hb hby at_176) ?_
    show Steps p.tables e below (T46.setTop (mkF m 177 #[.val (.int p0), .val (.int p1), .val (.int p2), .val (.int p3), .val (.int p4), .val (.int lo0), .val (.int hi0), .val (.int lo1), .val (.int hi1), .val (.ref b1), .val (.ref b3), .val (.ref b33)] [(.int (1 : Int32))])) tz
    refine XS.goto X46.here hx rfl (pc0 := 177) (pc' := 181) rfl (hb hby at_177) (by decide) (by decide) ?_
    exact kz
  obtain ⟨fs, hr, hrun, hended, hW, hsame⟩ := X46.leave (v := some (.int (1 : Int32))) (fun h => by rw [Bd.returns] at h; cases h)
  refine own_of ⟨_, _, ?_, hrun, hended, _, _, rfl, ?_, ⟨_, rfl⟩, hW, hsame.mono (by decide) (by decide)⟩
  · show Steps p.tables e below (T46.setTop (mkF m 181 #[.val (.int p0), .val (.int p1), .val (.int p2), .val (.int p3), .val (.int p4), .val (.int lo0), .val (.int hi0), .val (.int lo1), .val (.int hi1), .val (.ref b1), .val (.ref b3), .val (.ref b33)] [(.int (1 : Int32))])) _
    exact own_retN X46 hx (t := .boolean) Bd.returns (by simp) (by first | rfl | (split <;> first | rfl | (split <;> first | rfl | (split <;> rfl)))) (hb hby at_181) hr
  · show Q0 Z p0 p1 p2 p3 p4 h0 n0 _ T46.heap _
    rw [e46]
    exact ⟨rfl, N46⟩
set_option maxRecDepth 65536 in
set_option maxHeartbeats 40000000 in
theorem comes_1 {Post : Tables → Env → Array Value → State → Outcome → State → Prop} (hpost : ∀ tb e args s v u, (limb_1_1.after args s (.returned v) u = true ∧ limb_1_2.after args s (.returned v) u = true ∧ True) → FrameEnd s (.returned v) u (Jvm.fieldLocs frame_1_writes args s ++ Jvm.arrayLocs frame_1_arrays args s ++ Jvm.staticLocs frame_1_statics s) 24 128 → Post tb e args s (.returned v) u) :
    ArmFor flags0 classFile x code maxLocals ret World_1 tables_1 room_1 Calls_1 rest_1 Pre_1 Post := by
  intro l hfl _ _ p e ha hc hk s m args below hf hA hF happ hP
  obtain ⟨hcalls, hrest, hpre⟩ := hP
  obtain ⟨-, -, -, hnamed, -, -, -, hat⟩ := (Spec.applies_iff hf).mp happ
  obtain ⟨hg, hn⟩ := and_e (Cond.before_iff.mp (show (Jvm.Cond.and given_1 narrow_1).before args s = true from hpre))
  obtain ⟨hcnt, hg0⟩ := and_e hg
  obtain ⟨ha0, hg1⟩ := and_e hg0
  obtain ⟨ha1, hg2⟩ := and_e hg1
  obtain ⟨ha2, hg3⟩ := and_e hg2
  obtain ⟨ha3, hg4⟩ := and_e hg3
  have ha4 := hg4
  obtain ⟨w0, w1, w2, w3, w4, rfl⟩ : ∃ w0 w1 w2 w3 w4 : Value, args = #[w0, w1, w2, w3, w4] := by
    have hs : args.size = 5 := by simpa [Cond.value, given_1] using hcnt
    obtain ⟨L⟩ := args
    match L, hs with
    | [w0, w1, w2, w3, w4], _ => exact ⟨w0, w1, w2, w3, w4, rfl⟩
  have hw := fun d (hd : d ∈ tables_1) => atoms_spec (ws := Jvm.Cond.code x code maxLocals ret :: tables_1) hat d (List.mem_cons_of_mem _ hd)
  have hfit : Fit s := fun {y c} hc i hi => by
    obtain ⟨ha, rfl⟩ := Array.getElem?_eq_some_iff.mp hc
    have q := List.all_eq_true.mp ((Array.all_eq_true_iff_forall_mem.mp hF) _ (Array.getElem_mem ha)) i (List.mem_range.mpr hi)
    simpa [Array.getElem?_eq_getElem hi] using q
  obtain ⟨i0, ei0⟩ := is_v ha0
  obtain rfl : w0 = (.int i0) := Option.some.inj ei0
  obtain ⟨i1, ei1⟩ := is_v ha1
  obtain rfl : w1 = (.int i1) := Option.some.inj ei1
  obtain ⟨i2, ei2⟩ := is_v ha2
  obtain rfl : w2 = (.int i2) := Option.some.inj ei2
  obtain ⟨i3, ei3⟩ := is_v ha3
  obtain rfl : w3 = (.int i3) := Option.some.inj ei3
  obtain ⟨i4, ei4⟩ := is_v ha4
  obtain rfl : w4 = (.int i4) := Option.some.inj ei4
  obtain ⟨n, o, h1, h2, h3, _, L, rfl, ⟨rfl, N⟩, hq⟩ := rm0 l s _ hw tables_1 i0 i1 i2 i3 i4 s.heap s.heap.size (Old.start s) p e ha hc hk s m _ below hf ((Spec.applies_iff_loose hf).mp happ).1 ⟨rfl, State.Warmed39.refl s, rfl⟩ trivial
  refine ⟨n, _, h1, h2, h3, hpost _ _ _ _ _ _ ⟨Cond.after_iff.mpr rfl, Cond.after_iff.mpr (eq_i res_at (Term.int_eval (1)) rfl), trivial⟩ ⟨hq.1, hq.2.1, (hq.2.2.sift fun y hy => Or.inr (N y hy)).mono (by decide) (by decide)⟩⟩
theorem main_1_1 : Claimed_1_1 := comes_1 fun _ _ _ _ _ _ h hF => ⟨h.1, hF⟩
theorem main_1_2 : Claimed_1_2 := comes_1 fun _ _ _ _ _ _ h hF => ⟨h.2.1, hF⟩
end Jvm.Pilot.@@N@@
namespace Jvm.Pilot.@@N@@
open Jvm Jvm.ClassFile Sem Op Lib Jvm.Free Jvm.Stand Jvm.Pilot.@@N@@.Jvm.D
/-! MADE BY PROGRAM (witnessworld.py) out of the Statement's table words and the real class files: 12 classes; the members and pool entries that the words name. The judged class is class 1, her method 1. -/
namespace start1
open Jvm.ClassFile
def u (s : String) : CpInfo := .utf8 (stringToUtf16 s)
/-- a pool by its gaps: so many unusable entries, then the entry; so many at the end -/
def gap : Nat → List CpInfo → List CpInfo
  | 0, r => r
  | n + 1, r => .unusable :: gap n r
def poolList (es : List (Nat × CpInfo)) (last : Nat) : List CpInfo := es.foldr (fun e r => gap e.1 (e.2 :: r)) (gap last [])
def pool (es : List (Nat × CpInfo)) (last : Nat) : Array CpInfo := ⟨poolList es last⟩
def fileOf (pool : Array CpInfo) (this : Nat) (attrs : Array Attribute := #[]) (ms : Array MethodInfo := #[]) (fl : Nat := 33) (sup : Nat := 0) (ifs : Array Nat := #[]) (fds : Array FieldInfo := #[]) : ClassFile where
  minorVersion := 0
  majorVersion := 65
  constantPool := pool
  accessFlags := fl
  thisClass := this
  superClass := sup
  interfaces := ifs
  fields := fds
  methods := ms
  attributes := attrs
def plain (name : String) (sup : Option ClassId) : Class where
  name := name
  kind := .ordinary
  loader := none
  accessFlags := 33
  super := sup
  interfaces := #[]
  cf := none
  fields := #[]
  methods := #[]
  instanceTypes := #[]
  staticTypes := #[]
  resolved := #[]
  callSites := []
  init := .initialized
  statics := none
  mirror := none

def pool0 : Array CpInfo := pool [(5, u "<init>"), (0, u "()V"), (1, .class_ 10), (1, u "java/lang/Object"), (85, u "clone"), (0, u "()Ljava/lang/Object;")] 26

def k0c0 : Code := { maxStack := 0, maxLocals := 1, code := object_method_1_code, exceptionTable := #[], attributes := #[] }
def k0m0 : Method := { name := "<init>", desc := "()V", sig := { parameters := [], returnType := none }, accessFlags := 1, code := some k0c0 }
def k0m1 : Method := { name := "clone", desc := "()Ljava/lang/Object;", sig := { parameters := [], returnType := some (.object "java/lang/Object") }, accessFlags := 260, code := none }
/-- java/lang/Object -/
def k0 : Class := { plain "java/lang/Object" none with
  accessFlags := 33
  interfaces := #[]
  cf := some (fileOf pool0 8 #[] #[{ accessFlags := 1, nameIndex := 5, descriptorIndex := 6, attributes := #[] }, { accessFlags := 260, nameIndex := 96, descriptorIndex := 97, attributes := #[] }] 33 0 #[] #[])
  fields := #[]
  methods := #[k0m0, k0m1]
  instanceTypes := #[]
  staticTypes := #[]
  resolved := Array.replicate 124 none
  statics := none }

def pool1 : Array CpInfo := pool [(2, .class_ 4), (1, u "java/lang/Object"), (0, u "<init>"), (0, u "()V"), (0, .methodref 8 9), (0, .class_ 10), (0, .nameAndType 11 12), (0, u "com/example/focus_on_games/focusongames/model/StateRewardsIsZeroPinLaw"), (0, u "quarter"), (0, u "(IZ)D"), (0, .class_ 14), (0, u "com/example/focus_on_games/focusongames/model/StateRewards"), (0, .methodref 13 16), (0, .nameAndType 5 17), (0, u "([D[D)V"), (0, .methodref 13 19), (0, .nameAndType 20 21), (0, u "isZero"), (0, u "(I)Z"), (0, .double 4616189618054758400), (3, u "law"), (0, u "(IIIII)Z")] 5

def k1m0 : Method := { name := "<init>", desc := "()V", sig := { parameters := [], returnType := none }, accessFlags := 1, code := none }
def k1c1 : Code := { maxStack := 5, maxLocals := 12, code := code, exceptionTable := #[], attributes := #[] }
def k1m1 : Method := { name := "law", desc := "(IIIII)Z", sig := { parameters := [.int, .int, .int, .int, .int], returnType := some .boolean }, accessFlags := 9, code := some k1c1 }
def k1c2 : Code := { maxStack := 4, maxLocals := 4, code := method_3_code, exceptionTable := #[], attributes := #[] }
def k1m2 : Method := { name := "quarter", desc := "(IZ)D", sig := { parameters := [.int, .boolean], returnType := some .double }, accessFlags := 10, code := some k1c2 }
/-- com/example/focus_on_games/focusongames/model/StateRewardsIsZeroPinLaw -/
def k1 : Class := { plain "com/example/focus_on_games/focusongames/model/StateRewardsIsZeroPinLaw" (some 0) with
  accessFlags := 49
  interfaces := #[]
  cf := some (fileOf pool1 8 #[] #[{ accessFlags := 1, nameIndex := 5, descriptorIndex := 6, attributes := #[] }, { accessFlags := 9, nameIndex := 26, descriptorIndex := 27, attributes := #[] }, { accessFlags := 10, nameIndex := 11, descriptorIndex := 12, attributes := #[] }] 49 2 #[] #[])
  fields := #[]
  methods := #[k1m0, k1m1, k1m2]
  instanceTypes := #[]
  staticTypes := #[]
  resolved := Array.replicate 33 none
  statics := none }

def pool2 : Array CpInfo := pool [(1, .methodref 2 3), (0, .class_ 4), (0, .nameAndType 5 6), (0, u "java/lang/Object"), (0, u "<init>"), (0, u "()V"), (11, .double 9218868437227405312), (4, .methodref 24 25), (0, .class_ 26), (0, .nameAndType 27 28), (0, u "java/util/Arrays"), (0, u "copyOf"), (0, u "([DI)[D"), (0, .fieldref 30 31), (0, .class_ 32), (0, .nameAndType 33 34), (0, u "com/example/focus_on_games/focusongames/model/StateRewards"), (0, u "below"), (0, u "[D"), (0, .fieldref 30 36), (0, .nameAndType 37 34), (0, u "above"), (0, u "([D[D)V"), (7, u "isZero"), (0, u "(I)Z")] 19

def k2c0 : Code := { maxStack := 7, maxLocals := 4, code := prog_75_method_1_code, exceptionTable := #[], attributes := #[] }
def k2m0 : Method := { name := "<init>", desc := "([D[D)V", sig := { parameters := [(.array .double), (.array .double)], returnType := none }, accessFlags := 1, code := some k2c0 }
def k2c1 : Code := { maxStack := 4, maxLocals := 2, code := prog_75_method_5_code, exceptionTable := #[], attributes := #[] }
def k2m1 : Method := { name := "isZero", desc := "(I)Z", sig := { parameters := [.int], returnType := some .boolean }, accessFlags := 1, code := some k2c1 }
/-- com/example/focus_on_games/focusongames/model/StateRewards -/
def k2 : Class := { plain "com/example/focus_on_games/focusongames/model/StateRewards" (some 0) with
  accessFlags := 49
  interfaces := #[]
  cf := some (fileOf pool2 30 #[] #[{ accessFlags := 1, nameIndex := 5, descriptorIndex := 38, attributes := #[] }, { accessFlags := 1, nameIndex := 46, descriptorIndex := 47, attributes := #[] }] 49 2 #[] #[{ accessFlags := 18, nameIndex := 33, descriptorIndex := 34, attributes := #[] }, { accessFlags := 18, nameIndex := 37, descriptorIndex := 34, attributes := #[] }])
  fields := #[{ name := "below", type := (.array .double), accessFlags := 18, slot := 0, constantValue := 0 }, { name := "above", type := (.array .double), accessFlags := 18, slot := 1, constantValue := 0 }]
  methods := #[k2m0, k2m1]
  instanceTypes := #[(.array .double), (.array .double)]
  staticTypes := #[]
  resolved := Array.replicate 67 none
  statics := none }

def pool3 : Array CpInfo := pool [(2, .class_ 4), (1, u "java/lang/Object"), (0, u "<init>"), (0, u "()V"), (7, .class_ 16), (1, u "java/util/Arrays"), (57, .class_ 76), (1, u "java/util/Arrays$NaturalOrder"), (32, u "()Ljava/lang/Object;"), (3, .class_ 115), (1, u "java/util/Arrays$LegacyMergeSort"), (1, u "Z"), (10, .nameAndType 129 109), (0, u "clone"), (172, u "copyOf"), (25, .methodref 329 128), (0, .class_ 330), (0, u "[D"), (44, .class_ 376), (0, u "java/util/Arrays$ArrayList"), (68, u "$assertionsDisabled"), (269, u "MIN_ARRAY_SORT_GRAN"), (0, u "I"), (2, u "INSERTIONSORT_THRESHOLD"), (155, u "([DI)[D"), (99, .class_ 976), (0, u "java/util/Arrays$ArrayItr")] 52

def k3m0 : Method := { name := "<init>", desc := "()V", sig := { parameters := [], returnType := none }, accessFlags := 2, code := none }
def k3c1 : Code := { maxStack := 6, maxLocals := 3, code := jdk_65_method_127_code, exceptionTable := #[], attributes := #[] }
def k3m1 : Method := { name := "copyOf", desc := "([DI)[D", sig := { parameters := [(.array .double), .int], returnType := some (.array .double) }, accessFlags := 9, code := some k3c1 }
/-- java/util/Arrays -/
def k3 : Class := { plain "java/util/Arrays" (some 0) with
  accessFlags := 49
  interfaces := #[]
  cf := some (fileOf pool3 14 #[.nestMembers #[975, 375, 113, 74]] #[{ accessFlags := 2, nameIndex := 5, descriptorIndex := 6, attributes := #[] }, { accessFlags := 9, nameIndex := 302, descriptorIndex := 875, attributes := #[] }] 49 2 #[] #[{ accessFlags := 26, nameIndex := 715, descriptorIndex := 716, attributes := #[] }, { accessFlags := 26, nameIndex := 719, descriptorIndex := 716, attributes := #[] }, { accessFlags := 4120, nameIndex := 445, descriptorIndex := 117, attributes := #[] }])
  fields := #[{ name := "MIN_ARRAY_SORT_GRAN", type := .int, accessFlags := 26, slot := 0, constantValue := 0 }, { name := "INSERTIONSORT_THRESHOLD", type := .int, accessFlags := 26, slot := 1, constantValue := 0 }, { name := "$assertionsDisabled", type := .boolean, accessFlags := 4120, slot := 2, constantValue := 0 }]
  methods := #[k3m0, k3m1]
  instanceTypes := #[]
  staticTypes := #[.int, .int, .boolean]
  resolved := Array.replicate 1029 none
  statics := none }

def pool4 : Array CpInfo := pool [(1, .class_ 2), (0, u "java/lang/Cloneable"), (0, .class_ 4), (0, u "java/lang/Object")] 2

/-- java/lang/Cloneable -/
def k4 : Class := { plain "java/lang/Cloneable" (some 0) with
  accessFlags := 1537
  interfaces := #[]
  cf := some (fileOf pool4 1 #[] #[] 1537 3 #[] #[])
  fields := #[]
  methods := #[]
  instanceTypes := #[]
  staticTypes := #[]
  resolved := Array.replicate 7 none
  statics := none }

def pool5 : Array CpInfo := pool [(1, u "java/io/Serializable"), (0, .class_ 1), (0, u "java/lang/Object"), (0, .class_ 3)] 3

/-- java/io/Serializable -/
def k5 : Class := { plain "java/io/Serializable" (some 0) with
  accessFlags := 1537
  interfaces := #[]
  cf := some (fileOf pool5 2 #[] #[] 1537 4 #[] #[])
  fields := #[]
  methods := #[]
  instanceTypes := #[]
  staticTypes := #[]
  resolved := Array.replicate 8 none
  statics := none }

/-- the primitive byte -/
def k6 : Class := { plain "byte" none with kind := .primitive 'B', accessFlags := 0x411 }
/-- [B -/
def k7 : Class := { plain "[B" (some 0) with kind := .array 6 .byte, interfaces := #[4, 5], accessFlags := 1041 }

/-- the primitive double -/
def k8 : Class := { plain "double" none with kind := .primitive 'D', accessFlags := 0x411 }
/-- [D -/
def k9 : Class := { plain "[D" (some 0) with kind := .array 8 .double, interfaces := #[4, 5], accessFlags := 1041 }

/-- the primitive int -/
def k10 : Class := { plain "int" none with kind := .primitive 'I', accessFlags := 0x411 }
/-- [I -/
def k11 : Class := { plain "[I" (some 0) with kind := .array 10 .int, interfaces := #[4, 5], accessFlags := 1041 }

def heap : Heap := #[]
def classes : Array Class := #[k0, k1, k2, k3, k4, k5, k6, k7, k8, k9, k10, k11]
def interned : List (Array UInt16 × Addr) := []
def slotsUsed : Nat := 0
def theMethod : MethodId := ⟨1, 1⟩
def args0 : Array Value := #[.int 1, .int 2, .int 3, .int 4, .int 5]
def aboutOver (below : List Frame) : State where
  vm := { classes := classes, interned := interned.toArray }
  heap := heap
  slotsUsed := slotsUsed
  threads := #[{ frames := .invoking theMethod args0 :: below }]
def below0 : List Frame := [.native { method := ⟨0, 0⟩, args := #[] }]
def about1 : State := aboutOver below0
def p0 : Program := .bare "" "" ""
def e0 : Env := launch0.env 0 0 0
theorem w_frames : about1.frames = Frame.invoking theMethod args0 :: below0 := rfl
set_option maxRecDepth 65536 in
theorem w_args : argsFit about1.vm theMethod args0 = true := by decide +kernel
set_option maxRecDepth 65536 in
theorem w_heap : heapFits about1 = true := by decide +kernel
set_option maxRecDepth 65536 in
theorem w_runnable : about1.curStatus? = some .runnable := by decide +kernel
set_option maxRecDepth 65536 in
theorem w_alone : about1.alone = true := by decide +kernel
set_option maxRecDepth 65536 in
theorem w_named : about1.methodNamed? x = some theMethod := by decide +kernel
set_option maxRecDepth 65536 in
theorem w_hears : about1.hears theMethod below0 = true := by decide +kernel
set_option maxRecDepth 65536 in
theorem w_ripe : about1.ripe theMethod args0 below0 = true := by decide +kernel
theorem w_running : about1.status = .running := rfl
set_option maxRecDepth 65536 in
theorem w_room : about1.hasRoom e0.platform room_1 = true :=
  launch0.hasRoom_least _ room_1 (by decide +kernel) (by decide +kernel) (by decide +kernel) (by decide +kernel) (by decide +kernel) (by decide +kernel)
theorem allAtoms_all (ts : List Jvm.Cond) (a : Array Jvm.Value) (st : Jvm.State) : (allAtoms ts).before a st = ts.all (fun c => c.before a st) := by
  induction ts with
  | nil => rfl
  | cons c t ih =>
    show (Jvm.Cond.and c (allAtoms t)).before a st = _
    rw [Jvm.Cond.before_and, ih, List.all_cons]
def words1 : List Jvm.Cond := Jvm.Cond.code x code maxLocals ret :: tables_1
/-- a 'code' word, met by the world's own term for the bytes: nothing is compared byte by byte -/
theorem code_word {y : MethodName} {bytes : ByteArray} {mx : Nat} {rt : Option FieldType} {a : Array Value} {s : State} {m : MethodId} {meth : Method} {c : Code} (h1 : s.methodNamed? y = some m) (h2 : s.vm.method? m = some meth) (h3 : meth.code = some c) (h4 : c.code = bytes)
    (h5 : (c.maxLocals == mx && c.exceptionTable.isEmpty && decide (c.maxStack ≤ mostOperands) && decide (meth.sig.returnType = rt) && !meth.locks && decide (parseMethodDescriptor y.desc = some meth.sig)) = true) : (Jvm.Cond.code y bytes mx rt).before a s = true := by
  simp only [Bool.and_eq_true, beq_iff_eq, Bool.not_eq_true', decide_eq_true_eq] at h5
  obtain ⟨⟨⟨⟨⟨g1, g2⟩, g3⟩, g4⟩, g5⟩, g6⟩ := h5
  simp [Cond.before, Cond.holds, Cond.value, h1, h2, h3, h4, g1, g2, g3, g4, g5, g6]
def isCode : Jvm.Cond → Bool
  | .code _ _ _ _ => true
  | _ => false
theorem all_split {L : List Jvm.Cond} {P : Jvm.Cond → Bool} (h1 : L.all (fun c => isCode c || P c) = true) (h2 : ∀ c ∈ L.filter isCode, P c = true) : L.all P = true := by
  refine List.all_eq_true.mpr fun c hc => ?_
  have h := List.all_eq_true.mp h1 c hc
  rcases Bool.eq_false_or_eq_true (isCode c) with hi | hi
  · exact h2 c (List.mem_filter.mpr ⟨hc, hi⟩)
  · simpa [hi] using h
set_option maxRecDepth 65536 in
theorem w_c0 : (Jvm.Cond.code x code maxLocals ret).before args0 about1 = true := code_word (m := ⟨1, 1⟩) (meth := k1m1) (c := k1c1) (by decide +kernel) rfl rfl rfl (by decide +kernel)
set_option maxRecDepth 65536 in
theorem w_c1 : (Jvm.Cond.code ({ cls := "com/example/focus_on_games/focusongames/model/StateRewardsIsZeroPinLaw", name := "quarter", desc := "(IZ)D" } : Jvm.MethodName) method_3_code (4 : Nat) (Option.some Jvm.ClassFile.FieldType.double)).before args0 about1 = true := code_word (m := ⟨1, 2⟩) (meth := k1m2) (c := k1c2) (by decide +kernel) rfl rfl rfl (by decide +kernel)
set_option maxRecDepth 65536 in
theorem w_c2 : (Jvm.Cond.code ({ cls := "com/example/focus_on_games/focusongames/model/StateRewards", name := "<init>", desc := "([D[D)V" } : Jvm.MethodName) prog_75_method_1_code (4 : Nat) (Option.none : Option Jvm.ClassFile.FieldType)).before args0 about1 = true := code_word (m := ⟨2, 0⟩) (meth := k2m0) (c := k2c0) (by decide +kernel) rfl rfl rfl (by decide +kernel)
set_option maxRecDepth 65536 in
theorem w_c3 : (Jvm.Cond.code ({ cls := "java/lang/Object", name := "<init>", desc := "()V" } : Jvm.MethodName) object_method_1_code (1 : Nat) (Option.none : Option Jvm.ClassFile.FieldType)).before args0 about1 = true := code_word (m := ⟨0, 0⟩) (meth := k0m0) (c := k0c0) (by decide +kernel) rfl rfl rfl (by decide +kernel)
set_option maxRecDepth 65536 in
theorem w_c4 : (Jvm.Cond.code ({ cls := "java/util/Arrays", name := "copyOf", desc := "([DI)[D" } : Jvm.MethodName) jdk_65_method_127_code (3 : Nat) (Option.some (Jvm.ClassFile.FieldType.array Jvm.ClassFile.FieldType.double))).before args0 about1 = true := code_word (m := ⟨3, 1⟩) (meth := k3m1) (c := k3c1) (by decide +kernel) rfl rfl rfl (by decide +kernel)
set_option maxRecDepth 65536 in
theorem w_c5 : (Jvm.Cond.code ({ cls := "com/example/focus_on_games/focusongames/model/StateRewards", name := "isZero", desc := "(I)Z" } : Jvm.MethodName) prog_75_method_5_code (2 : Nat) (Option.some Jvm.ClassFile.FieldType.boolean)).before args0 about1 = true := code_word (m := ⟨2, 1⟩) (meth := k2m1) (c := k2c1) (by decide +kernel) rfl rfl rfl (by decide +kernel)
def codes1 : List Jvm.Cond := [Jvm.Cond.code x code maxLocals ret, Jvm.Cond.code ({ cls := "com/example/focus_on_games/focusongames/model/StateRewardsIsZeroPinLaw", name := "quarter", desc := "(IZ)D" } : Jvm.MethodName) method_3_code (4 : Nat) (Option.some Jvm.ClassFile.FieldType.double), Jvm.Cond.code ({ cls := "com/example/focus_on_games/focusongames/model/StateRewards", name := "<init>", desc := "([D[D)V" } : Jvm.MethodName) prog_75_method_1_code (4 : Nat) (Option.none : Option Jvm.ClassFile.FieldType), Jvm.Cond.code ({ cls := "java/lang/Object", name := "<init>", desc := "()V" } : Jvm.MethodName) object_method_1_code (1 : Nat) (Option.none : Option Jvm.ClassFile.FieldType), Jvm.Cond.code ({ cls := "java/util/Arrays", name := "copyOf", desc := "([DI)[D" } : Jvm.MethodName) jdk_65_method_127_code (3 : Nat) (Option.some (Jvm.ClassFile.FieldType.array Jvm.ClassFile.FieldType.double)), Jvm.Cond.code ({ cls := "com/example/focus_on_games/focusongames/model/StateRewards", name := "isZero", desc := "(I)Z" } : Jvm.MethodName) prog_75_method_5_code (2 : Nat) (Option.some Jvm.ClassFile.FieldType.boolean)]
set_option maxRecDepth 65536 in
theorem codes_eq : words1.filter isCode = codes1 := rfl
theorem w_codes : ∀ c ∈ words1.filter isCode, c.before args0 about1 = true := by
  rw [codes_eq]
  intro c hc
  simp only [codes1, List.mem_cons, List.not_mem_nil, or_false] at hc
  rcases hc with rfl | rfl | rfl | rfl | rfl | rfl
  · exact w_c0
  · exact w_c1
  · exact w_c2
  · exact w_c3
  · exact w_c4
  · exact w_c5
set_option maxRecDepth 65536 in
theorem w_t1 : (words1.take 24).all (fun c => isCode c || c.before args0 about1) = true := by decide +kernel
set_option maxRecDepth 65536 in
theorem w_t2 : (words1.drop 24).all (fun c => isCode c || c.before args0 about1) = true := by decide +kernel
theorem w_tables : (allAtoms (Jvm.Cond.code x code maxLocals ret :: tables_1)).before args0 about1 = true := by
  rw [allAtoms_all]
  show words1.all (fun c => c.before args0 about1) = true
  refine all_split ?_ w_codes
  rw [← List.take_append_drop 24 words1, List.all_append, w_t1, w_t2]
  rfl
set_option maxRecDepth 65536 in
theorem w_case : (Jvm.Cond.and given_1 narrow_1).before args0 about1 = true := by decide +kernel
theorem w_applies : (headSpec (Jvm.Cond.code x code maxLocals ret :: tables_1) room_1).applies x e0.platform about1 = true :=
  (Spec.applies_iff w_frames).mpr ⟨w_running, w_runnable, w_alone, w_named, w_hears, w_ripe, w_room, w_tables⟩
theorem atStart : AtStart classFile x code maxLocals ret World_1 tables_1 room_1 Calls_1 rest_1 Pre_1 launch0 p0 e0 about1 theMethod args0 below0 :=
  ⟨lists_1, trivial, launch0.admits_env _ _ _, launch0.least_env, fairChoices_fair.cas, fairChoices_fair.clock, w_frames, w_args, w_heap, w_applies, trivial, trivial, w_case⟩
end start1
theorem witness_1 : WitnessClaimed_1 := ⟨start1.p0, start1.e0, start1.about1, start1.theMethod, start1.args0, start1.below0, start1.atStart⟩
end Jvm.Pilot.@@N@@
