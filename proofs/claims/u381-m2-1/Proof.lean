import JvmDerived
import JvmDerived.Pilot.@@N@@Statement
import JvmDerived.Pilot.@@N@@Code
set_option linter.unusedVariables false
set_option linter.unusedSimpArgs false
namespace Jvm.Pilot.@@N@@
open Jvm Jvm.ClassFile Sem Op Lib Jvm.Free Jvm.Stand Jvm.LawKit Jvm.RoadKit Bundle Jvm.Pilot.@@N@@.Jvm.D
/-! own: the run from A ends well -/
def Go (tb : Tables) (e : Env) (below : List Frame) (A : State) (P : State → Outcome → Prop) : Prop := ∃ t o, Steps tb e below A t ∧ P t o
abbrev sT (p : Program) (e : Env) (b : List Frame) (T : State) (F : JFrame) (t : State) : Prop := Steps p.tables e b (T.setTop F) t
theorem own_w {a0 : Array Value} {Z : State} (hw : ∀ d ∈ tables_1, d.before a0 Z = true) (i : Nat) {d : Jvm.Cond} (h : tables_1[i]? = some d) : d.before a0 Z = true := hw d (List.mem_of_getElem? h)
theorem own_on {tb : Tables} {e : Env} {below : List Frame} {A B : State} {P : State → Outcome → Prop} (k : ∀ t, Steps tb e below B t → Steps tb e below A t) (h : Go tb e below B P) : Go tb e below A P := by
  obtain ⟨t, o, h1, h2⟩ := h
  exact ⟨t, o, k t h1, h2⟩
theorem own_of {tb : Tables} {e : Env} {below : List Frame} {A : State} {P : State → Outcome → Prop} (h : Go tb e below A P) : ∃ t o, Steps tb e below A t ∧ P t o := h
theorem own_old {Z : State} {n0 : Nat} {h : Heap} (O : Old Z n0 h) : n0 ≤ h.size := O.1 ▸ O.2.1
theorem own_retV {p : Program} {l : Launch} {e : Env} {R : Room} {s : State} {m : MethodId} {args : Array Value} {below : List Frame} {meth : Method} {c : Code} {T : State} {locs : List Loc} {cells slots : Nat}
    (X : Stand p l e R s m args below meth c T locs cells slots) (hx : p.tables.exec = Jvm.exec) {pc : Nat} {Ls : Array Slot} {w : Value} {t : FieldType} {rest : List Value} (hret : meth.sig.returnType = some t) (ht : t.isReference = true) (hw : w.isRef = true) (hd : decode c.code pc = .ok (.areturn, 1)) {fs : List Frame}
    (hl : ∀ (f : JFrame) (acts : List Action), f.method = m → f.locked = none → f.entered = [] → (doReturn e (T.setTop f) acts (some w)).1 = T.setFrames fs) : Steps p.tables e below (T.setTop (mkF m pc Ls (w :: rest))) (T.setFrames fs) :=
  retOut X hx hret (by cases t <;> first | (simp [FieldType.isReference] at ht; done) | (cases w <;> first | rfl | (simp [Value.isRef] at hw))) (Or.inr (Or.inr (Or.inr (Or.inr ⟨rfl, ht, hw⟩)))) hd hl
theorem own_retI {p : Program} {l : Launch} {e : Env} {R : Room} {s : State} {m : MethodId} {args : Array Value} {below : List Frame} {meth : Method} {c : Code} {T : State} {locs : List Loc} {cells slots : Nat}
    (X : Stand p l e R s m args below meth c T locs cells slots) (hx : p.tables.exec = Jvm.exec) {pc : Nat} {Ls : Array Slot} {z : Int32} {rest : List Value} (hret : meth.sig.returnType = some .int) (hd : decode c.code pc = .ok (.ireturn, 1)) {fs : List Frame}
    (hl : ∀ (f : JFrame) (acts : List Action), f.method = m → f.locked = none → f.entered = [] → (doReturn e (T.setTop f) acts (some (.int z))).1 = T.setFrames fs) : Steps p.tables e below (T.setTop (mkF m pc Ls (.int z :: rest))) (T.setFrames fs) :=
  retOut X hx hret rfl (Or.inl ⟨rfl, Or.inl rfl, z, rfl⟩) hd hl
theorem own_retN {p : Program} {l : Launch} {e : Env} {R : Room} {s : State} {m : MethodId} {args : Array Value} {below : List Frame} {meth : Method} {c : Code} {T : State} {locs : List Loc} {cells slots : Nat}
    (X : Stand p l e R s m args below meth c T locs cells slots) (hx : p.tables.exec = Jvm.exec) {pc : Nat} {Ls : Array Slot} {z : Int32} {t : FieldType} {rest : List Value} (hret : meth.sig.returnType = some t) (ht : t = .boolean ∨ t = .byte ∨ t = .char ∨ t = .short) (hz : nar t z = z) (hd : decode c.code pc = .ok (.ireturn, 1)) {fs : List Frame}
    (hl : ∀ (f : JFrame) (acts : List Action), f.method = m → f.locked = none → f.entered = [] → (doReturn e (T.setTop f) acts (some (.int z))).1 = T.setFrames fs) : Steps p.tables e below (T.setTop (mkF m pc Ls (.int z :: rest))) (T.setFrames fs) :=
  retN X hx hret ht hd (by rw [hz]; exact hl)
theorem own_retD {p : Program} {l : Launch} {e : Env} {R : Room} {s : State} {m : MethodId} {args : Array Value} {below : List Frame} {meth : Method} {c : Code} {T : State} {locs : List Loc} {cells slots : Nat}
    (X : Stand p l e R s m args below meth c T locs cells slots) (hx : p.tables.exec = Jvm.exec) {pc : Nat} {Ls : Array Slot} {z : UInt64} {rest : List Value} (hret : meth.sig.returnType = some .double) (hd : decode c.code pc = .ok (.dreturn, 1)) {fs : List Frame}
    (hl : ∀ (f : JFrame) (acts : List Action), f.method = m → f.locked = none → f.entered = [] → (doReturn e (T.setTop f) acts (some (.double z))).1 = T.setFrames fs) : Steps p.tables e below (T.setTop (mkF m pc Ls (.double z :: rest))) (T.setFrames fs) :=
  retOut X hx hret rfl (Or.inr (Or.inr (Or.inl ⟨rfl, rfl, z, rfl⟩))) hd hl
theorem own_retJ {p : Program} {l : Launch} {e : Env} {R : Room} {s : State} {m : MethodId} {args : Array Value} {below : List Frame} {meth : Method} {c : Code} {T : State} {locs : List Loc} {cells slots : Nat}
    (X : Stand p l e R s m args below meth c T locs cells slots) (hx : p.tables.exec = Jvm.exec) {pc : Nat} {Ls : Array Slot} {z : Int64} {rest : List Value} (hret : meth.sig.returnType = some .long) (hd : decode c.code pc = .ok (.lreturn, 1)) {fs : List Frame}
    (hl : ∀ (f : JFrame) (acts : List Action), f.method = m → f.locked = none → f.entered = [] → (doReturn e (T.setTop f) acts (some (.long z))).1 = T.setFrames fs) : Steps p.tables e below (T.setTop (mkF m pc Ls (.long z :: rest))) (T.setFrames fs) :=
  retOut X hx hret rfl (Or.inr (Or.inl ⟨rfl, rfl, z, rfl⟩)) hd hl
theorem own_fldI {Z : State} {args : Array Value} {t : Term} {x : Addr} {C n d : String} {k : Int32} (ev : t.eval args Z none [] Z = some (.ref x)) (h : (Cond.eq (.field t C n d) (.int k)).value args Z none Z [] = some true) : Fld Z Z.heap x C n d (.int k) := by
  refine Fld.start ?_
  cases hf : Z.fieldOf? x C n d with
  | none => simp [Cond.value, Term.eval, ev, hf] at h
  | some v => cases v <;> simp [Cond.value, Term.eval, ev, hf] at h; subst h; rfl
theorem own_nar {t : FieldType} {v : Value} (h : v.isRef = true) : narrow t v = v := by rcases ref_cases h with rfl | ⟨r, rfl⟩ <;> cases t <;> rfl
theorem own_fit {t : FieldType} {v : Value} (h : v.isRef = true) (ht : t.isReference = true := by rfl) : fits t v = true := by rcases ref_cases h with rfl | ⟨r, rfl⟩ <;> cases t <;> first | rfl | (simp [FieldType.isReference] at ht)
theorem own_st {l l' : Array Slot} {i : Nat} {v : Value} {o : Slot} (hold : l[i]? = some o) (ho : o = .unset ∨ ∃ w, o = .val w ∧ w.category = 1) (hv : v.category = 1) (e : l.setIfInBounds i (.val v) = l' := by rfl) : storeLocals l i v = some l' := e ▸ Jvm.Free.XS.store1 hold ho hv
theorem own_lremM {p : Program} {l : Launch} {e : Env} {R : Room} {s : State} {m : MethodId} {args : Array Value} {below : List Frame} {meth : Method} {c : Code} {T : State} {locs : List Loc} {cells slots : Nat} {g : JFrame} {target : State}
    (X : Stand p l e R s m args below meth c T locs cells slots) (hx : p.tables.exec = Jvm.exec) (hg : g.method = m) {x y : Int64} {rest : List Value} (hd : decode c.code g.pc = .ok (.lrem, 1)) (hs : g.stack = .long y :: .long x :: rest) (hy : y ≠ 0)
    (hr : Steps p.tables e below (T.setTop { g with pc := g.pc + 1, stack := .long (x % y) :: rest }) target) : Steps p.tables e below (T.setTop g) target :=
  Jvm.Free.XT.lrem X.here hx hg hd hs hy (by rw [lrem_mod]; exact hr)
/-! own: an array of a known length, whatever it holds -/
def OwnArz (Z : State) (h : Heap) (a : Addr) (ty : FieldType) (n : Int32) : Prop := ∃ c : Cell, Arr Z h a c ty ∧ c.slots.size = n.toNatClampNeg ∧ ¬ n < 0
theorem OwnArz.of {Z : State} {h : Heap} {a : Addr} {k : ClassId} {ty : FieldType} {n : Int32} {vs : List Value} {d : Value} (F : Arv Z h a k ty n vs d) : OwnArz Z h a ty n := by obtain ⟨c, A, -, S, M, -⟩ := F; exact ⟨c, A, S, M⟩
theorem OwnArz.lt {Z : State} {h : Heap} {a : Addr} {ty : FieldType} {n : Int32} (F : OwnArz Z h a ty n) : a < h.size := by obtain ⟨c, A, -⟩ := F; exact A.lt
theorem OwnArz.ext {Z : State} {h h' : Heap} {a : Addr} {ty : FieldType} {n : Int32} (F : OwnArz Z h a ty n) (E : Ext h h') : OwnArz Z h' a ty n := by obtain ⟨c, A, r⟩ := F; exact ⟨c, A.ext E, r⟩
theorem OwnArz.other {Z : State} {h h' : Heap} {a b : Addr} {sl : Nat} {v : Value} {ty : FieldType} {n : Int32} (F : OwnArz Z h b ty n) (W : Wr h h' a sl v) (q : b ≠ a) : OwnArz Z h' b ty n := by obtain ⟨c, A, r⟩ := F; exact ⟨c, A.other W q, r⟩
theorem OwnArz.keep {Z : State} {h h' : Heap} {a : Addr} {ws : List Addr} {ty : FieldType} {n : Int32} (F : OwnArz Z h a ty n) (K : Keep h h' ws) (q : a ∉ ws) : OwnArz Z h' a ty n := by obtain ⟨c, A, r⟩ := F; exact ⟨c, ⟨K.2.1 a c A.1 q, A.2⟩, r⟩
theorem OwnArz.set {Z : State} {h h' : Heap} {a : Addr} {sl : Nat} {v : Value} {ty : FieldType} {n : Int32} {c : Cell} (A : Arr Z h a c ty) (S : c.slots.size = n.toNatClampNeg) (M : ¬ n < 0) (W : Wr h h' a sl v) : OwnArz Z h' a ty n := ⟨_, A.same W, by rw [sz_set]; exact S, M⟩
theorem own_fldN {Z : State} {args : Array Value} {t : Term} {x : Addr} {C n d : String} (ev : t.eval args Z none [] Z = some (.ref x)) (h : (Cond.eq (.field t C n d) .null).value args Z none Z [] = some true) : Fld Z Z.heap x C n d .null :=
  Fld.start ((fld_at ev).symm.trans (null_v h))
theorem own_backI {p : Program} {l : Launch} {e : Env} {R : Room} {s : State} {args : Array Value} {below : List Frame} {Z : State} {a0 : Array Value} {h : Heap} {y : MethodName} {bytes : ByteArray} {maxL : Nat} {ret : Option FieldType} {rm : Room} {len W : Nat} {as' : Array Value} {Q : Option Value → Heap → List Loc → Prop}
    (hI : s.vm.interned = Z.vm.interned) (hM : MetFree l y (head1 [Cond.code y bytes maxL ret] rm) (fun a U => a = as' ∧ Z.Warmed39 U.vm ∧ U.heap = h ∧ U.vm.interned = Z.vm.interned) (fun _ _ _ _ _ => True) (fun _ U o U' => ∃ v L, o = .returned v ∧ Q v U'.heap L ∧ ReturnedEndW U o U' L rm.cells rm.slots))
    (hZ : Z.Warmed39 s.vm) (wc : (Cond.code y bytes maxL ret).before a0 Z = true) (wz : (Cond.initialized y.cls).before a0 Z = true) (hf : rm.frames + 1 ≤ R.frames) (hl : W + (maxL + 11) + rm.locals ≤ R.locals) :
    BackS l R p e below s args y len W (fun A a => a = as' ∧ A.U.heap = h ∧ A.cells + rm.cells ≤ R.cells ∧ A.slots + rm.slots ≤ R.slots)
      (fun A _ v B => ∃ L, Q v B.U.heap L ∧ B.locs = A.locs ++ L ∧ B.cells = A.cells + rm.cells ∧ B.slots = A.slots + rm.slots) :=
  BackS.of_freeW (bytes := bytes) (maxL := maxL) (ret := ret) (E := fun _ _ o t L k n => k = rm.cells ∧ n = rm.slots ∧ ∃ v, o = .returned v ∧ Q v t.heap L) hM hf hl
    (fun m meth c A a Y hp => have hU : Z.Warmed39 A.U.vm := wtrans hZ Y.warmed
      ⟨by show (Cond.and _ .tt).before a A.U = true; rw [Cond.before_and, mv hU wc]; rfl, mv hU wc, mv hU wz, hp.2.2.1, hp.2.2.2⟩)
    (fun m meth c A a g mk Y hp => ⟨hp.1, wtrans hZ Y.warmed, hp.2.1, (Y.warmed.interned_eq).trans hI⟩) (fun _ _ _ _ _ _ _ _ _ => trivial)
    (fun _ _ _ _ ⟨v, L, h1, h2, h3⟩ => ⟨L, _, _, h3, rfl, rfl, v, h1, h2⟩)
    (fun m meth c A a g mk v t L k n Y hp _ _ ⟨e1, e2, v', e3, e4⟩ => by cases e3; subst e1 e2; exact ⟨L, e4, rfl, rfl, rfl⟩)
theorem own_evI {args : Array Value} {Z : State} {t : Term} {k : Int32} (h : (Cond.eq t (.int k)).value args Z none Z [] = some true) : t.eval args Z none [] Z = some (.int k) := by
  have e2 : (Term.int k).eval args Z none [] Z = some (.int k) := rfl
  cases ht : t.eval args Z none [] Z with
  | none => simp [Cond.value, ht] at h
  | some v => cases v <;> simp [Cond.value, ht, e2] at h; subst h; rfl
theorem own_evN {args : Array Value} {Z : State} {t : Term} {k x : Int32} (ev : t.eval args Z none [] Z = some (.int x)) (h : (Cond.not (.eq t (.int k))).value args Z none Z [] = some true) : ¬ x = k := by
  have e2 : (Term.int k).eval args Z none [] Z = some (.int k) := rfl
  have q := not_v h
  simp only [Cond.value, ev, e2] at q
  simpa using q
def OwnLC (n ln cd : Int32) : Prop := (ln = n ∧ cd = 0) ∨ (ln = n + n ∧ cd = 1)
theorem own_chr (x : Int32) (h0 : ¬ x < 0) (h1 : ¬ (65535 : Int32) < x) : ((((nar .byte ((x >>> ((0 : Int32) &&& 31)).toInt8.toInt32) &&& (255 : Int32)) <<< ((0 : Int32) &&& 31)) ||| ((nar .byte ((x >>> ((8 : Int32) &&& 31)).toInt8.toInt32) &&& (255 : Int32)) <<< ((8 : Int32) &&& 31))).toUInt32.toUInt16.toUInt32.toInt32) = x := by
  have z0 : (0 : Int32).toInt = 0 := rfl
  have z5 : (65535 : Int32).toInt = 65535 := rfl
  rw [Int32.lt_iff_toInt_lt] at h0 h1
  have s0 : (x >>> ((0 : Int32) &&& 31)).toInt = x.toInt / (2 ^ 0 : Nat) := c_ishr x 0 0 (by decide)
  have s8 : (x >>> ((8 : Int32) &&& 31)).toInt = x.toInt / (2 ^ 8 : Nat) := c_ishr x 8 8 (by decide)
  generalize (x >>> ((0 : Int32) &&& 31)) = y0 at *
  generalize (x >>> ((8 : Int32) &&& 31)) = y8 at *
  have e0 : nar .byte y0.toInt8.toInt32 = y0.toInt8.toInt32.toInt8.toInt32 := rfl
  have e8 : nar .byte y8.toInt8.toInt32 = y8.toInt8.toInt32.toInt8.toInt32 := rfl
  rw [e0, e8]
  have b0 := c_i2b y0
  have b8 := c_i2b y8
  have d0 := c_i2b y0.toInt8.toInt32
  have d8 := c_i2b y8.toInt8.toInt32
  generalize y0.toInt8.toInt32.toInt8.toInt32 = w0 at *
  generalize y8.toInt8.toInt32.toInt8.toInt32 = w8 at *
  have m0 := c_mask w0 255 8 (by decide) (by decide)
  have m8 := c_mask w8 255 8 (by decide) (by decide)
  generalize (w0 &&& (255 : Int32)) = v0 at *
  generalize (w8 &&& (255 : Int32)) = v8 at *
  have l0 := c_ishl v0 0 0 (by decide)
  have l8 := c_ishl v8 8 8 (by decide)
  generalize (v0 <<< ((0 : Int32) &&& 31)) = t0 at *
  generalize (v8 <<< ((8 : Int32) &&& 31)) = t8 at *
  have r0 := rng32 t0
  have r8 := rng32 t8
  have q0 : t0.toInt = v0.toInt := by omega
  have q8 : t8.toInt = v8.toInt * 256 := by omega
  have o := c_or' t0 t8 8 (by decide) 256 (by decide) (by omega) (by omega) (by omega)
  generalize (t0 ||| t8) = u at *
  have ru := rng32 u
  have cc := c_i2c u
  rw [← Int32.toInt_inj]
  omega
theorem own_narC (x : Int32) (h0 : ¬ x < 0) (h1 : ¬ (65535 : Int32) < x) : nar .char x = x := by
  have z0 : (0 : Int32).toInt = 0 := rfl
  have z5 : (65535 : Int32).toInt = 65535 := rfl
  rw [Int32.lt_iff_toInt_lt] at h0 h1
  have cc := c_i2c x
  show x.toUInt32.toUInt16.toUInt32.toInt32 = x
  rw [← Int32.toInt_inj]
  omega
theorem own_chB (x : Int32) : ¬ nar .char x < 0 ∧ ¬ (65535 : Int32) < nar .char x := by
  have z0 : (0 : Int32).toInt = 0 := rfl
  have z5 : (65535 : Int32).toInt = 65535 := rfl
  have cc := c_i2c x
  show ¬ x.toUInt32.toUInt16.toUInt32.toInt32 < 0 ∧ ¬ (65535 : Int32) < x.toUInt32.toUInt16.toUInt32.toInt32
  rw [Int32.lt_iff_toInt_lt, Int32.lt_iff_toInt_lt]
  omega
theorem own_cfl {n ln cd : Int32} (h : OwnLC n ln cd) (h0 : (0 : Int32) < n) (h1 : n < 1000) : (((n - ln).toUInt32 >>> ((31 : Int32) &&& 31).toUInt32).toInt32).toInt8.toInt32 = cd := by
  have z0 : (0 : Int32).toInt = 0 := rfl
  have z1 : (1 : Int32).toInt = 1 := rfl
  have zk : (1000 : Int32).toInt = 1000 := rfl
  rw [Int32.lt_iff_toInt_lt] at h0 h1
  have q := c_isub n ln
  have r := rng32 (n - ln)
  have rl := rng32 ln
  have a := c_iadd n n
  generalize n - ln = t at *
  have s := c_iushr t 31 31 (by decide) (by decide)
  generalize ((t.toUInt32 >>> ((31 : Int32) &&& 31).toUInt32).toInt32) = u at *
  have b := c_i2b u
  rw [← Int32.toInt_inj]
  rcases h with ⟨rfl, rfl⟩ | ⟨rfl, rfl⟩
  · omega
  · omega
theorem own_cfb {n ln cd : Int32} (h : OwnLC n ln cd) : nar .byte cd = cd := by rcases h with ⟨-, rfl⟩ | ⟨-, rfl⟩ <;> rfl
theorem own_cfn {n ln cd : Int32} (h : OwnLC n ln cd) : narrow .byte (.int cd) = .int cd := by rcases h with ⟨-, rfl⟩ | ⟨-, rfl⟩ <;> rfl
theorem own_cff {n ln cd : Int32} (h : OwnLC n ln cd) : fits .byte (.int cd) = true := by rcases h with ⟨-, rfl⟩ | ⟨-, rfl⟩ <;> rfl
theorem own_pn_java_lang_StringUTF16 : plainName "java/lang/StringUTF16" = true := by first | (simp [plainName, overriddenIn]; done) | decide +kernel
theorem own_ef_24a (m : MethodId) (x0 : Addr) (x1 : Int32) (x2 : Int32) : entryFrame m #[(.ref x0), (.int x1), (.int x2)] 3 = mkF m 0 #[rv x0, iv x1, iv x2] [] := by first | (simp [entryFrame, mkF, argsToLocals, Value.category]; done) | rfl
def Q24a (Z : State) (u0 : Addr) (p2 : Int32) (kk : ClassId) (ln : Int32) (vs : List Value) (h0 : Heap) (n0 : Nat) (v : Option Value) (h : Heap) (L : List Loc) : Prop := v = none ∧ Fr n0 L ∧ Keep h0 h [u0] ∧ Arv Z h u0 kk .byte ln ((vs.set 0 (.int (nar .byte ((p2 >>> ((0 : Int32) &&& 31)).toInt8.toInt32)))).set 1 (.int (nar .byte ((p2 >>> ((8 : Int32) &&& 31)).toInt8.toInt32)))) (.int 0)
theorem own_d24_0 : decode jdk_52_method_4_code 0 = .ok (.getstatic 44, 3) := by decide +kernel
theorem own_d24_3 : decode jdk_52_method_4_code 3 = .ok (.ifCond .ne 25, 3) := by decide +kernel
theorem own_d24_28 : decode jdk_52_method_4_code 28 = .ok (.iload_n 1, 1) := by decide +kernel
theorem own_d24_29 : decode jdk_52_method_4_code 29 = .ok (.iconst 1, 1) := by decide +kernel
theorem own_d24_30 : decode jdk_52_method_4_code 30 = .ok (.ishl, 1) := by decide +kernel
theorem own_d24_31 : decode jdk_52_method_4_code 31 = .ok (.istore_n 1, 1) := by decide +kernel
theorem own_d24_32 : decode jdk_52_method_4_code 32 = .ok (.aload_n 0, 1) := by decide +kernel
theorem own_d24_33 : decode jdk_52_method_4_code 33 = .ok (.iload_n 1, 1) := by decide +kernel
theorem own_d24_34 : decode jdk_52_method_4_code 34 = .ok (.iinc 1 1, 3) := by decide +kernel
theorem own_d24_37 : decode jdk_52_method_4_code 37 = .ok (.iload_n 2, 1) := by decide +kernel
theorem own_d24_38 : decode jdk_52_method_4_code 38 = .ok (.getstatic 59, 3) := by decide +kernel
theorem own_d24_41 : decode jdk_52_method_4_code 41 = .ok (.ishr, 1) := by decide +kernel
theorem own_d24_42 : decode jdk_52_method_4_code 42 = .ok (.i2b, 1) := by decide +kernel
theorem own_d24_43 : decode jdk_52_method_4_code 43 = .ok (.bastore, 1) := by decide +kernel
theorem own_d24_44 : decode jdk_52_method_4_code 44 = .ok (.aload_n 0, 1) := by decide +kernel
theorem own_d24_45 : decode jdk_52_method_4_code 45 = .ok (.iload_n 1, 1) := by decide +kernel
theorem own_d24_46 : decode jdk_52_method_4_code 46 = .ok (.iload_n 2, 1) := by decide +kernel
theorem own_d24_47 : decode jdk_52_method_4_code 47 = .ok (.getstatic 63, 3) := by decide +kernel
theorem own_d24_50 : decode jdk_52_method_4_code 50 = .ok (.ishr, 1) := by decide +kernel
theorem own_d24_51 : decode jdk_52_method_4_code 51 = .ok (.i2b, 1) := by decide +kernel
theorem own_d24_52 : decode jdk_52_method_4_code 52 = .ok (.bastore, 1) := by decide +kernel
theorem own_d24_53 : decode jdk_52_method_4_code 53 = .ok (.return_, 1) := by decide +kernel
set_option maxRecDepth 65536 in
set_option maxHeartbeats 40000000 in
theorem rm24a (l : Launch) (Z : State) (a0 : Array Value) (hw : ∀ d ∈ tables_1, d.before a0 Z = true) (ws : List Jvm.Cond) (u0 : Addr) (p2 : Int32) (kk : ClassId) (ln : Int32) (vs : List Value) (h0 : Heap) (n0 : Nat) (O0 : Old Z n0 h0) (S_as : Sta Z Z.heap "java/lang/StringUTF16" "$assertionsDisabled" "Z" (.int 1)) (S_hi : Sta Z Z.heap "java/lang/StringUTF16" "HI_BYTE_SHIFT" "I" (.int 0)) (S_lo : Sta Z Z.heap "java/lang/StringUTF16" "LO_BYTE_SHIFT" "I" (.int 8)) (Va : Arv Z h0 u0 kk .byte ln vs (.int 0)) (g_u0 : n0 ≤ u0) (hl : (1 : Int32) < ln) (hv : 1 < vs.length) :
    MetFree l (⟨"java/lang/StringUTF16", "putChar", "([BII)V"⟩ : MethodName) (head1 (Jvm.Cond.code (⟨"java/lang/StringUTF16", "putChar", "([BII)V"⟩ : MethodName) jdk_52_method_4_code 3 none :: ws) ({ frames := 0, cells := 0, slots := 0, locals := 0 } : Room)) (fun a U => a = #[(.ref u0), (.int (0 : Int32)), (.int p2)] ∧ Z.Warmed39 U.vm ∧ U.heap = h0) (fun _ _ _ _ _ => True) (fun _ U o U' => ∃ v L, o = .returned v ∧ Q24a Z u0 p2 kk ln vs h0 n0 v U'.heap L ∧ FrameEnd U o U' L ({ frames := 0, cells := 0, slots := 0, locals := 0 } : Room).cells ({ frames := 0, cells := 0, slots := 0, locals := 0 } : Room).slots) := by
  refine MetFree.of_bodySF (plainFor_of_name own_pn_java_lang_StringUTF16) hisR ?_
  intro p e s m args below meth c s₁ Bd hml0 hP hK
  obtain ⟨rfl, hZ, hh⟩ := hP
  have hx := Bd.exec
  have hby := Bd.bytes
  have hml : c.maxLocals = 3 := hml0
  have hown : s.vm.findClass "java/lang/StringUTF16" = some m.cls := findClass_of_methodNamed Bd.named
  have hnm := (name_of_methodNamed Bd.named Bd.method).1
  have X0 : Stand p l e ({ frames := 0, cells := 0, slots := 0, locals := 0 } : Room) s m #[(.ref u0), (.int (0 : Int32)), (.int p2)] below meth c s₁ [] 0 0 := Stand.of_body Bd
  have e0 : s₁.heap = h0 := by rw [← hh, Bd.state]; rfl
  have N0 := Fr.nil n0
  change Go p.tables e below _ _
  refine own_on (B := s₁.setTop (mkF m 0 #[rv u0, iv (0 : Int32), iv p2] [])) (fun tz kz => castTop (own_ef_24a m u0 (0 : Int32) p2) kz) ?_
  obtain ⟨T1, X1, e1, st1⟩ := getS2 X0 hx hZ hown (host := "") (Or.inl (own_w hw 125 rfl)) Via.refl e0 (S_as.ext O0.2) (g := (mkF m 0 #[rv u0, iv (0 : Int32), iv p2] [])) rfl (hb hby own_d24_0)
  refine own_on (B := T1.setTop (mkF m 3 #[rv u0, iv (0 : Int32), iv p2] [(.int (1 : Int32))])) (fun tz kz => st1 _ kz) ?_
  refine own_on (B := T1.setTop (mkF m 38 #[rv u0, iv (1 : Int32), iv p2] [(.int p2), (.int (0 : Int32)), (.ref u0)])) (fun tz kz => ?_) ?_
  · show sT p e below T1 (mkF m 3 #[rv u0, iv (0 : Int32), iv p2] [(.int (1 : Int32))]) tz
    refine XS.ifYes X1.here hx rfl (pc0 := 3) (pc' := 28) rfl (hb hby own_d24_3) rfl ((if0 _ _).trans (feq (by decide : ¬ ((1 : Int32) = (0 : Int32)))).2) (by decide) (by decide) ?_
    show sT p e below T1 (mkF m 28 #[rv u0, iv (0 : Int32), iv p2] []) tz
    refine XS.iloadN X1.here hx rfl (hb hby own_d24_28) rfl ?_
    show sT p e below T1 (mkF m 29 #[rv u0, iv (0 : Int32), iv p2] [(.int (0 : Int32))]) tz
    refine XS.iconst X1.here hx rfl (hb hby own_d24_29) ?_
    show sT p e below T1 (mkF m 30 #[rv u0, iv (0 : Int32), iv p2] [(.int (1 : Int32)), (.int (0 : Int32))]) tz
    refine XS.ishl X1.here hx rfl (hb hby own_d24_30) rfl ?_
    show sT p e below T1 (mkF m 31 #[rv u0, iv (0 : Int32), iv p2] [(.int (0 : Int32))]) tz
    refine XS.istoreN X1.here hx rfl (hb hby own_d24_31) rfl (l' := #[rv u0, iv (0 : Int32), iv p2]) rfl ?_
    show sT p e below T1 (mkF m 32 #[rv u0, iv (0 : Int32), iv p2] []) tz
    refine XS.aloadN X1.here hx rfl (hb hby own_d24_32) rfl rfl ?_
    show sT p e below T1 (mkF m 33 #[rv u0, iv (0 : Int32), iv p2] [(.ref u0)]) tz
    refine XS.iloadN X1.here hx rfl (hb hby own_d24_33) rfl ?_
    show sT p e below T1 (mkF m 34 #[rv u0, iv (0 : Int32), iv p2] [(.int (0 : Int32)), (.ref u0)]) tz
    refine XS.iinc X1.here hx rfl (hb hby own_d24_34) rfl (l' := #[rv u0, iv (1 : Int32), iv p2]) rfl ?_
    show sT p e below T1 (mkF m 37 #[rv u0, iv (1 : Int32), iv p2] [(.int (0 : Int32)), (.ref u0)]) tz
    refine XS.iloadN X1.here hx rfl (hb hby own_d24_37) rfl ?_
    exact kz
  obtain ⟨T2, X2, e2, st2⟩ := getS2 X1 hx hZ hown (host := "") (Or.inl (own_w hw 126 rfl)) Via.refl e1 (S_hi.ext O0.2) (g := (mkF m 38 #[rv u0, iv (1 : Int32), iv p2] [(.int p2), (.int (0 : Int32)), (.ref u0)])) rfl (hb hby own_d24_38)
  refine own_on (B := T2.setTop (mkF m 41 #[rv u0, iv (1 : Int32), iv p2] [(.int (0 : Int32)), (.int p2), (.int (0 : Int32)), (.ref u0)])) (fun tz kz => st2 _ kz) ?_
  refine own_on (B := T2.setTop (mkF m 43 #[rv u0, iv (1 : Int32), iv p2] [(.int ((p2 >>> ((0 : Int32) &&& 31)).toInt8.toInt32)), (.int (0 : Int32)), (.ref u0)])) (fun tz kz => ?_) ?_
  · show sT p e below T2 (mkF m 41 #[rv u0, iv (1 : Int32), iv p2] [(.int (0 : Int32)), (.int p2), (.int (0 : Int32)), (.ref u0)]) tz
    refine XS.ishr X2.here hx rfl (hb hby own_d24_41) rfl ?_
    show sT p e below T2 (mkF m 42 #[rv u0, iv (1 : Int32), iv p2] [(.int (p2 >>> ((0 : Int32) &&& 31))), (.int (0 : Int32)), (.ref u0)]) tz
    refine XS.i2b X2.here hx rfl (hb hby own_d24_42) rfl ?_
    exact kz
  obtain ⟨cl3, Ar3, q3, S3, M3, H3, G3⟩ := id Va
  have hin4 : ¬ ((0 : Int32) < 0 ∨ cl3.slots.size ≤ ((0 : Int32)).toNatClampNeg) := inb_of S3 ⟨by decide, Int32.lt_trans (by decide) hl⟩
  obtain ⟨T4, h4, X4, e4, W4, st4⟩ := stB X2 hx hZ e2 Ar3 (j := (0 : Int32)) hin4 (g := (mkF m 43 #[rv u0, iv (1 : Int32), iv p2] [(.int ((p2 >>> ((0 : Int32) &&& 31)).toInt8.toInt32)), (.int (0 : Int32)), (.ref u0)])) rfl rfl (hb hby own_d24_43)
  have V4 := Arv.set Ar3 q3 S3 M3 H3 G3 (fits_nar_byte _) W4 0 rfl (by omega)
  have N4 := Fr.snoc X4 N0 g_u0
  have O5 := O0.wr W4 g_u0
  have K5 : Keep h0 h4 [u0] := (Keep.refl h0 [u0]).wr W4 (Or.inl (List.mem_of_getElem? (i := 0) rfl))
  refine own_on (B := T4.setTop (mkF m 44 #[rv u0, iv (1 : Int32), iv p2] [])) (fun tz kz => st4 _ kz) ?_
  refine own_on (B := T4.setTop (mkF m 47 #[rv u0, iv (1 : Int32), iv p2] [(.int p2), (.int (1 : Int32)), (.ref u0)])) (fun tz kz => ?_) ?_
  · show sT p e below T4 (mkF m 44 #[rv u0, iv (1 : Int32), iv p2] []) tz
    refine XS.aloadN X4.here hx rfl (hb hby own_d24_44) rfl rfl ?_
    show sT p e below T4 (mkF m 45 #[rv u0, iv (1 : Int32), iv p2] [(.ref u0)]) tz
    refine XS.iloadN X4.here hx rfl (hb hby own_d24_45) rfl ?_
    show sT p e below T4 (mkF m 46 #[rv u0, iv (1 : Int32), iv p2] [(.int (1 : Int32)), (.ref u0)]) tz
    refine XS.iloadN X4.here hx rfl (hb hby own_d24_46) rfl ?_
    exact kz
  obtain ⟨T6, X6, e6, st6⟩ := getS2 X4 hx hZ hown (host := "") (Or.inl (own_w hw 127 rfl)) Via.refl e4 (S_lo.ext O5.2) (g := (mkF m 47 #[rv u0, iv (1 : Int32), iv p2] [(.int p2), (.int (1 : Int32)), (.ref u0)])) rfl (hb hby own_d24_47)
  refine own_on (B := T6.setTop (mkF m 50 #[rv u0, iv (1 : Int32), iv p2] [(.int (8 : Int32)), (.int p2), (.int (1 : Int32)), (.ref u0)])) (fun tz kz => st6 _ kz) ?_
  refine own_on (B := T6.setTop (mkF m 52 #[rv u0, iv (1 : Int32), iv p2] [(.int ((p2 >>> ((8 : Int32) &&& 31)).toInt8.toInt32)), (.int (1 : Int32)), (.ref u0)])) (fun tz kz => ?_) ?_
  · show sT p e below T6 (mkF m 50 #[rv u0, iv (1 : Int32), iv p2] [(.int (8 : Int32)), (.int p2), (.int (1 : Int32)), (.ref u0)]) tz
    refine XS.ishr X6.here hx rfl (hb hby own_d24_50) rfl ?_
    show sT p e below T6 (mkF m 51 #[rv u0, iv (1 : Int32), iv p2] [(.int (p2 >>> ((8 : Int32) &&& 31))), (.int (1 : Int32)), (.ref u0)]) tz
    refine XS.i2b X6.here hx rfl (hb hby own_d24_51) rfl ?_
    exact kz
  obtain ⟨cl7, Ar7, q7, S7, M7, H7, G7⟩ := id V4
  have hin8 : ¬ ((1 : Int32) < 0 ∨ cl7.slots.size ≤ ((1 : Int32)).toNatClampNeg) := inb_of S7 ⟨by decide, hl⟩
  obtain ⟨T8, h8, X8, e8, W8, st8⟩ := stB X6 hx hZ e6 Ar7 (j := (1 : Int32)) hin8 (g := (mkF m 52 #[rv u0, iv (1 : Int32), iv p2] [(.int ((p2 >>> ((8 : Int32) &&& 31)).toInt8.toInt32)), (.int (1 : Int32)), (.ref u0)])) rfl rfl (hb hby own_d24_52)
  have V8 := Arv.set Ar7 q7 S7 M7 H7 G7 (fits_nar_byte _) W8 1 rfl (by simpa using hv)
  have N8 := Fr.snoc X8 N4 g_u0
  have O9 := O5.wr W8 g_u0
  have K9 : Keep h0 h8 [u0] := K5.wr W8 (Or.inl (List.mem_of_getElem? (i := 0) rfl))
  refine own_on (B := T8.setTop (mkF m 53 #[rv u0, iv (1 : Int32), iv p2] [])) (fun tz kz => st8 _ kz) ?_
  obtain ⟨fs, hr, hrun, hended, hW, hsame⟩ := X8.leave (v := none) (fun _ => rfl)
  refine own_of ⟨_, _, ?_, hrun, hended, _, _, rfl, ?_, ⟨_, rfl⟩, hW, hsame.mono (by decide) (by decide)⟩
  · show sT p e below T8 (mkF m 53 #[rv u0, iv (1 : Int32), iv p2] []) _
    exact X8.returnOut hx Bd.returns (hb hby own_d24_53) hr
  · show Q24a Z u0 p2 kk ln vs h0 n0 _ T8.heap _
    rw [e8]
    exact ⟨rfl, N8, K9, V8⟩
theorem own_ef_25a (m : MethodId) (x0 : Addr) (x1 : Int32) : entryFrame m #[(.ref x0), (.int x1)] 2 = mkF m 0 #[rv x0, iv x1] [] := by first | (simp [entryFrame, mkF, argsToLocals, Value.category]; done) | rfl
def Q25a (Z : State) (u0 : Addr) (kk : ClassId) (ln : Int32) (vs : List Value) (x : Int32) (y : Int32) (rz : Int32) (h0 : Heap) (n0 : Nat) (v : Option Value) (h : Heap) (L : List Loc) : Prop := v = some (.int rz) ∧ Fr n0 L ∧ h = h0
theorem own_d25_0 : decode jdk_52_method_5_code 0 = .ok (.getstatic 44, 3) := by decide +kernel
theorem own_d25_3 : decode jdk_52_method_5_code 3 = .ok (.ifCond .ne 25, 3) := by decide +kernel
theorem own_d25_28 : decode jdk_52_method_5_code 28 = .ok (.iload_n 1, 1) := by decide +kernel
theorem own_d25_29 : decode jdk_52_method_5_code 29 = .ok (.iconst 1, 1) := by decide +kernel
theorem own_d25_30 : decode jdk_52_method_5_code 30 = .ok (.ishl, 1) := by decide +kernel
theorem own_d25_31 : decode jdk_52_method_5_code 31 = .ok (.istore_n 1, 1) := by decide +kernel
theorem own_d25_32 : decode jdk_52_method_5_code 32 = .ok (.aload_n 0, 1) := by decide +kernel
theorem own_d25_33 : decode jdk_52_method_5_code 33 = .ok (.iload_n 1, 1) := by decide +kernel
theorem own_d25_34 : decode jdk_52_method_5_code 34 = .ok (.iinc 1 1, 3) := by decide +kernel
theorem own_d25_37 : decode jdk_52_method_5_code 37 = .ok (.baload, 1) := by decide +kernel
theorem own_d25_38 : decode jdk_52_method_5_code 38 = .ok (.sipush 255, 3) := by decide +kernel
theorem own_d25_41 : decode jdk_52_method_5_code 41 = .ok (.iand, 1) := by decide +kernel
theorem own_d25_42 : decode jdk_52_method_5_code 42 = .ok (.getstatic 59, 3) := by decide +kernel
theorem own_d25_45 : decode jdk_52_method_5_code 45 = .ok (.ishl, 1) := by decide +kernel
theorem own_d25_46 : decode jdk_52_method_5_code 46 = .ok (.aload_n 0, 1) := by decide +kernel
theorem own_d25_47 : decode jdk_52_method_5_code 47 = .ok (.iload_n 1, 1) := by decide +kernel
theorem own_d25_48 : decode jdk_52_method_5_code 48 = .ok (.baload, 1) := by decide +kernel
theorem own_d25_49 : decode jdk_52_method_5_code 49 = .ok (.sipush 255, 3) := by decide +kernel
theorem own_d25_52 : decode jdk_52_method_5_code 52 = .ok (.iand, 1) := by decide +kernel
theorem own_d25_53 : decode jdk_52_method_5_code 53 = .ok (.getstatic 63, 3) := by decide +kernel
theorem own_d25_56 : decode jdk_52_method_5_code 56 = .ok (.ishl, 1) := by decide +kernel
theorem own_d25_57 : decode jdk_52_method_5_code 57 = .ok (.ior, 1) := by decide +kernel
theorem own_d25_58 : decode jdk_52_method_5_code 58 = .ok (.i2c, 1) := by decide +kernel
theorem own_d25_59 : decode jdk_52_method_5_code 59 = .ok (.ireturn, 1) := by decide +kernel
set_option maxRecDepth 65536 in
set_option maxHeartbeats 40000000 in
theorem rm25a (l : Launch) (Z : State) (a0 : Array Value) (hw : ∀ d ∈ tables_1, d.before a0 Z = true) (ws : List Jvm.Cond) (u0 : Addr) (kk : ClassId) (ln : Int32) (vs : List Value) (x : Int32) (y : Int32) (rz : Int32) (h0 : Heap) (n0 : Nat) (O0 : Old Z n0 h0) (S_as : Sta Z Z.heap "java/lang/StringUTF16" "$assertionsDisabled" "Z" (.int 1)) (S_hi : Sta Z Z.heap "java/lang/StringUTF16" "HI_BYTE_SHIFT" "I" (.int 0)) (S_lo : Sta Z Z.heap "java/lang/StringUTF16" "LO_BYTE_SHIFT" "I" (.int 8)) (Va : Arv Z h0 u0 kk .byte ln vs (.int 0)) (hl : (1 : Int32) < ln) (hx_ : vs.getD 0 (.int 0) = .int x) (hy_ : vs.getD 1 (.int 0) = .int y) (hrv : ((((x &&& (255 : Int32)) <<< ((0 : Int32) &&& 31)) ||| ((y &&& (255 : Int32)) <<< ((8 : Int32) &&& 31))).toUInt32.toUInt16.toUInt32.toInt32) = rz) (hnr : nar .char rz = rz) :
    MetFree l (⟨"java/lang/StringUTF16", "getChar", "([BI)C"⟩ : MethodName) (head1 (Jvm.Cond.code (⟨"java/lang/StringUTF16", "getChar", "([BI)C"⟩ : MethodName) jdk_52_method_5_code 2 (some .char) :: ws) ({ frames := 0, cells := 0, slots := 0, locals := 0 } : Room)) (fun a U => a = #[(.ref u0), (.int (0 : Int32))] ∧ Z.Warmed39 U.vm ∧ U.heap = h0) (fun _ _ _ _ _ => True) (fun _ U o U' => ∃ v L, o = .returned v ∧ Q25a Z u0 kk ln vs x y rz h0 n0 v U'.heap L ∧ FrameEnd U o U' L ({ frames := 0, cells := 0, slots := 0, locals := 0 } : Room).cells ({ frames := 0, cells := 0, slots := 0, locals := 0 } : Room).slots) := by
  refine MetFree.of_bodySF (plainFor_of_name own_pn_java_lang_StringUTF16) hisR ?_
  intro p e s m args below meth c s₁ Bd hml0 hP hK
  obtain ⟨rfl, hZ, hh⟩ := hP
  have hx := Bd.exec
  have hby := Bd.bytes
  have hml : c.maxLocals = 2 := hml0
  have hown : s.vm.findClass "java/lang/StringUTF16" = some m.cls := findClass_of_methodNamed Bd.named
  have hnm := (name_of_methodNamed Bd.named Bd.method).1
  have X0 : Stand p l e ({ frames := 0, cells := 0, slots := 0, locals := 0 } : Room) s m #[(.ref u0), (.int (0 : Int32))] below meth c s₁ [] 0 0 := Stand.of_body Bd
  have e0 : s₁.heap = h0 := by rw [← hh, Bd.state]; rfl
  have N0 := Fr.nil n0
  change Go p.tables e below _ _
  refine own_on (B := s₁.setTop (mkF m 0 #[rv u0, iv (0 : Int32)] [])) (fun tz kz => castTop (own_ef_25a m u0 (0 : Int32)) kz) ?_
  obtain ⟨T1, X1, e1, st1⟩ := getS2 X0 hx hZ hown (host := "") (Or.inl (own_w hw 125 rfl)) Via.refl e0 (S_as.ext O0.2) (g := (mkF m 0 #[rv u0, iv (0 : Int32)] [])) rfl (hb hby own_d25_0)
  refine own_on (B := T1.setTop (mkF m 3 #[rv u0, iv (0 : Int32)] [(.int (1 : Int32))])) (fun tz kz => st1 _ kz) ?_
  refine own_on (B := T1.setTop (mkF m 37 #[rv u0, iv (1 : Int32)] [(.int (0 : Int32)), (.ref u0)])) (fun tz kz => ?_) ?_
  · show sT p e below T1 (mkF m 3 #[rv u0, iv (0 : Int32)] [(.int (1 : Int32))]) tz
    refine XS.ifYes X1.here hx rfl (pc0 := 3) (pc' := 28) rfl (hb hby own_d25_3) rfl ((if0 _ _).trans (feq (by decide : ¬ ((1 : Int32) = (0 : Int32)))).2) (by decide) (by decide) ?_
    show sT p e below T1 (mkF m 28 #[rv u0, iv (0 : Int32)] []) tz
    refine XS.iloadN X1.here hx rfl (hb hby own_d25_28) rfl ?_
    show sT p e below T1 (mkF m 29 #[rv u0, iv (0 : Int32)] [(.int (0 : Int32))]) tz
    refine XS.iconst X1.here hx rfl (hb hby own_d25_29) ?_
    show sT p e below T1 (mkF m 30 #[rv u0, iv (0 : Int32)] [(.int (1 : Int32)), (.int (0 : Int32))]) tz
    refine XS.ishl X1.here hx rfl (hb hby own_d25_30) rfl ?_
    show sT p e below T1 (mkF m 31 #[rv u0, iv (0 : Int32)] [(.int (0 : Int32))]) tz
    refine XS.istoreN X1.here hx rfl (hb hby own_d25_31) rfl (l' := #[rv u0, iv (0 : Int32)]) rfl ?_
    show sT p e below T1 (mkF m 32 #[rv u0, iv (0 : Int32)] []) tz
    refine XS.aloadN X1.here hx rfl (hb hby own_d25_32) rfl rfl ?_
    show sT p e below T1 (mkF m 33 #[rv u0, iv (0 : Int32)] [(.ref u0)]) tz
    refine XS.iloadN X1.here hx rfl (hb hby own_d25_33) rfl ?_
    show sT p e below T1 (mkF m 34 #[rv u0, iv (0 : Int32)] [(.int (0 : Int32)), (.ref u0)]) tz
    refine XS.iinc X1.here hx rfl (hb hby own_d25_34) rfl (l' := #[rv u0, iv (1 : Int32)]) rfl ?_
    exact kz
  obtain ⟨cl2, Ar2, q2, S2, M2, H2, G2⟩ := id Va
  have hin3 : ¬ ((0 : Int32) < 0 ∨ cl2.slots.size ≤ ((0 : Int32)).toNatClampNeg) := inb_of S2 ⟨by decide, Int32.lt_trans (by decide) hl⟩
  have hat3 : cl2.slots[((0 : Int32)).toNatClampNeg]? = some (.int x) := Has.at H2 hin3 hx_
  refine own_on (B := T1.setTop (mkF m 42 #[rv u0, iv (1 : Int32)] [(.int (x &&& (255 : Int32)))])) (fun tz kz => ?_) ?_
  · show sT p e below T1 (mkF m 37 #[rv u0, iv (1 : Int32)] [(.int (0 : Int32)), (.ref u0)]) tz
    refine X1.baloadBytes hx (j := (0 : Int32)) (v := (.int x)) (by rw [e1]; exact Ar2.1) (State.isArrayOf_alike hZ.alike Ar2.2.1) Ar2.2.2 hin3 hat3 (g := (mkF m 37 #[rv u0, iv (1 : Int32)] [(.int (0 : Int32)), (.ref u0)])) rfl rfl (hb hby own_d25_37) _ ?_
    show sT p e below T1 (mkF m 38 #[rv u0, iv (1 : Int32)] [(.int x)]) tz
    refine XS.sipush X1.here hx rfl (hb hby own_d25_38) ?_
    show sT p e below T1 (mkF m 41 #[rv u0, iv (1 : Int32)] [(.int (255 : Int32)), (.int x)]) tz
    refine XS.iand X1.here hx rfl (hb hby own_d25_41) rfl ?_
    exact kz
  obtain ⟨T4, X4, e4, st4⟩ := getS2 X1 hx hZ hown (host := "") (Or.inl (own_w hw 126 rfl)) Via.refl e1 (S_hi.ext O0.2) (g := (mkF m 42 #[rv u0, iv (1 : Int32)] [(.int (x &&& (255 : Int32)))])) rfl (hb hby own_d25_42)
  refine own_on (B := T4.setTop (mkF m 45 #[rv u0, iv (1 : Int32)] [(.int (0 : Int32)), (.int (x &&& (255 : Int32)))])) (fun tz kz => st4 _ kz) ?_
  refine own_on (B := T4.setTop (mkF m 48 #[rv u0, iv (1 : Int32)] [(.int (1 : Int32)), (.ref u0), (.int ((x &&& (255 : Int32)) <<< ((0 : Int32) &&& 31)))])) (fun tz kz => ?_) ?_
  · show sT p e below T4 (mkF m 45 #[rv u0, iv (1 : Int32)] [(.int (0 : Int32)), (.int (x &&& (255 : Int32)))]) tz
    refine XS.ishl X4.here hx rfl (hb hby own_d25_45) rfl ?_
    show sT p e below T4 (mkF m 46 #[rv u0, iv (1 : Int32)] [(.int ((x &&& (255 : Int32)) <<< ((0 : Int32) &&& 31)))]) tz
    refine XS.aloadN X4.here hx rfl (hb hby own_d25_46) rfl rfl ?_
    show sT p e below T4 (mkF m 47 #[rv u0, iv (1 : Int32)] [(.ref u0), (.int ((x &&& (255 : Int32)) <<< ((0 : Int32) &&& 31)))]) tz
    refine XS.iloadN X4.here hx rfl (hb hby own_d25_47) rfl ?_
    exact kz
  obtain ⟨cl5, Ar5, q5, S5, M5, H5, G5⟩ := id Va
  have hin6 : ¬ ((1 : Int32) < 0 ∨ cl5.slots.size ≤ ((1 : Int32)).toNatClampNeg) := inb_of S5 ⟨by decide, hl⟩
  have hat6 : cl5.slots[((1 : Int32)).toNatClampNeg]? = some (.int y) := Has.at H5 hin6 hy_
  refine own_on (B := T4.setTop (mkF m 53 #[rv u0, iv (1 : Int32)] [(.int (y &&& (255 : Int32))), (.int ((x &&& (255 : Int32)) <<< ((0 : Int32) &&& 31)))])) (fun tz kz => ?_) ?_
  · show sT p e below T4 (mkF m 48 #[rv u0, iv (1 : Int32)] [(.int (1 : Int32)), (.ref u0), (.int ((x &&& (255 : Int32)) <<< ((0 : Int32) &&& 31)))]) tz
    refine X4.baloadBytes hx (j := (1 : Int32)) (v := (.int y)) (by rw [e4]; exact Ar5.1) (State.isArrayOf_alike hZ.alike Ar5.2.1) Ar5.2.2 hin6 hat6 (g := (mkF m 48 #[rv u0, iv (1 : Int32)] [(.int (1 : Int32)), (.ref u0), (.int ((x &&& (255 : Int32)) <<< ((0 : Int32) &&& 31)))])) rfl rfl (hb hby own_d25_48) _ ?_
    show sT p e below T4 (mkF m 49 #[rv u0, iv (1 : Int32)] [(.int y), (.int ((x &&& (255 : Int32)) <<< ((0 : Int32) &&& 31)))]) tz
    refine XS.sipush X4.here hx rfl (hb hby own_d25_49) ?_
    show sT p e below T4 (mkF m 52 #[rv u0, iv (1 : Int32)] [(.int (255 : Int32)), (.int y), (.int ((x &&& (255 : Int32)) <<< ((0 : Int32) &&& 31)))]) tz
    refine XS.iand X4.here hx rfl (hb hby own_d25_52) rfl ?_
    exact kz
  obtain ⟨T7, X7, e7, st7⟩ := getS2 X4 hx hZ hown (host := "") (Or.inl (own_w hw 127 rfl)) Via.refl e4 (S_lo.ext O0.2) (g := (mkF m 53 #[rv u0, iv (1 : Int32)] [(.int (y &&& (255 : Int32))), (.int ((x &&& (255 : Int32)) <<< ((0 : Int32) &&& 31)))])) rfl (hb hby own_d25_53)
  refine own_on (B := T7.setTop (mkF m 56 #[rv u0, iv (1 : Int32)] [(.int (8 : Int32)), (.int (y &&& (255 : Int32))), (.int ((x &&& (255 : Int32)) <<< ((0 : Int32) &&& 31)))])) (fun tz kz => st7 _ kz) ?_
  refine own_on (B := T7.setTop (mkF m 59 #[rv u0, iv (1 : Int32)] [(.int ((((x &&& (255 : Int32)) <<< ((0 : Int32) &&& 31)) ||| ((y &&& (255 : Int32)) <<< ((8 : Int32) &&& 31))).toUInt32.toUInt16.toUInt32.toInt32))])) (fun tz kz => ?_) ?_
  · show sT p e below T7 (mkF m 56 #[rv u0, iv (1 : Int32)] [(.int (8 : Int32)), (.int (y &&& (255 : Int32))), (.int ((x &&& (255 : Int32)) <<< ((0 : Int32) &&& 31)))]) tz
    refine XS.ishl X7.here hx rfl (hb hby own_d25_56) rfl ?_
    show sT p e below T7 (mkF m 57 #[rv u0, iv (1 : Int32)] [(.int ((y &&& (255 : Int32)) <<< ((8 : Int32) &&& 31))), (.int ((x &&& (255 : Int32)) <<< ((0 : Int32) &&& 31)))]) tz
    refine XS.ior X7.here hx rfl (hb hby own_d25_57) rfl ?_
    show sT p e below T7 (mkF m 58 #[rv u0, iv (1 : Int32)] [(.int (((x &&& (255 : Int32)) <<< ((0 : Int32) &&& 31)) ||| ((y &&& (255 : Int32)) <<< ((8 : Int32) &&& 31))))]) tz
    refine XS.i2c X7.here hx rfl (hb hby own_d25_58) rfl ?_
    exact kz
  rw [hrv]
  obtain ⟨fs, hr, hrun, hended, hW, hsame⟩ := X7.leave (v := some (.int rz)) (fun h => by rw [Bd.returns] at h; cases h)
  refine own_of ⟨_, _, ?_, hrun, hended, _, _, rfl, ?_, ⟨_, rfl⟩, hW, hsame.mono (by decide) (by decide)⟩
  · show sT p e below T7 (mkF m 59 #[rv u0, iv (1 : Int32)] [(.int rz)]) _
    exact own_retN X7 hx (t := .char) Bd.returns (by simp) hnr (hb hby own_d25_59) hr
  · show Q25a Z u0 kk ln vs x y rz h0 n0 _ T7.heap _
    rw [e7]
    exact ⟨rfl, N0, rfl⟩
theorem own_ef_24b (m : MethodId) (x0 : Addr) (x1 : Int32) (x2 : Int32) : entryFrame m #[(.ref x0), (.int x1), (.int x2)] 3 = mkF m 0 #[rv x0, iv x1, iv x2] [] := by first | (simp [entryFrame, mkF, argsToLocals, Value.category]; done) | rfl
def Q24b (Z : State) (u0 : Addr) (p2 : Int32) (kk : ClassId) (ln : Int32) (vs : List Value) (h0 : Heap) (n0 : Nat) (v : Option Value) (h : Heap) (L : List Loc) : Prop := v = none ∧ Fr n0 L ∧ Keep h0 h [u0] ∧ Arv Z h u0 kk .byte ln ((vs.set 2 (.int (nar .byte ((p2 >>> ((0 : Int32) &&& 31)).toInt8.toInt32)))).set 3 (.int (nar .byte ((p2 >>> ((8 : Int32) &&& 31)).toInt8.toInt32)))) (.int 0)
set_option maxRecDepth 65536 in
set_option maxHeartbeats 40000000 in
theorem rm24b (l : Launch) (Z : State) (a0 : Array Value) (hw : ∀ d ∈ tables_1, d.before a0 Z = true) (ws : List Jvm.Cond) (u0 : Addr) (p2 : Int32) (kk : ClassId) (ln : Int32) (vs : List Value) (h0 : Heap) (n0 : Nat) (O0 : Old Z n0 h0) (S_as : Sta Z Z.heap "java/lang/StringUTF16" "$assertionsDisabled" "Z" (.int 1)) (S_hi : Sta Z Z.heap "java/lang/StringUTF16" "HI_BYTE_SHIFT" "I" (.int 0)) (S_lo : Sta Z Z.heap "java/lang/StringUTF16" "LO_BYTE_SHIFT" "I" (.int 8)) (Va : Arv Z h0 u0 kk .byte ln vs (.int 0)) (g_u0 : n0 ≤ u0) (hl : (3 : Int32) < ln) (hv : 3 < vs.length) :
    MetFree l (⟨"java/lang/StringUTF16", "putChar", "([BII)V"⟩ : MethodName) (head1 (Jvm.Cond.code (⟨"java/lang/StringUTF16", "putChar", "([BII)V"⟩ : MethodName) jdk_52_method_4_code 3 none :: ws) ({ frames := 0, cells := 0, slots := 0, locals := 0 } : Room)) (fun a U => a = #[(.ref u0), (.int (1 : Int32)), (.int p2)] ∧ Z.Warmed39 U.vm ∧ U.heap = h0) (fun _ _ _ _ _ => True) (fun _ U o U' => ∃ v L, o = .returned v ∧ Q24b Z u0 p2 kk ln vs h0 n0 v U'.heap L ∧ FrameEnd U o U' L ({ frames := 0, cells := 0, slots := 0, locals := 0 } : Room).cells ({ frames := 0, cells := 0, slots := 0, locals := 0 } : Room).slots) := by
  refine MetFree.of_bodySF (plainFor_of_name own_pn_java_lang_StringUTF16) hisR ?_
  intro p e s m args below meth c s₁ Bd hml0 hP hK
  obtain ⟨rfl, hZ, hh⟩ := hP
  have hx := Bd.exec
  have hby := Bd.bytes
  have hml : c.maxLocals = 3 := hml0
  have hown : s.vm.findClass "java/lang/StringUTF16" = some m.cls := findClass_of_methodNamed Bd.named
  have hnm := (name_of_methodNamed Bd.named Bd.method).1
  have X0 : Stand p l e ({ frames := 0, cells := 0, slots := 0, locals := 0 } : Room) s m #[(.ref u0), (.int (1 : Int32)), (.int p2)] below meth c s₁ [] 0 0 := Stand.of_body Bd
  have e0 : s₁.heap = h0 := by rw [← hh, Bd.state]; rfl
  have N0 := Fr.nil n0
  change Go p.tables e below _ _
  refine own_on (B := s₁.setTop (mkF m 0 #[rv u0, iv (1 : Int32), iv p2] [])) (fun tz kz => castTop (own_ef_24b m u0 (1 : Int32) p2) kz) ?_
  obtain ⟨T1, X1, e1, st1⟩ := getS2 X0 hx hZ hown (host := "") (Or.inl (own_w hw 125 rfl)) Via.refl e0 (S_as.ext O0.2) (g := (mkF m 0 #[rv u0, iv (1 : Int32), iv p2] [])) rfl (hb hby own_d24_0)
  refine own_on (B := T1.setTop (mkF m 3 #[rv u0, iv (1 : Int32), iv p2] [(.int (1 : Int32))])) (fun tz kz => st1 _ kz) ?_
  refine own_on (B := T1.setTop (mkF m 38 #[rv u0, iv (3 : Int32), iv p2] [(.int p2), (.int (2 : Int32)), (.ref u0)])) (fun tz kz => ?_) ?_
  · show sT p e below T1 (mkF m 3 #[rv u0, iv (1 : Int32), iv p2] [(.int (1 : Int32))]) tz
    refine XS.ifYes X1.here hx rfl (pc0 := 3) (pc' := 28) rfl (hb hby own_d24_3) rfl ((if0 _ _).trans (feq (by decide : ¬ ((1 : Int32) = (0 : Int32)))).2) (by decide) (by decide) ?_
    show sT p e below T1 (mkF m 28 #[rv u0, iv (1 : Int32), iv p2] []) tz
    refine XS.iloadN X1.here hx rfl (hb hby own_d24_28) rfl ?_
    show sT p e below T1 (mkF m 29 #[rv u0, iv (1 : Int32), iv p2] [(.int (1 : Int32))]) tz
    refine XS.iconst X1.here hx rfl (hb hby own_d24_29) ?_
    show sT p e below T1 (mkF m 30 #[rv u0, iv (1 : Int32), iv p2] [(.int (1 : Int32)), (.int (1 : Int32))]) tz
    refine XS.ishl X1.here hx rfl (hb hby own_d24_30) rfl ?_
    show sT p e below T1 (mkF m 31 #[rv u0, iv (1 : Int32), iv p2] [(.int (2 : Int32))]) tz
    refine XS.istoreN X1.here hx rfl (hb hby own_d24_31) rfl (l' := #[rv u0, iv (2 : Int32), iv p2]) rfl ?_
    show sT p e below T1 (mkF m 32 #[rv u0, iv (2 : Int32), iv p2] []) tz
    refine XS.aloadN X1.here hx rfl (hb hby own_d24_32) rfl rfl ?_
    show sT p e below T1 (mkF m 33 #[rv u0, iv (2 : Int32), iv p2] [(.ref u0)]) tz
    refine XS.iloadN X1.here hx rfl (hb hby own_d24_33) rfl ?_
    show sT p e below T1 (mkF m 34 #[rv u0, iv (2 : Int32), iv p2] [(.int (2 : Int32)), (.ref u0)]) tz
    refine XS.iinc X1.here hx rfl (hb hby own_d24_34) rfl (l' := #[rv u0, iv (3 : Int32), iv p2]) rfl ?_
    show sT p e below T1 (mkF m 37 #[rv u0, iv (3 : Int32), iv p2] [(.int (2 : Int32)), (.ref u0)]) tz
    refine XS.iloadN X1.here hx rfl (hb hby own_d24_37) rfl ?_
    exact kz
  obtain ⟨T2, X2, e2, st2⟩ := getS2 X1 hx hZ hown (host := "") (Or.inl (own_w hw 126 rfl)) Via.refl e1 (S_hi.ext O0.2) (g := (mkF m 38 #[rv u0, iv (3 : Int32), iv p2] [(.int p2), (.int (2 : Int32)), (.ref u0)])) rfl (hb hby own_d24_38)
  refine own_on (B := T2.setTop (mkF m 41 #[rv u0, iv (3 : Int32), iv p2] [(.int (0 : Int32)), (.int p2), (.int (2 : Int32)), (.ref u0)])) (fun tz kz => st2 _ kz) ?_
  refine own_on (B := T2.setTop (mkF m 43 #[rv u0, iv (3 : Int32), iv p2] [(.int ((p2 >>> ((0 : Int32) &&& 31)).toInt8.toInt32)), (.int (2 : Int32)), (.ref u0)])) (fun tz kz => ?_) ?_
  · show sT p e below T2 (mkF m 41 #[rv u0, iv (3 : Int32), iv p2] [(.int (0 : Int32)), (.int p2), (.int (2 : Int32)), (.ref u0)]) tz
    refine XS.ishr X2.here hx rfl (hb hby own_d24_41) rfl ?_
    show sT p e below T2 (mkF m 42 #[rv u0, iv (3 : Int32), iv p2] [(.int (p2 >>> ((0 : Int32) &&& 31))), (.int (2 : Int32)), (.ref u0)]) tz
    refine XS.i2b X2.here hx rfl (hb hby own_d24_42) rfl ?_
    exact kz
  obtain ⟨cl3, Ar3, q3, S3, M3, H3, G3⟩ := id Va
  have hin4 : ¬ ((2 : Int32) < 0 ∨ cl3.slots.size ≤ ((2 : Int32)).toNatClampNeg) := inb_of S3 ⟨by decide, Int32.lt_trans (by decide) hl⟩
  obtain ⟨T4, h4, X4, e4, W4, st4⟩ := stB X2 hx hZ e2 Ar3 (j := (2 : Int32)) hin4 (g := (mkF m 43 #[rv u0, iv (3 : Int32), iv p2] [(.int ((p2 >>> ((0 : Int32) &&& 31)).toInt8.toInt32)), (.int (2 : Int32)), (.ref u0)])) rfl rfl (hb hby own_d24_43)
  have V4 := Arv.set Ar3 q3 S3 M3 H3 G3 (fits_nar_byte _) W4 2 rfl (by omega)
  have N4 := Fr.snoc X4 N0 g_u0
  have O5 := O0.wr W4 g_u0
  have K5 : Keep h0 h4 [u0] := (Keep.refl h0 [u0]).wr W4 (Or.inl (List.mem_of_getElem? (i := 0) rfl))
  refine own_on (B := T4.setTop (mkF m 44 #[rv u0, iv (3 : Int32), iv p2] [])) (fun tz kz => st4 _ kz) ?_
  refine own_on (B := T4.setTop (mkF m 47 #[rv u0, iv (3 : Int32), iv p2] [(.int p2), (.int (3 : Int32)), (.ref u0)])) (fun tz kz => ?_) ?_
  · show sT p e below T4 (mkF m 44 #[rv u0, iv (3 : Int32), iv p2] []) tz
    refine XS.aloadN X4.here hx rfl (hb hby own_d24_44) rfl rfl ?_
    show sT p e below T4 (mkF m 45 #[rv u0, iv (3 : Int32), iv p2] [(.ref u0)]) tz
    refine XS.iloadN X4.here hx rfl (hb hby own_d24_45) rfl ?_
    show sT p e below T4 (mkF m 46 #[rv u0, iv (3 : Int32), iv p2] [(.int (3 : Int32)), (.ref u0)]) tz
    refine XS.iloadN X4.here hx rfl (hb hby own_d24_46) rfl ?_
    exact kz
  obtain ⟨T6, X6, e6, st6⟩ := getS2 X4 hx hZ hown (host := "") (Or.inl (own_w hw 127 rfl)) Via.refl e4 (S_lo.ext O5.2) (g := (mkF m 47 #[rv u0, iv (3 : Int32), iv p2] [(.int p2), (.int (3 : Int32)), (.ref u0)])) rfl (hb hby own_d24_47)
  refine own_on (B := T6.setTop (mkF m 50 #[rv u0, iv (3 : Int32), iv p2] [(.int (8 : Int32)), (.int p2), (.int (3 : Int32)), (.ref u0)])) (fun tz kz => st6 _ kz) ?_
  refine own_on (B := T6.setTop (mkF m 52 #[rv u0, iv (3 : Int32), iv p2] [(.int ((p2 >>> ((8 : Int32) &&& 31)).toInt8.toInt32)), (.int (3 : Int32)), (.ref u0)])) (fun tz kz => ?_) ?_
  · show sT p e below T6 (mkF m 50 #[rv u0, iv (3 : Int32), iv p2] [(.int (8 : Int32)), (.int p2), (.int (3 : Int32)), (.ref u0)]) tz
    refine XS.ishr X6.here hx rfl (hb hby own_d24_50) rfl ?_
    show sT p e below T6 (mkF m 51 #[rv u0, iv (3 : Int32), iv p2] [(.int (p2 >>> ((8 : Int32) &&& 31))), (.int (3 : Int32)), (.ref u0)]) tz
    refine XS.i2b X6.here hx rfl (hb hby own_d24_51) rfl ?_
    exact kz
  obtain ⟨cl7, Ar7, q7, S7, M7, H7, G7⟩ := id V4
  have hin8 : ¬ ((3 : Int32) < 0 ∨ cl7.slots.size ≤ ((3 : Int32)).toNatClampNeg) := inb_of S7 ⟨by decide, hl⟩
  obtain ⟨T8, h8, X8, e8, W8, st8⟩ := stB X6 hx hZ e6 Ar7 (j := (3 : Int32)) hin8 (g := (mkF m 52 #[rv u0, iv (3 : Int32), iv p2] [(.int ((p2 >>> ((8 : Int32) &&& 31)).toInt8.toInt32)), (.int (3 : Int32)), (.ref u0)])) rfl rfl (hb hby own_d24_52)
  have V8 := Arv.set Ar7 q7 S7 M7 H7 G7 (fits_nar_byte _) W8 3 rfl (by simpa using hv)
  have N8 := Fr.snoc X8 N4 g_u0
  have O9 := O5.wr W8 g_u0
  have K9 : Keep h0 h8 [u0] := K5.wr W8 (Or.inl (List.mem_of_getElem? (i := 0) rfl))
  refine own_on (B := T8.setTop (mkF m 53 #[rv u0, iv (3 : Int32), iv p2] [])) (fun tz kz => st8 _ kz) ?_
  obtain ⟨fs, hr, hrun, hended, hW, hsame⟩ := X8.leave (v := none) (fun _ => rfl)
  refine own_of ⟨_, _, ?_, hrun, hended, _, _, rfl, ?_, ⟨_, rfl⟩, hW, hsame.mono (by decide) (by decide)⟩
  · show sT p e below T8 (mkF m 53 #[rv u0, iv (3 : Int32), iv p2] []) _
    exact X8.returnOut hx Bd.returns (hb hby own_d24_53) hr
  · show Q24b Z u0 p2 kk ln vs h0 n0 _ T8.heap _
    rw [e8]
    exact ⟨rfl, N8, K9, V8⟩
theorem own_ef_25b (m : MethodId) (x0 : Addr) (x1 : Int32) : entryFrame m #[(.ref x0), (.int x1)] 2 = mkF m 0 #[rv x0, iv x1] [] := by first | (simp [entryFrame, mkF, argsToLocals, Value.category]; done) | rfl
def Q25b (Z : State) (u0 : Addr) (kk : ClassId) (ln : Int32) (vs : List Value) (x : Int32) (y : Int32) (rz : Int32) (h0 : Heap) (n0 : Nat) (v : Option Value) (h : Heap) (L : List Loc) : Prop := v = some (.int rz) ∧ Fr n0 L ∧ h = h0
set_option maxRecDepth 65536 in
set_option maxHeartbeats 40000000 in
theorem rm25b (l : Launch) (Z : State) (a0 : Array Value) (hw : ∀ d ∈ tables_1, d.before a0 Z = true) (ws : List Jvm.Cond) (u0 : Addr) (kk : ClassId) (ln : Int32) (vs : List Value) (x : Int32) (y : Int32) (rz : Int32) (h0 : Heap) (n0 : Nat) (O0 : Old Z n0 h0) (S_as : Sta Z Z.heap "java/lang/StringUTF16" "$assertionsDisabled" "Z" (.int 1)) (S_hi : Sta Z Z.heap "java/lang/StringUTF16" "HI_BYTE_SHIFT" "I" (.int 0)) (S_lo : Sta Z Z.heap "java/lang/StringUTF16" "LO_BYTE_SHIFT" "I" (.int 8)) (Va : Arv Z h0 u0 kk .byte ln vs (.int 0)) (hl : (3 : Int32) < ln) (hx_ : vs.getD 2 (.int 0) = .int x) (hy_ : vs.getD 3 (.int 0) = .int y) (hrv : ((((x &&& (255 : Int32)) <<< ((0 : Int32) &&& 31)) ||| ((y &&& (255 : Int32)) <<< ((8 : Int32) &&& 31))).toUInt32.toUInt16.toUInt32.toInt32) = rz) (hnr : nar .char rz = rz) :
    MetFree l (⟨"java/lang/StringUTF16", "getChar", "([BI)C"⟩ : MethodName) (head1 (Jvm.Cond.code (⟨"java/lang/StringUTF16", "getChar", "([BI)C"⟩ : MethodName) jdk_52_method_5_code 2 (some .char) :: ws) ({ frames := 0, cells := 0, slots := 0, locals := 0 } : Room)) (fun a U => a = #[(.ref u0), (.int (1 : Int32))] ∧ Z.Warmed39 U.vm ∧ U.heap = h0) (fun _ _ _ _ _ => True) (fun _ U o U' => ∃ v L, o = .returned v ∧ Q25b Z u0 kk ln vs x y rz h0 n0 v U'.heap L ∧ FrameEnd U o U' L ({ frames := 0, cells := 0, slots := 0, locals := 0 } : Room).cells ({ frames := 0, cells := 0, slots := 0, locals := 0 } : Room).slots) := by
  refine MetFree.of_bodySF (plainFor_of_name own_pn_java_lang_StringUTF16) hisR ?_
  intro p e s m args below meth c s₁ Bd hml0 hP hK
  obtain ⟨rfl, hZ, hh⟩ := hP
  have hx := Bd.exec
  have hby := Bd.bytes
  have hml : c.maxLocals = 2 := hml0
  have hown : s.vm.findClass "java/lang/StringUTF16" = some m.cls := findClass_of_methodNamed Bd.named
  have hnm := (name_of_methodNamed Bd.named Bd.method).1
  have X0 : Stand p l e ({ frames := 0, cells := 0, slots := 0, locals := 0 } : Room) s m #[(.ref u0), (.int (1 : Int32))] below meth c s₁ [] 0 0 := Stand.of_body Bd
  have e0 : s₁.heap = h0 := by rw [← hh, Bd.state]; rfl
  have N0 := Fr.nil n0
  change Go p.tables e below _ _
  refine own_on (B := s₁.setTop (mkF m 0 #[rv u0, iv (1 : Int32)] [])) (fun tz kz => castTop (own_ef_25b m u0 (1 : Int32)) kz) ?_
  obtain ⟨T1, X1, e1, st1⟩ := getS2 X0 hx hZ hown (host := "") (Or.inl (own_w hw 125 rfl)) Via.refl e0 (S_as.ext O0.2) (g := (mkF m 0 #[rv u0, iv (1 : Int32)] [])) rfl (hb hby own_d25_0)
  refine own_on (B := T1.setTop (mkF m 3 #[rv u0, iv (1 : Int32)] [(.int (1 : Int32))])) (fun tz kz => st1 _ kz) ?_
  refine own_on (B := T1.setTop (mkF m 37 #[rv u0, iv (3 : Int32)] [(.int (2 : Int32)), (.ref u0)])) (fun tz kz => ?_) ?_
  · show sT p e below T1 (mkF m 3 #[rv u0, iv (1 : Int32)] [(.int (1 : Int32))]) tz
    refine XS.ifYes X1.here hx rfl (pc0 := 3) (pc' := 28) rfl (hb hby own_d25_3) rfl ((if0 _ _).trans (feq (by decide : ¬ ((1 : Int32) = (0 : Int32)))).2) (by decide) (by decide) ?_
    show sT p e below T1 (mkF m 28 #[rv u0, iv (1 : Int32)] []) tz
    refine XS.iloadN X1.here hx rfl (hb hby own_d25_28) rfl ?_
    show sT p e below T1 (mkF m 29 #[rv u0, iv (1 : Int32)] [(.int (1 : Int32))]) tz
    refine XS.iconst X1.here hx rfl (hb hby own_d25_29) ?_
    show sT p e below T1 (mkF m 30 #[rv u0, iv (1 : Int32)] [(.int (1 : Int32)), (.int (1 : Int32))]) tz
    refine XS.ishl X1.here hx rfl (hb hby own_d25_30) rfl ?_
    show sT p e below T1 (mkF m 31 #[rv u0, iv (1 : Int32)] [(.int (2 : Int32))]) tz
    refine XS.istoreN X1.here hx rfl (hb hby own_d25_31) rfl (l' := #[rv u0, iv (2 : Int32)]) rfl ?_
    show sT p e below T1 (mkF m 32 #[rv u0, iv (2 : Int32)] []) tz
    refine XS.aloadN X1.here hx rfl (hb hby own_d25_32) rfl rfl ?_
    show sT p e below T1 (mkF m 33 #[rv u0, iv (2 : Int32)] [(.ref u0)]) tz
    refine XS.iloadN X1.here hx rfl (hb hby own_d25_33) rfl ?_
    show sT p e below T1 (mkF m 34 #[rv u0, iv (2 : Int32)] [(.int (2 : Int32)), (.ref u0)]) tz
    refine XS.iinc X1.here hx rfl (hb hby own_d25_34) rfl (l' := #[rv u0, iv (3 : Int32)]) rfl ?_
    exact kz
  obtain ⟨cl2, Ar2, q2, S2, M2, H2, G2⟩ := id Va
  have hin3 : ¬ ((2 : Int32) < 0 ∨ cl2.slots.size ≤ ((2 : Int32)).toNatClampNeg) := inb_of S2 ⟨by decide, Int32.lt_trans (by decide) hl⟩
  have hat3 : cl2.slots[((2 : Int32)).toNatClampNeg]? = some (.int x) := Has.at H2 hin3 hx_
  refine own_on (B := T1.setTop (mkF m 42 #[rv u0, iv (3 : Int32)] [(.int (x &&& (255 : Int32)))])) (fun tz kz => ?_) ?_
  · show sT p e below T1 (mkF m 37 #[rv u0, iv (3 : Int32)] [(.int (2 : Int32)), (.ref u0)]) tz
    refine X1.baloadBytes hx (j := (2 : Int32)) (v := (.int x)) (by rw [e1]; exact Ar2.1) (State.isArrayOf_alike hZ.alike Ar2.2.1) Ar2.2.2 hin3 hat3 (g := (mkF m 37 #[rv u0, iv (3 : Int32)] [(.int (2 : Int32)), (.ref u0)])) rfl rfl (hb hby own_d25_37) _ ?_
    show sT p e below T1 (mkF m 38 #[rv u0, iv (3 : Int32)] [(.int x)]) tz
    refine XS.sipush X1.here hx rfl (hb hby own_d25_38) ?_
    show sT p e below T1 (mkF m 41 #[rv u0, iv (3 : Int32)] [(.int (255 : Int32)), (.int x)]) tz
    refine XS.iand X1.here hx rfl (hb hby own_d25_41) rfl ?_
    exact kz
  obtain ⟨T4, X4, e4, st4⟩ := getS2 X1 hx hZ hown (host := "") (Or.inl (own_w hw 126 rfl)) Via.refl e1 (S_hi.ext O0.2) (g := (mkF m 42 #[rv u0, iv (3 : Int32)] [(.int (x &&& (255 : Int32)))])) rfl (hb hby own_d25_42)
  refine own_on (B := T4.setTop (mkF m 45 #[rv u0, iv (3 : Int32)] [(.int (0 : Int32)), (.int (x &&& (255 : Int32)))])) (fun tz kz => st4 _ kz) ?_
  refine own_on (B := T4.setTop (mkF m 48 #[rv u0, iv (3 : Int32)] [(.int (3 : Int32)), (.ref u0), (.int ((x &&& (255 : Int32)) <<< ((0 : Int32) &&& 31)))])) (fun tz kz => ?_) ?_
  · show sT p e below T4 (mkF m 45 #[rv u0, iv (3 : Int32)] [(.int (0 : Int32)), (.int (x &&& (255 : Int32)))]) tz
    refine XS.ishl X4.here hx rfl (hb hby own_d25_45) rfl ?_
    show sT p e below T4 (mkF m 46 #[rv u0, iv (3 : Int32)] [(.int ((x &&& (255 : Int32)) <<< ((0 : Int32) &&& 31)))]) tz
    refine XS.aloadN X4.here hx rfl (hb hby own_d25_46) rfl rfl ?_
    show sT p e below T4 (mkF m 47 #[rv u0, iv (3 : Int32)] [(.ref u0), (.int ((x &&& (255 : Int32)) <<< ((0 : Int32) &&& 31)))]) tz
    refine XS.iloadN X4.here hx rfl (hb hby own_d25_47) rfl ?_
    exact kz
  obtain ⟨cl5, Ar5, q5, S5, M5, H5, G5⟩ := id Va
  have hin6 : ¬ ((3 : Int32) < 0 ∨ cl5.slots.size ≤ ((3 : Int32)).toNatClampNeg) := inb_of S5 ⟨by decide, hl⟩
  have hat6 : cl5.slots[((3 : Int32)).toNatClampNeg]? = some (.int y) := Has.at H5 hin6 hy_
  refine own_on (B := T4.setTop (mkF m 53 #[rv u0, iv (3 : Int32)] [(.int (y &&& (255 : Int32))), (.int ((x &&& (255 : Int32)) <<< ((0 : Int32) &&& 31)))])) (fun tz kz => ?_) ?_
  · show sT p e below T4 (mkF m 48 #[rv u0, iv (3 : Int32)] [(.int (3 : Int32)), (.ref u0), (.int ((x &&& (255 : Int32)) <<< ((0 : Int32) &&& 31)))]) tz
    refine X4.baloadBytes hx (j := (3 : Int32)) (v := (.int y)) (by rw [e4]; exact Ar5.1) (State.isArrayOf_alike hZ.alike Ar5.2.1) Ar5.2.2 hin6 hat6 (g := (mkF m 48 #[rv u0, iv (3 : Int32)] [(.int (3 : Int32)), (.ref u0), (.int ((x &&& (255 : Int32)) <<< ((0 : Int32) &&& 31)))])) rfl rfl (hb hby own_d25_48) _ ?_
    show sT p e below T4 (mkF m 49 #[rv u0, iv (3 : Int32)] [(.int y), (.int ((x &&& (255 : Int32)) <<< ((0 : Int32) &&& 31)))]) tz
    refine XS.sipush X4.here hx rfl (hb hby own_d25_49) ?_
    show sT p e below T4 (mkF m 52 #[rv u0, iv (3 : Int32)] [(.int (255 : Int32)), (.int y), (.int ((x &&& (255 : Int32)) <<< ((0 : Int32) &&& 31)))]) tz
    refine XS.iand X4.here hx rfl (hb hby own_d25_52) rfl ?_
    exact kz
  obtain ⟨T7, X7, e7, st7⟩ := getS2 X4 hx hZ hown (host := "") (Or.inl (own_w hw 127 rfl)) Via.refl e4 (S_lo.ext O0.2) (g := (mkF m 53 #[rv u0, iv (3 : Int32)] [(.int (y &&& (255 : Int32))), (.int ((x &&& (255 : Int32)) <<< ((0 : Int32) &&& 31)))])) rfl (hb hby own_d25_53)
  refine own_on (B := T7.setTop (mkF m 56 #[rv u0, iv (3 : Int32)] [(.int (8 : Int32)), (.int (y &&& (255 : Int32))), (.int ((x &&& (255 : Int32)) <<< ((0 : Int32) &&& 31)))])) (fun tz kz => st7 _ kz) ?_
  refine own_on (B := T7.setTop (mkF m 59 #[rv u0, iv (3 : Int32)] [(.int ((((x &&& (255 : Int32)) <<< ((0 : Int32) &&& 31)) ||| ((y &&& (255 : Int32)) <<< ((8 : Int32) &&& 31))).toUInt32.toUInt16.toUInt32.toInt32))])) (fun tz kz => ?_) ?_
  · show sT p e below T7 (mkF m 56 #[rv u0, iv (3 : Int32)] [(.int (8 : Int32)), (.int (y &&& (255 : Int32))), (.int ((x &&& (255 : Int32)) <<< ((0 : Int32) &&& 31)))]) tz
    refine XS.ishl X7.here hx rfl (hb hby own_d25_56) rfl ?_
    show sT p e below T7 (mkF m 57 #[rv u0, iv (3 : Int32)] [(.int ((y &&& (255 : Int32)) <<< ((8 : Int32) &&& 31))), (.int ((x &&& (255 : Int32)) <<< ((0 : Int32) &&& 31)))]) tz
    refine XS.ior X7.here hx rfl (hb hby own_d25_57) rfl ?_
    show sT p e below T7 (mkF m 58 #[rv u0, iv (3 : Int32)] [(.int (((x &&& (255 : Int32)) <<< ((0 : Int32) &&& 31)) ||| ((y &&& (255 : Int32)) <<< ((8 : Int32) &&& 31))))]) tz
    refine XS.i2c X7.here hx rfl (hb hby own_d25_58) rfl ?_
    exact kz
  rw [hrv]
  obtain ⟨fs, hr, hrun, hended, hW, hsame⟩ := X7.leave (v := some (.int rz)) (fun h => by rw [Bd.returns] at h; cases h)
  refine own_of ⟨_, _, ?_, hrun, hended, _, _, rfl, ?_, ⟨_, rfl⟩, hW, hsame.mono (by decide) (by decide)⟩
  · show sT p e below T7 (mkF m 59 #[rv u0, iv (3 : Int32)] [(.int rz)]) _
    exact own_retN X7 hx (t := .char) Bd.returns (by simp) hnr (hb hby own_d25_59) hr
  · show Q25b Z u0 kk ln vs x y rz h0 n0 _ T7.heap _
    rw [e7]
    exact ⟨rfl, N0, rfl⟩
theorem own_ef_24c (m : MethodId) (x0 : Addr) (x1 : Int32) (x2 : Int32) : entryFrame m #[(.ref x0), (.int x1), (.int x2)] 3 = mkF m 0 #[rv x0, iv x1, iv x2] [] := by first | (simp [entryFrame, mkF, argsToLocals, Value.category]; done) | rfl
def Q24c (Z : State) (u0 : Addr) (p2 : Int32) (kk : ClassId) (ln : Int32) (vs : List Value) (h0 : Heap) (n0 : Nat) (v : Option Value) (h : Heap) (L : List Loc) : Prop := v = none ∧ Fr n0 L ∧ Keep h0 h [u0] ∧ Arv Z h u0 kk .byte ln ((vs.set 4 (.int (nar .byte ((p2 >>> ((0 : Int32) &&& 31)).toInt8.toInt32)))).set 5 (.int (nar .byte ((p2 >>> ((8 : Int32) &&& 31)).toInt8.toInt32)))) (.int 0)
set_option maxRecDepth 65536 in
set_option maxHeartbeats 40000000 in
theorem rm24c (l : Launch) (Z : State) (a0 : Array Value) (hw : ∀ d ∈ tables_1, d.before a0 Z = true) (ws : List Jvm.Cond) (u0 : Addr) (p2 : Int32) (kk : ClassId) (ln : Int32) (vs : List Value) (h0 : Heap) (n0 : Nat) (O0 : Old Z n0 h0) (S_as : Sta Z Z.heap "java/lang/StringUTF16" "$assertionsDisabled" "Z" (.int 1)) (S_hi : Sta Z Z.heap "java/lang/StringUTF16" "HI_BYTE_SHIFT" "I" (.int 0)) (S_lo : Sta Z Z.heap "java/lang/StringUTF16" "LO_BYTE_SHIFT" "I" (.int 8)) (Va : Arv Z h0 u0 kk .byte ln vs (.int 0)) (g_u0 : n0 ≤ u0) (hl : (5 : Int32) < ln) (hv : 5 < vs.length) :
    MetFree l (⟨"java/lang/StringUTF16", "putChar", "([BII)V"⟩ : MethodName) (head1 (Jvm.Cond.code (⟨"java/lang/StringUTF16", "putChar", "([BII)V"⟩ : MethodName) jdk_52_method_4_code 3 none :: ws) ({ frames := 0, cells := 0, slots := 0, locals := 0 } : Room)) (fun a U => a = #[(.ref u0), (.int (2 : Int32)), (.int p2)] ∧ Z.Warmed39 U.vm ∧ U.heap = h0) (fun _ _ _ _ _ => True) (fun _ U o U' => ∃ v L, o = .returned v ∧ Q24c Z u0 p2 kk ln vs h0 n0 v U'.heap L ∧ FrameEnd U o U' L ({ frames := 0, cells := 0, slots := 0, locals := 0 } : Room).cells ({ frames := 0, cells := 0, slots := 0, locals := 0 } : Room).slots) := by
  refine MetFree.of_bodySF (plainFor_of_name own_pn_java_lang_StringUTF16) hisR ?_
  intro p e s m args below meth c s₁ Bd hml0 hP hK
  obtain ⟨rfl, hZ, hh⟩ := hP
  have hx := Bd.exec
  have hby := Bd.bytes
  have hml : c.maxLocals = 3 := hml0
  have hown : s.vm.findClass "java/lang/StringUTF16" = some m.cls := findClass_of_methodNamed Bd.named
  have hnm := (name_of_methodNamed Bd.named Bd.method).1
  have X0 : Stand p l e ({ frames := 0, cells := 0, slots := 0, locals := 0 } : Room) s m #[(.ref u0), (.int (2 : Int32)), (.int p2)] below meth c s₁ [] 0 0 := Stand.of_body Bd
  have e0 : s₁.heap = h0 := by rw [← hh, Bd.state]; rfl
  have N0 := Fr.nil n0
  change Go p.tables e below _ _
  refine own_on (B := s₁.setTop (mkF m 0 #[rv u0, iv (2 : Int32), iv p2] [])) (fun tz kz => castTop (own_ef_24c m u0 (2 : Int32) p2) kz) ?_
  obtain ⟨T1, X1, e1, st1⟩ := getS2 X0 hx hZ hown (host := "") (Or.inl (own_w hw 125 rfl)) Via.refl e0 (S_as.ext O0.2) (g := (mkF m 0 #[rv u0, iv (2 : Int32), iv p2] [])) rfl (hb hby own_d24_0)
  refine own_on (B := T1.setTop (mkF m 3 #[rv u0, iv (2 : Int32), iv p2] [(.int (1 : Int32))])) (fun tz kz => st1 _ kz) ?_
  refine own_on (B := T1.setTop (mkF m 38 #[rv u0, iv (5 : Int32), iv p2] [(.int p2), (.int (4 : Int32)), (.ref u0)])) (fun tz kz => ?_) ?_
  · show sT p e below T1 (mkF m 3 #[rv u0, iv (2 : Int32), iv p2] [(.int (1 : Int32))]) tz
    refine XS.ifYes X1.here hx rfl (pc0 := 3) (pc' := 28) rfl (hb hby own_d24_3) rfl ((if0 _ _).trans (feq (by decide : ¬ ((1 : Int32) = (0 : Int32)))).2) (by decide) (by decide) ?_
    show sT p e below T1 (mkF m 28 #[rv u0, iv (2 : Int32), iv p2] []) tz
    refine XS.iloadN X1.here hx rfl (hb hby own_d24_28) rfl ?_
    show sT p e below T1 (mkF m 29 #[rv u0, iv (2 : Int32), iv p2] [(.int (2 : Int32))]) tz
    refine XS.iconst X1.here hx rfl (hb hby own_d24_29) ?_
    show sT p e below T1 (mkF m 30 #[rv u0, iv (2 : Int32), iv p2] [(.int (1 : Int32)), (.int (2 : Int32))]) tz
    refine XS.ishl X1.here hx rfl (hb hby own_d24_30) rfl ?_
    show sT p e below T1 (mkF m 31 #[rv u0, iv (2 : Int32), iv p2] [(.int (4 : Int32))]) tz
    refine XS.istoreN X1.here hx rfl (hb hby own_d24_31) rfl (l' := #[rv u0, iv (4 : Int32), iv p2]) rfl ?_
    show sT p e below T1 (mkF m 32 #[rv u0, iv (4 : Int32), iv p2] []) tz
    refine XS.aloadN X1.here hx rfl (hb hby own_d24_32) rfl rfl ?_
    show sT p e below T1 (mkF m 33 #[rv u0, iv (4 : Int32), iv p2] [(.ref u0)]) tz
    refine XS.iloadN X1.here hx rfl (hb hby own_d24_33) rfl ?_
    show sT p e below T1 (mkF m 34 #[rv u0, iv (4 : Int32), iv p2] [(.int (4 : Int32)), (.ref u0)]) tz
    refine XS.iinc X1.here hx rfl (hb hby own_d24_34) rfl (l' := #[rv u0, iv (5 : Int32), iv p2]) rfl ?_
    show sT p e below T1 (mkF m 37 #[rv u0, iv (5 : Int32), iv p2] [(.int (4 : Int32)), (.ref u0)]) tz
    refine XS.iloadN X1.here hx rfl (hb hby own_d24_37) rfl ?_
    exact kz
  obtain ⟨T2, X2, e2, st2⟩ := getS2 X1 hx hZ hown (host := "") (Or.inl (own_w hw 126 rfl)) Via.refl e1 (S_hi.ext O0.2) (g := (mkF m 38 #[rv u0, iv (5 : Int32), iv p2] [(.int p2), (.int (4 : Int32)), (.ref u0)])) rfl (hb hby own_d24_38)
  refine own_on (B := T2.setTop (mkF m 41 #[rv u0, iv (5 : Int32), iv p2] [(.int (0 : Int32)), (.int p2), (.int (4 : Int32)), (.ref u0)])) (fun tz kz => st2 _ kz) ?_
  refine own_on (B := T2.setTop (mkF m 43 #[rv u0, iv (5 : Int32), iv p2] [(.int ((p2 >>> ((0 : Int32) &&& 31)).toInt8.toInt32)), (.int (4 : Int32)), (.ref u0)])) (fun tz kz => ?_) ?_
  · show sT p e below T2 (mkF m 41 #[rv u0, iv (5 : Int32), iv p2] [(.int (0 : Int32)), (.int p2), (.int (4 : Int32)), (.ref u0)]) tz
    refine XS.ishr X2.here hx rfl (hb hby own_d24_41) rfl ?_
    show sT p e below T2 (mkF m 42 #[rv u0, iv (5 : Int32), iv p2] [(.int (p2 >>> ((0 : Int32) &&& 31))), (.int (4 : Int32)), (.ref u0)]) tz
    refine XS.i2b X2.here hx rfl (hb hby own_d24_42) rfl ?_
    exact kz
  obtain ⟨cl3, Ar3, q3, S3, M3, H3, G3⟩ := id Va
  have hin4 : ¬ ((4 : Int32) < 0 ∨ cl3.slots.size ≤ ((4 : Int32)).toNatClampNeg) := inb_of S3 ⟨by decide, Int32.lt_trans (by decide) hl⟩
  obtain ⟨T4, h4, X4, e4, W4, st4⟩ := stB X2 hx hZ e2 Ar3 (j := (4 : Int32)) hin4 (g := (mkF m 43 #[rv u0, iv (5 : Int32), iv p2] [(.int ((p2 >>> ((0 : Int32) &&& 31)).toInt8.toInt32)), (.int (4 : Int32)), (.ref u0)])) rfl rfl (hb hby own_d24_43)
  have V4 := Arv.set Ar3 q3 S3 M3 H3 G3 (fits_nar_byte _) W4 4 rfl (by omega)
  have N4 := Fr.snoc X4 N0 g_u0
  have O5 := O0.wr W4 g_u0
  have K5 : Keep h0 h4 [u0] := (Keep.refl h0 [u0]).wr W4 (Or.inl (List.mem_of_getElem? (i := 0) rfl))
  refine own_on (B := T4.setTop (mkF m 44 #[rv u0, iv (5 : Int32), iv p2] [])) (fun tz kz => st4 _ kz) ?_
  refine own_on (B := T4.setTop (mkF m 47 #[rv u0, iv (5 : Int32), iv p2] [(.int p2), (.int (5 : Int32)), (.ref u0)])) (fun tz kz => ?_) ?_
  · show sT p e below T4 (mkF m 44 #[rv u0, iv (5 : Int32), iv p2] []) tz
    refine XS.aloadN X4.here hx rfl (hb hby own_d24_44) rfl rfl ?_
    show sT p e below T4 (mkF m 45 #[rv u0, iv (5 : Int32), iv p2] [(.ref u0)]) tz
    refine XS.iloadN X4.here hx rfl (hb hby own_d24_45) rfl ?_
    show sT p e below T4 (mkF m 46 #[rv u0, iv (5 : Int32), iv p2] [(.int (5 : Int32)), (.ref u0)]) tz
    refine XS.iloadN X4.here hx rfl (hb hby own_d24_46) rfl ?_
    exact kz
  obtain ⟨T6, X6, e6, st6⟩ := getS2 X4 hx hZ hown (host := "") (Or.inl (own_w hw 127 rfl)) Via.refl e4 (S_lo.ext O5.2) (g := (mkF m 47 #[rv u0, iv (5 : Int32), iv p2] [(.int p2), (.int (5 : Int32)), (.ref u0)])) rfl (hb hby own_d24_47)
  refine own_on (B := T6.setTop (mkF m 50 #[rv u0, iv (5 : Int32), iv p2] [(.int (8 : Int32)), (.int p2), (.int (5 : Int32)), (.ref u0)])) (fun tz kz => st6 _ kz) ?_
  refine own_on (B := T6.setTop (mkF m 52 #[rv u0, iv (5 : Int32), iv p2] [(.int ((p2 >>> ((8 : Int32) &&& 31)).toInt8.toInt32)), (.int (5 : Int32)), (.ref u0)])) (fun tz kz => ?_) ?_
  · show sT p e below T6 (mkF m 50 #[rv u0, iv (5 : Int32), iv p2] [(.int (8 : Int32)), (.int p2), (.int (5 : Int32)), (.ref u0)]) tz
    refine XS.ishr X6.here hx rfl (hb hby own_d24_50) rfl ?_
    show sT p e below T6 (mkF m 51 #[rv u0, iv (5 : Int32), iv p2] [(.int (p2 >>> ((8 : Int32) &&& 31))), (.int (5 : Int32)), (.ref u0)]) tz
    refine XS.i2b X6.here hx rfl (hb hby own_d24_51) rfl ?_
    exact kz
  obtain ⟨cl7, Ar7, q7, S7, M7, H7, G7⟩ := id V4
  have hin8 : ¬ ((5 : Int32) < 0 ∨ cl7.slots.size ≤ ((5 : Int32)).toNatClampNeg) := inb_of S7 ⟨by decide, hl⟩
  obtain ⟨T8, h8, X8, e8, W8, st8⟩ := stB X6 hx hZ e6 Ar7 (j := (5 : Int32)) hin8 (g := (mkF m 52 #[rv u0, iv (5 : Int32), iv p2] [(.int ((p2 >>> ((8 : Int32) &&& 31)).toInt8.toInt32)), (.int (5 : Int32)), (.ref u0)])) rfl rfl (hb hby own_d24_52)
  have V8 := Arv.set Ar7 q7 S7 M7 H7 G7 (fits_nar_byte _) W8 5 rfl (by simpa using hv)
  have N8 := Fr.snoc X8 N4 g_u0
  have O9 := O5.wr W8 g_u0
  have K9 : Keep h0 h8 [u0] := K5.wr W8 (Or.inl (List.mem_of_getElem? (i := 0) rfl))
  refine own_on (B := T8.setTop (mkF m 53 #[rv u0, iv (5 : Int32), iv p2] [])) (fun tz kz => st8 _ kz) ?_
  obtain ⟨fs, hr, hrun, hended, hW, hsame⟩ := X8.leave (v := none) (fun _ => rfl)
  refine own_of ⟨_, _, ?_, hrun, hended, _, _, rfl, ?_, ⟨_, rfl⟩, hW, hsame.mono (by decide) (by decide)⟩
  · show sT p e below T8 (mkF m 53 #[rv u0, iv (5 : Int32), iv p2] []) _
    exact X8.returnOut hx Bd.returns (hb hby own_d24_53) hr
  · show Q24c Z u0 p2 kk ln vs h0 n0 _ T8.heap _
    rw [e8]
    exact ⟨rfl, N8, K9, V8⟩
theorem own_ef_25c (m : MethodId) (x0 : Addr) (x1 : Int32) : entryFrame m #[(.ref x0), (.int x1)] 2 = mkF m 0 #[rv x0, iv x1] [] := by first | (simp [entryFrame, mkF, argsToLocals, Value.category]; done) | rfl
def Q25c (Z : State) (u0 : Addr) (kk : ClassId) (ln : Int32) (vs : List Value) (x : Int32) (y : Int32) (rz : Int32) (h0 : Heap) (n0 : Nat) (v : Option Value) (h : Heap) (L : List Loc) : Prop := v = some (.int rz) ∧ Fr n0 L ∧ h = h0
set_option maxRecDepth 65536 in
set_option maxHeartbeats 40000000 in
theorem rm25c (l : Launch) (Z : State) (a0 : Array Value) (hw : ∀ d ∈ tables_1, d.before a0 Z = true) (ws : List Jvm.Cond) (u0 : Addr) (kk : ClassId) (ln : Int32) (vs : List Value) (x : Int32) (y : Int32) (rz : Int32) (h0 : Heap) (n0 : Nat) (O0 : Old Z n0 h0) (S_as : Sta Z Z.heap "java/lang/StringUTF16" "$assertionsDisabled" "Z" (.int 1)) (S_hi : Sta Z Z.heap "java/lang/StringUTF16" "HI_BYTE_SHIFT" "I" (.int 0)) (S_lo : Sta Z Z.heap "java/lang/StringUTF16" "LO_BYTE_SHIFT" "I" (.int 8)) (Va : Arv Z h0 u0 kk .byte ln vs (.int 0)) (hl : (5 : Int32) < ln) (hx_ : vs.getD 4 (.int 0) = .int x) (hy_ : vs.getD 5 (.int 0) = .int y) (hrv : ((((x &&& (255 : Int32)) <<< ((0 : Int32) &&& 31)) ||| ((y &&& (255 : Int32)) <<< ((8 : Int32) &&& 31))).toUInt32.toUInt16.toUInt32.toInt32) = rz) (hnr : nar .char rz = rz) :
    MetFree l (⟨"java/lang/StringUTF16", "getChar", "([BI)C"⟩ : MethodName) (head1 (Jvm.Cond.code (⟨"java/lang/StringUTF16", "getChar", "([BI)C"⟩ : MethodName) jdk_52_method_5_code 2 (some .char) :: ws) ({ frames := 0, cells := 0, slots := 0, locals := 0 } : Room)) (fun a U => a = #[(.ref u0), (.int (2 : Int32))] ∧ Z.Warmed39 U.vm ∧ U.heap = h0) (fun _ _ _ _ _ => True) (fun _ U o U' => ∃ v L, o = .returned v ∧ Q25c Z u0 kk ln vs x y rz h0 n0 v U'.heap L ∧ FrameEnd U o U' L ({ frames := 0, cells := 0, slots := 0, locals := 0 } : Room).cells ({ frames := 0, cells := 0, slots := 0, locals := 0 } : Room).slots) := by
  refine MetFree.of_bodySF (plainFor_of_name own_pn_java_lang_StringUTF16) hisR ?_
  intro p e s m args below meth c s₁ Bd hml0 hP hK
  obtain ⟨rfl, hZ, hh⟩ := hP
  have hx := Bd.exec
  have hby := Bd.bytes
  have hml : c.maxLocals = 2 := hml0
  have hown : s.vm.findClass "java/lang/StringUTF16" = some m.cls := findClass_of_methodNamed Bd.named
  have hnm := (name_of_methodNamed Bd.named Bd.method).1
  have X0 : Stand p l e ({ frames := 0, cells := 0, slots := 0, locals := 0 } : Room) s m #[(.ref u0), (.int (2 : Int32))] below meth c s₁ [] 0 0 := Stand.of_body Bd
  have e0 : s₁.heap = h0 := by rw [← hh, Bd.state]; rfl
  have N0 := Fr.nil n0
  change Go p.tables e below _ _
  refine own_on (B := s₁.setTop (mkF m 0 #[rv u0, iv (2 : Int32)] [])) (fun tz kz => castTop (own_ef_25c m u0 (2 : Int32)) kz) ?_
  obtain ⟨T1, X1, e1, st1⟩ := getS2 X0 hx hZ hown (host := "") (Or.inl (own_w hw 125 rfl)) Via.refl e0 (S_as.ext O0.2) (g := (mkF m 0 #[rv u0, iv (2 : Int32)] [])) rfl (hb hby own_d25_0)
  refine own_on (B := T1.setTop (mkF m 3 #[rv u0, iv (2 : Int32)] [(.int (1 : Int32))])) (fun tz kz => st1 _ kz) ?_
  refine own_on (B := T1.setTop (mkF m 37 #[rv u0, iv (5 : Int32)] [(.int (4 : Int32)), (.ref u0)])) (fun tz kz => ?_) ?_
  · show sT p e below T1 (mkF m 3 #[rv u0, iv (2 : Int32)] [(.int (1 : Int32))]) tz
    refine XS.ifYes X1.here hx rfl (pc0 := 3) (pc' := 28) rfl (hb hby own_d25_3) rfl ((if0 _ _).trans (feq (by decide : ¬ ((1 : Int32) = (0 : Int32)))).2) (by decide) (by decide) ?_
    show sT p e below T1 (mkF m 28 #[rv u0, iv (2 : Int32)] []) tz
    refine XS.iloadN X1.here hx rfl (hb hby own_d25_28) rfl ?_
    show sT p e below T1 (mkF m 29 #[rv u0, iv (2 : Int32)] [(.int (2 : Int32))]) tz
    refine XS.iconst X1.here hx rfl (hb hby own_d25_29) ?_
    show sT p e below T1 (mkF m 30 #[rv u0, iv (2 : Int32)] [(.int (1 : Int32)), (.int (2 : Int32))]) tz
    refine XS.ishl X1.here hx rfl (hb hby own_d25_30) rfl ?_
    show sT p e below T1 (mkF m 31 #[rv u0, iv (2 : Int32)] [(.int (4 : Int32))]) tz
    refine XS.istoreN X1.here hx rfl (hb hby own_d25_31) rfl (l' := #[rv u0, iv (4 : Int32)]) rfl ?_
    show sT p e below T1 (mkF m 32 #[rv u0, iv (4 : Int32)] []) tz
    refine XS.aloadN X1.here hx rfl (hb hby own_d25_32) rfl rfl ?_
    show sT p e below T1 (mkF m 33 #[rv u0, iv (4 : Int32)] [(.ref u0)]) tz
    refine XS.iloadN X1.here hx rfl (hb hby own_d25_33) rfl ?_
    show sT p e below T1 (mkF m 34 #[rv u0, iv (4 : Int32)] [(.int (4 : Int32)), (.ref u0)]) tz
    refine XS.iinc X1.here hx rfl (hb hby own_d25_34) rfl (l' := #[rv u0, iv (5 : Int32)]) rfl ?_
    exact kz
  obtain ⟨cl2, Ar2, q2, S2, M2, H2, G2⟩ := id Va
  have hin3 : ¬ ((4 : Int32) < 0 ∨ cl2.slots.size ≤ ((4 : Int32)).toNatClampNeg) := inb_of S2 ⟨by decide, Int32.lt_trans (by decide) hl⟩
  have hat3 : cl2.slots[((4 : Int32)).toNatClampNeg]? = some (.int x) := Has.at H2 hin3 hx_
  refine own_on (B := T1.setTop (mkF m 42 #[rv u0, iv (5 : Int32)] [(.int (x &&& (255 : Int32)))])) (fun tz kz => ?_) ?_
  · show sT p e below T1 (mkF m 37 #[rv u0, iv (5 : Int32)] [(.int (4 : Int32)), (.ref u0)]) tz
    refine X1.baloadBytes hx (j := (4 : Int32)) (v := (.int x)) (by rw [e1]; exact Ar2.1) (State.isArrayOf_alike hZ.alike Ar2.2.1) Ar2.2.2 hin3 hat3 (g := (mkF m 37 #[rv u0, iv (5 : Int32)] [(.int (4 : Int32)), (.ref u0)])) rfl rfl (hb hby own_d25_37) _ ?_
    show sT p e below T1 (mkF m 38 #[rv u0, iv (5 : Int32)] [(.int x)]) tz
    refine XS.sipush X1.here hx rfl (hb hby own_d25_38) ?_
    show sT p e below T1 (mkF m 41 #[rv u0, iv (5 : Int32)] [(.int (255 : Int32)), (.int x)]) tz
    refine XS.iand X1.here hx rfl (hb hby own_d25_41) rfl ?_
    exact kz
  obtain ⟨T4, X4, e4, st4⟩ := getS2 X1 hx hZ hown (host := "") (Or.inl (own_w hw 126 rfl)) Via.refl e1 (S_hi.ext O0.2) (g := (mkF m 42 #[rv u0, iv (5 : Int32)] [(.int (x &&& (255 : Int32)))])) rfl (hb hby own_d25_42)
  refine own_on (B := T4.setTop (mkF m 45 #[rv u0, iv (5 : Int32)] [(.int (0 : Int32)), (.int (x &&& (255 : Int32)))])) (fun tz kz => st4 _ kz) ?_
  refine own_on (B := T4.setTop (mkF m 48 #[rv u0, iv (5 : Int32)] [(.int (5 : Int32)), (.ref u0), (.int ((x &&& (255 : Int32)) <<< ((0 : Int32) &&& 31)))])) (fun tz kz => ?_) ?_
  · show sT p e below T4 (mkF m 45 #[rv u0, iv (5 : Int32)] [(.int (0 : Int32)), (.int (x &&& (255 : Int32)))]) tz
    refine XS.ishl X4.here hx rfl (hb hby own_d25_45) rfl ?_
    show sT p e below T4 (mkF m 46 #[rv u0, iv (5 : Int32)] [(.int ((x &&& (255 : Int32)) <<< ((0 : Int32) &&& 31)))]) tz
    refine XS.aloadN X4.here hx rfl (hb hby own_d25_46) rfl rfl ?_
    show sT p e below T4 (mkF m 47 #[rv u0, iv (5 : Int32)] [(.ref u0), (.int ((x &&& (255 : Int32)) <<< ((0 : Int32) &&& 31)))]) tz
    refine XS.iloadN X4.here hx rfl (hb hby own_d25_47) rfl ?_
    exact kz
  obtain ⟨cl5, Ar5, q5, S5, M5, H5, G5⟩ := id Va
  have hin6 : ¬ ((5 : Int32) < 0 ∨ cl5.slots.size ≤ ((5 : Int32)).toNatClampNeg) := inb_of S5 ⟨by decide, hl⟩
  have hat6 : cl5.slots[((5 : Int32)).toNatClampNeg]? = some (.int y) := Has.at H5 hin6 hy_
  refine own_on (B := T4.setTop (mkF m 53 #[rv u0, iv (5 : Int32)] [(.int (y &&& (255 : Int32))), (.int ((x &&& (255 : Int32)) <<< ((0 : Int32) &&& 31)))])) (fun tz kz => ?_) ?_
  · show sT p e below T4 (mkF m 48 #[rv u0, iv (5 : Int32)] [(.int (5 : Int32)), (.ref u0), (.int ((x &&& (255 : Int32)) <<< ((0 : Int32) &&& 31)))]) tz
    refine X4.baloadBytes hx (j := (5 : Int32)) (v := (.int y)) (by rw [e4]; exact Ar5.1) (State.isArrayOf_alike hZ.alike Ar5.2.1) Ar5.2.2 hin6 hat6 (g := (mkF m 48 #[rv u0, iv (5 : Int32)] [(.int (5 : Int32)), (.ref u0), (.int ((x &&& (255 : Int32)) <<< ((0 : Int32) &&& 31)))])) rfl rfl (hb hby own_d25_48) _ ?_
    show sT p e below T4 (mkF m 49 #[rv u0, iv (5 : Int32)] [(.int y), (.int ((x &&& (255 : Int32)) <<< ((0 : Int32) &&& 31)))]) tz
    refine XS.sipush X4.here hx rfl (hb hby own_d25_49) ?_
    show sT p e below T4 (mkF m 52 #[rv u0, iv (5 : Int32)] [(.int (255 : Int32)), (.int y), (.int ((x &&& (255 : Int32)) <<< ((0 : Int32) &&& 31)))]) tz
    refine XS.iand X4.here hx rfl (hb hby own_d25_52) rfl ?_
    exact kz
  obtain ⟨T7, X7, e7, st7⟩ := getS2 X4 hx hZ hown (host := "") (Or.inl (own_w hw 127 rfl)) Via.refl e4 (S_lo.ext O0.2) (g := (mkF m 53 #[rv u0, iv (5 : Int32)] [(.int (y &&& (255 : Int32))), (.int ((x &&& (255 : Int32)) <<< ((0 : Int32) &&& 31)))])) rfl (hb hby own_d25_53)
  refine own_on (B := T7.setTop (mkF m 56 #[rv u0, iv (5 : Int32)] [(.int (8 : Int32)), (.int (y &&& (255 : Int32))), (.int ((x &&& (255 : Int32)) <<< ((0 : Int32) &&& 31)))])) (fun tz kz => st7 _ kz) ?_
  refine own_on (B := T7.setTop (mkF m 59 #[rv u0, iv (5 : Int32)] [(.int ((((x &&& (255 : Int32)) <<< ((0 : Int32) &&& 31)) ||| ((y &&& (255 : Int32)) <<< ((8 : Int32) &&& 31))).toUInt32.toUInt16.toUInt32.toInt32))])) (fun tz kz => ?_) ?_
  · show sT p e below T7 (mkF m 56 #[rv u0, iv (5 : Int32)] [(.int (8 : Int32)), (.int (y &&& (255 : Int32))), (.int ((x &&& (255 : Int32)) <<< ((0 : Int32) &&& 31)))]) tz
    refine XS.ishl X7.here hx rfl (hb hby own_d25_56) rfl ?_
    show sT p e below T7 (mkF m 57 #[rv u0, iv (5 : Int32)] [(.int ((y &&& (255 : Int32)) <<< ((8 : Int32) &&& 31))), (.int ((x &&& (255 : Int32)) <<< ((0 : Int32) &&& 31)))]) tz
    refine XS.ior X7.here hx rfl (hb hby own_d25_57) rfl ?_
    show sT p e below T7 (mkF m 58 #[rv u0, iv (5 : Int32)] [(.int (((x &&& (255 : Int32)) <<< ((0 : Int32) &&& 31)) ||| ((y &&& (255 : Int32)) <<< ((8 : Int32) &&& 31))))]) tz
    refine XS.i2c X7.here hx rfl (hb hby own_d25_58) rfl ?_
    exact kz
  rw [hrv]
  obtain ⟨fs, hr, hrun, hended, hW, hsame⟩ := X7.leave (v := some (.int rz)) (fun h => by rw [Bd.returns] at h; cases h)
  refine own_of ⟨_, _, ?_, hrun, hended, _, _, rfl, ?_, ⟨_, rfl⟩, hW, hsame.mono (by decide) (by decide)⟩
  · show sT p e below T7 (mkF m 59 #[rv u0, iv (5 : Int32)] [(.int rz)]) _
    exact own_retN X7 hx (t := .char) Bd.returns (by simp) hnr (hb hby own_d25_59) hr
  · show Q25c Z u0 kk ln vs x y rz h0 n0 _ T7.heap _
    rw [e7]
    exact ⟨rfl, N0, rfl⟩
theorem own_ef_24d (m : MethodId) (x0 : Addr) (x1 : Int32) (x2 : Int32) : entryFrame m #[(.ref x0), (.int x1), (.int x2)] 3 = mkF m 0 #[rv x0, iv x1, iv x2] [] := by first | (simp [entryFrame, mkF, argsToLocals, Value.category]; done) | rfl
def Q24d (Z : State) (u0 : Addr) (p2 : Int32) (kk : ClassId) (ln : Int32) (vs : List Value) (h0 : Heap) (n0 : Nat) (v : Option Value) (h : Heap) (L : List Loc) : Prop := v = none ∧ Fr n0 L ∧ Keep h0 h [u0] ∧ Arv Z h u0 kk .byte ln ((vs.set 6 (.int (nar .byte ((p2 >>> ((0 : Int32) &&& 31)).toInt8.toInt32)))).set 7 (.int (nar .byte ((p2 >>> ((8 : Int32) &&& 31)).toInt8.toInt32)))) (.int 0)
set_option maxRecDepth 65536 in
set_option maxHeartbeats 40000000 in
theorem rm24d (l : Launch) (Z : State) (a0 : Array Value) (hw : ∀ d ∈ tables_1, d.before a0 Z = true) (ws : List Jvm.Cond) (u0 : Addr) (p2 : Int32) (kk : ClassId) (ln : Int32) (vs : List Value) (h0 : Heap) (n0 : Nat) (O0 : Old Z n0 h0) (S_as : Sta Z Z.heap "java/lang/StringUTF16" "$assertionsDisabled" "Z" (.int 1)) (S_hi : Sta Z Z.heap "java/lang/StringUTF16" "HI_BYTE_SHIFT" "I" (.int 0)) (S_lo : Sta Z Z.heap "java/lang/StringUTF16" "LO_BYTE_SHIFT" "I" (.int 8)) (Va : Arv Z h0 u0 kk .byte ln vs (.int 0)) (g_u0 : n0 ≤ u0) (hl : (7 : Int32) < ln) (hv : 7 < vs.length) :
    MetFree l (⟨"java/lang/StringUTF16", "putChar", "([BII)V"⟩ : MethodName) (head1 (Jvm.Cond.code (⟨"java/lang/StringUTF16", "putChar", "([BII)V"⟩ : MethodName) jdk_52_method_4_code 3 none :: ws) ({ frames := 0, cells := 0, slots := 0, locals := 0 } : Room)) (fun a U => a = #[(.ref u0), (.int (3 : Int32)), (.int p2)] ∧ Z.Warmed39 U.vm ∧ U.heap = h0) (fun _ _ _ _ _ => True) (fun _ U o U' => ∃ v L, o = .returned v ∧ Q24d Z u0 p2 kk ln vs h0 n0 v U'.heap L ∧ FrameEnd U o U' L ({ frames := 0, cells := 0, slots := 0, locals := 0 } : Room).cells ({ frames := 0, cells := 0, slots := 0, locals := 0 } : Room).slots) := by
  refine MetFree.of_bodySF (plainFor_of_name own_pn_java_lang_StringUTF16) hisR ?_
  intro p e s m args below meth c s₁ Bd hml0 hP hK
  obtain ⟨rfl, hZ, hh⟩ := hP
  have hx := Bd.exec
  have hby := Bd.bytes
  have hml : c.maxLocals = 3 := hml0
  have hown : s.vm.findClass "java/lang/StringUTF16" = some m.cls := findClass_of_methodNamed Bd.named
  have hnm := (name_of_methodNamed Bd.named Bd.method).1
  have X0 : Stand p l e ({ frames := 0, cells := 0, slots := 0, locals := 0 } : Room) s m #[(.ref u0), (.int (3 : Int32)), (.int p2)] below meth c s₁ [] 0 0 := Stand.of_body Bd
  have e0 : s₁.heap = h0 := by rw [← hh, Bd.state]; rfl
  have N0 := Fr.nil n0
  change Go p.tables e below _ _
  refine own_on (B := s₁.setTop (mkF m 0 #[rv u0, iv (3 : Int32), iv p2] [])) (fun tz kz => castTop (own_ef_24d m u0 (3 : Int32) p2) kz) ?_
  obtain ⟨T1, X1, e1, st1⟩ := getS2 X0 hx hZ hown (host := "") (Or.inl (own_w hw 125 rfl)) Via.refl e0 (S_as.ext O0.2) (g := (mkF m 0 #[rv u0, iv (3 : Int32), iv p2] [])) rfl (hb hby own_d24_0)
  refine own_on (B := T1.setTop (mkF m 3 #[rv u0, iv (3 : Int32), iv p2] [(.int (1 : Int32))])) (fun tz kz => st1 _ kz) ?_
  refine own_on (B := T1.setTop (mkF m 38 #[rv u0, iv (7 : Int32), iv p2] [(.int p2), (.int (6 : Int32)), (.ref u0)])) (fun tz kz => ?_) ?_
  · show sT p e below T1 (mkF m 3 #[rv u0, iv (3 : Int32), iv p2] [(.int (1 : Int32))]) tz
    refine XS.ifYes X1.here hx rfl (pc0 := 3) (pc' := 28) rfl (hb hby own_d24_3) rfl ((if0 _ _).trans (feq (by decide : ¬ ((1 : Int32) = (0 : Int32)))).2) (by decide) (by decide) ?_
    show sT p e below T1 (mkF m 28 #[rv u0, iv (3 : Int32), iv p2] []) tz
    refine XS.iloadN X1.here hx rfl (hb hby own_d24_28) rfl ?_
    show sT p e below T1 (mkF m 29 #[rv u0, iv (3 : Int32), iv p2] [(.int (3 : Int32))]) tz
    refine XS.iconst X1.here hx rfl (hb hby own_d24_29) ?_
    show sT p e below T1 (mkF m 30 #[rv u0, iv (3 : Int32), iv p2] [(.int (1 : Int32)), (.int (3 : Int32))]) tz
    refine XS.ishl X1.here hx rfl (hb hby own_d24_30) rfl ?_
    show sT p e below T1 (mkF m 31 #[rv u0, iv (3 : Int32), iv p2] [(.int (6 : Int32))]) tz
    refine XS.istoreN X1.here hx rfl (hb hby own_d24_31) rfl (l' := #[rv u0, iv (6 : Int32), iv p2]) rfl ?_
    show sT p e below T1 (mkF m 32 #[rv u0, iv (6 : Int32), iv p2] []) tz
    refine XS.aloadN X1.here hx rfl (hb hby own_d24_32) rfl rfl ?_
    show sT p e below T1 (mkF m 33 #[rv u0, iv (6 : Int32), iv p2] [(.ref u0)]) tz
    refine XS.iloadN X1.here hx rfl (hb hby own_d24_33) rfl ?_
    show sT p e below T1 (mkF m 34 #[rv u0, iv (6 : Int32), iv p2] [(.int (6 : Int32)), (.ref u0)]) tz
    refine XS.iinc X1.here hx rfl (hb hby own_d24_34) rfl (l' := #[rv u0, iv (7 : Int32), iv p2]) rfl ?_
    show sT p e below T1 (mkF m 37 #[rv u0, iv (7 : Int32), iv p2] [(.int (6 : Int32)), (.ref u0)]) tz
    refine XS.iloadN X1.here hx rfl (hb hby own_d24_37) rfl ?_
    exact kz
  obtain ⟨T2, X2, e2, st2⟩ := getS2 X1 hx hZ hown (host := "") (Or.inl (own_w hw 126 rfl)) Via.refl e1 (S_hi.ext O0.2) (g := (mkF m 38 #[rv u0, iv (7 : Int32), iv p2] [(.int p2), (.int (6 : Int32)), (.ref u0)])) rfl (hb hby own_d24_38)
  refine own_on (B := T2.setTop (mkF m 41 #[rv u0, iv (7 : Int32), iv p2] [(.int (0 : Int32)), (.int p2), (.int (6 : Int32)), (.ref u0)])) (fun tz kz => st2 _ kz) ?_
  refine own_on (B := T2.setTop (mkF m 43 #[rv u0, iv (7 : Int32), iv p2] [(.int ((p2 >>> ((0 : Int32) &&& 31)).toInt8.toInt32)), (.int (6 : Int32)), (.ref u0)])) (fun tz kz => ?_) ?_
  · show sT p e below T2 (mkF m 41 #[rv u0, iv (7 : Int32), iv p2] [(.int (0 : Int32)), (.int p2), (.int (6 : Int32)), (.ref u0)]) tz
    refine XS.ishr X2.here hx rfl (hb hby own_d24_41) rfl ?_
    show sT p e below T2 (mkF m 42 #[rv u0, iv (7 : Int32), iv p2] [(.int (p2 >>> ((0 : Int32) &&& 31))), (.int (6 : Int32)), (.ref u0)]) tz
    refine XS.i2b X2.here hx rfl (hb hby own_d24_42) rfl ?_
    exact kz
  obtain ⟨cl3, Ar3, q3, S3, M3, H3, G3⟩ := id Va
  have hin4 : ¬ ((6 : Int32) < 0 ∨ cl3.slots.size ≤ ((6 : Int32)).toNatClampNeg) := inb_of S3 ⟨by decide, Int32.lt_trans (by decide) hl⟩
  obtain ⟨T4, h4, X4, e4, W4, st4⟩ := stB X2 hx hZ e2 Ar3 (j := (6 : Int32)) hin4 (g := (mkF m 43 #[rv u0, iv (7 : Int32), iv p2] [(.int ((p2 >>> ((0 : Int32) &&& 31)).toInt8.toInt32)), (.int (6 : Int32)), (.ref u0)])) rfl rfl (hb hby own_d24_43)
  have V4 := Arv.set Ar3 q3 S3 M3 H3 G3 (fits_nar_byte _) W4 6 rfl (by omega)
  have N4 := Fr.snoc X4 N0 g_u0
  have O5 := O0.wr W4 g_u0
  have K5 : Keep h0 h4 [u0] := (Keep.refl h0 [u0]).wr W4 (Or.inl (List.mem_of_getElem? (i := 0) rfl))
  refine own_on (B := T4.setTop (mkF m 44 #[rv u0, iv (7 : Int32), iv p2] [])) (fun tz kz => st4 _ kz) ?_
  refine own_on (B := T4.setTop (mkF m 47 #[rv u0, iv (7 : Int32), iv p2] [(.int p2), (.int (7 : Int32)), (.ref u0)])) (fun tz kz => ?_) ?_
  · show sT p e below T4 (mkF m 44 #[rv u0, iv (7 : Int32), iv p2] []) tz
    refine XS.aloadN X4.here hx rfl (hb hby own_d24_44) rfl rfl ?_
    show sT p e below T4 (mkF m 45 #[rv u0, iv (7 : Int32), iv p2] [(.ref u0)]) tz
    refine XS.iloadN X4.here hx rfl (hb hby own_d24_45) rfl ?_
    show sT p e below T4 (mkF m 46 #[rv u0, iv (7 : Int32), iv p2] [(.int (7 : Int32)), (.ref u0)]) tz
    refine XS.iloadN X4.here hx rfl (hb hby own_d24_46) rfl ?_
    exact kz
  obtain ⟨T6, X6, e6, st6⟩ := getS2 X4 hx hZ hown (host := "") (Or.inl (own_w hw 127 rfl)) Via.refl e4 (S_lo.ext O5.2) (g := (mkF m 47 #[rv u0, iv (7 : Int32), iv p2] [(.int p2), (.int (7 : Int32)), (.ref u0)])) rfl (hb hby own_d24_47)
  refine own_on (B := T6.setTop (mkF m 50 #[rv u0, iv (7 : Int32), iv p2] [(.int (8 : Int32)), (.int p2), (.int (7 : Int32)), (.ref u0)])) (fun tz kz => st6 _ kz) ?_
  refine own_on (B := T6.setTop (mkF m 52 #[rv u0, iv (7 : Int32), iv p2] [(.int ((p2 >>> ((8 : Int32) &&& 31)).toInt8.toInt32)), (.int (7 : Int32)), (.ref u0)])) (fun tz kz => ?_) ?_
  · show sT p e below T6 (mkF m 50 #[rv u0, iv (7 : Int32), iv p2] [(.int (8 : Int32)), (.int p2), (.int (7 : Int32)), (.ref u0)]) tz
    refine XS.ishr X6.here hx rfl (hb hby own_d24_50) rfl ?_
    show sT p e below T6 (mkF m 51 #[rv u0, iv (7 : Int32), iv p2] [(.int (p2 >>> ((8 : Int32) &&& 31))), (.int (7 : Int32)), (.ref u0)]) tz
    refine XS.i2b X6.here hx rfl (hb hby own_d24_51) rfl ?_
    exact kz
  obtain ⟨cl7, Ar7, q7, S7, M7, H7, G7⟩ := id V4
  have hin8 : ¬ ((7 : Int32) < 0 ∨ cl7.slots.size ≤ ((7 : Int32)).toNatClampNeg) := inb_of S7 ⟨by decide, hl⟩
  obtain ⟨T8, h8, X8, e8, W8, st8⟩ := stB X6 hx hZ e6 Ar7 (j := (7 : Int32)) hin8 (g := (mkF m 52 #[rv u0, iv (7 : Int32), iv p2] [(.int ((p2 >>> ((8 : Int32) &&& 31)).toInt8.toInt32)), (.int (7 : Int32)), (.ref u0)])) rfl rfl (hb hby own_d24_52)
  have V8 := Arv.set Ar7 q7 S7 M7 H7 G7 (fits_nar_byte _) W8 7 rfl (by simpa using hv)
  have N8 := Fr.snoc X8 N4 g_u0
  have O9 := O5.wr W8 g_u0
  have K9 : Keep h0 h8 [u0] := K5.wr W8 (Or.inl (List.mem_of_getElem? (i := 0) rfl))
  refine own_on (B := T8.setTop (mkF m 53 #[rv u0, iv (7 : Int32), iv p2] [])) (fun tz kz => st8 _ kz) ?_
  obtain ⟨fs, hr, hrun, hended, hW, hsame⟩ := X8.leave (v := none) (fun _ => rfl)
  refine own_of ⟨_, _, ?_, hrun, hended, _, _, rfl, ?_, ⟨_, rfl⟩, hW, hsame.mono (by decide) (by decide)⟩
  · show sT p e below T8 (mkF m 53 #[rv u0, iv (7 : Int32), iv p2] []) _
    exact X8.returnOut hx Bd.returns (hb hby own_d24_53) hr
  · show Q24d Z u0 p2 kk ln vs h0 n0 _ T8.heap _
    rw [e8]
    exact ⟨rfl, N8, K9, V8⟩
theorem own_ef_25d (m : MethodId) (x0 : Addr) (x1 : Int32) : entryFrame m #[(.ref x0), (.int x1)] 2 = mkF m 0 #[rv x0, iv x1] [] := by first | (simp [entryFrame, mkF, argsToLocals, Value.category]; done) | rfl
def Q25d (Z : State) (u0 : Addr) (kk : ClassId) (ln : Int32) (vs : List Value) (x : Int32) (y : Int32) (rz : Int32) (h0 : Heap) (n0 : Nat) (v : Option Value) (h : Heap) (L : List Loc) : Prop := v = some (.int rz) ∧ Fr n0 L ∧ h = h0
set_option maxRecDepth 65536 in
set_option maxHeartbeats 40000000 in
theorem rm25d (l : Launch) (Z : State) (a0 : Array Value) (hw : ∀ d ∈ tables_1, d.before a0 Z = true) (ws : List Jvm.Cond) (u0 : Addr) (kk : ClassId) (ln : Int32) (vs : List Value) (x : Int32) (y : Int32) (rz : Int32) (h0 : Heap) (n0 : Nat) (O0 : Old Z n0 h0) (S_as : Sta Z Z.heap "java/lang/StringUTF16" "$assertionsDisabled" "Z" (.int 1)) (S_hi : Sta Z Z.heap "java/lang/StringUTF16" "HI_BYTE_SHIFT" "I" (.int 0)) (S_lo : Sta Z Z.heap "java/lang/StringUTF16" "LO_BYTE_SHIFT" "I" (.int 8)) (Va : Arv Z h0 u0 kk .byte ln vs (.int 0)) (hl : (7 : Int32) < ln) (hx_ : vs.getD 6 (.int 0) = .int x) (hy_ : vs.getD 7 (.int 0) = .int y) (hrv : ((((x &&& (255 : Int32)) <<< ((0 : Int32) &&& 31)) ||| ((y &&& (255 : Int32)) <<< ((8 : Int32) &&& 31))).toUInt32.toUInt16.toUInt32.toInt32) = rz) (hnr : nar .char rz = rz) :
    MetFree l (⟨"java/lang/StringUTF16", "getChar", "([BI)C"⟩ : MethodName) (head1 (Jvm.Cond.code (⟨"java/lang/StringUTF16", "getChar", "([BI)C"⟩ : MethodName) jdk_52_method_5_code 2 (some .char) :: ws) ({ frames := 0, cells := 0, slots := 0, locals := 0 } : Room)) (fun a U => a = #[(.ref u0), (.int (3 : Int32))] ∧ Z.Warmed39 U.vm ∧ U.heap = h0) (fun _ _ _ _ _ => True) (fun _ U o U' => ∃ v L, o = .returned v ∧ Q25d Z u0 kk ln vs x y rz h0 n0 v U'.heap L ∧ FrameEnd U o U' L ({ frames := 0, cells := 0, slots := 0, locals := 0 } : Room).cells ({ frames := 0, cells := 0, slots := 0, locals := 0 } : Room).slots) := by
  refine MetFree.of_bodySF (plainFor_of_name own_pn_java_lang_StringUTF16) hisR ?_
  intro p e s m args below meth c s₁ Bd hml0 hP hK
  obtain ⟨rfl, hZ, hh⟩ := hP
  have hx := Bd.exec
  have hby := Bd.bytes
  have hml : c.maxLocals = 2 := hml0
  have hown : s.vm.findClass "java/lang/StringUTF16" = some m.cls := findClass_of_methodNamed Bd.named
  have hnm := (name_of_methodNamed Bd.named Bd.method).1
  have X0 : Stand p l e ({ frames := 0, cells := 0, slots := 0, locals := 0 } : Room) s m #[(.ref u0), (.int (3 : Int32))] below meth c s₁ [] 0 0 := Stand.of_body Bd
  have e0 : s₁.heap = h0 := by rw [← hh, Bd.state]; rfl
  have N0 := Fr.nil n0
  change Go p.tables e below _ _
  refine own_on (B := s₁.setTop (mkF m 0 #[rv u0, iv (3 : Int32)] [])) (fun tz kz => castTop (own_ef_25d m u0 (3 : Int32)) kz) ?_
  obtain ⟨T1, X1, e1, st1⟩ := getS2 X0 hx hZ hown (host := "") (Or.inl (own_w hw 125 rfl)) Via.refl e0 (S_as.ext O0.2) (g := (mkF m 0 #[rv u0, iv (3 : Int32)] [])) rfl (hb hby own_d25_0)
  refine own_on (B := T1.setTop (mkF m 3 #[rv u0, iv (3 : Int32)] [(.int (1 : Int32))])) (fun tz kz => st1 _ kz) ?_
  refine own_on (B := T1.setTop (mkF m 37 #[rv u0, iv (7 : Int32)] [(.int (6 : Int32)), (.ref u0)])) (fun tz kz => ?_) ?_
  · show sT p e below T1 (mkF m 3 #[rv u0, iv (3 : Int32)] [(.int (1 : Int32))]) tz
    refine XS.ifYes X1.here hx rfl (pc0 := 3) (pc' := 28) rfl (hb hby own_d25_3) rfl ((if0 _ _).trans (feq (by decide : ¬ ((1 : Int32) = (0 : Int32)))).2) (by decide) (by decide) ?_
    show sT p e below T1 (mkF m 28 #[rv u0, iv (3 : Int32)] []) tz
    refine XS.iloadN X1.here hx rfl (hb hby own_d25_28) rfl ?_
    show sT p e below T1 (mkF m 29 #[rv u0, iv (3 : Int32)] [(.int (3 : Int32))]) tz
    refine XS.iconst X1.here hx rfl (hb hby own_d25_29) ?_
    show sT p e below T1 (mkF m 30 #[rv u0, iv (3 : Int32)] [(.int (1 : Int32)), (.int (3 : Int32))]) tz
    refine XS.ishl X1.here hx rfl (hb hby own_d25_30) rfl ?_
    show sT p e below T1 (mkF m 31 #[rv u0, iv (3 : Int32)] [(.int (6 : Int32))]) tz
    refine XS.istoreN X1.here hx rfl (hb hby own_d25_31) rfl (l' := #[rv u0, iv (6 : Int32)]) rfl ?_
    show sT p e below T1 (mkF m 32 #[rv u0, iv (6 : Int32)] []) tz
    refine XS.aloadN X1.here hx rfl (hb hby own_d25_32) rfl rfl ?_
    show sT p e below T1 (mkF m 33 #[rv u0, iv (6 : Int32)] [(.ref u0)]) tz
    refine XS.iloadN X1.here hx rfl (hb hby own_d25_33) rfl ?_
    show sT p e below T1 (mkF m 34 #[rv u0, iv (6 : Int32)] [(.int (6 : Int32)), (.ref u0)]) tz
    refine XS.iinc X1.here hx rfl (hb hby own_d25_34) rfl (l' := #[rv u0, iv (7 : Int32)]) rfl ?_
    exact kz
  obtain ⟨cl2, Ar2, q2, S2, M2, H2, G2⟩ := id Va
  have hin3 : ¬ ((6 : Int32) < 0 ∨ cl2.slots.size ≤ ((6 : Int32)).toNatClampNeg) := inb_of S2 ⟨by decide, Int32.lt_trans (by decide) hl⟩
  have hat3 : cl2.slots[((6 : Int32)).toNatClampNeg]? = some (.int x) := Has.at H2 hin3 hx_
  refine own_on (B := T1.setTop (mkF m 42 #[rv u0, iv (7 : Int32)] [(.int (x &&& (255 : Int32)))])) (fun tz kz => ?_) ?_
  · show sT p e below T1 (mkF m 37 #[rv u0, iv (7 : Int32)] [(.int (6 : Int32)), (.ref u0)]) tz
    refine X1.baloadBytes hx (j := (6 : Int32)) (v := (.int x)) (by rw [e1]; exact Ar2.1) (State.isArrayOf_alike hZ.alike Ar2.2.1) Ar2.2.2 hin3 hat3 (g := (mkF m 37 #[rv u0, iv (7 : Int32)] [(.int (6 : Int32)), (.ref u0)])) rfl rfl (hb hby own_d25_37) _ ?_
    show sT p e below T1 (mkF m 38 #[rv u0, iv (7 : Int32)] [(.int x)]) tz
    refine XS.sipush X1.here hx rfl (hb hby own_d25_38) ?_
    show sT p e below T1 (mkF m 41 #[rv u0, iv (7 : Int32)] [(.int (255 : Int32)), (.int x)]) tz
    refine XS.iand X1.here hx rfl (hb hby own_d25_41) rfl ?_
    exact kz
  obtain ⟨T4, X4, e4, st4⟩ := getS2 X1 hx hZ hown (host := "") (Or.inl (own_w hw 126 rfl)) Via.refl e1 (S_hi.ext O0.2) (g := (mkF m 42 #[rv u0, iv (7 : Int32)] [(.int (x &&& (255 : Int32)))])) rfl (hb hby own_d25_42)
  refine own_on (B := T4.setTop (mkF m 45 #[rv u0, iv (7 : Int32)] [(.int (0 : Int32)), (.int (x &&& (255 : Int32)))])) (fun tz kz => st4 _ kz) ?_
  refine own_on (B := T4.setTop (mkF m 48 #[rv u0, iv (7 : Int32)] [(.int (7 : Int32)), (.ref u0), (.int ((x &&& (255 : Int32)) <<< ((0 : Int32) &&& 31)))])) (fun tz kz => ?_) ?_
  · show sT p e below T4 (mkF m 45 #[rv u0, iv (7 : Int32)] [(.int (0 : Int32)), (.int (x &&& (255 : Int32)))]) tz
    refine XS.ishl X4.here hx rfl (hb hby own_d25_45) rfl ?_
    show sT p e below T4 (mkF m 46 #[rv u0, iv (7 : Int32)] [(.int ((x &&& (255 : Int32)) <<< ((0 : Int32) &&& 31)))]) tz
    refine XS.aloadN X4.here hx rfl (hb hby own_d25_46) rfl rfl ?_
    show sT p e below T4 (mkF m 47 #[rv u0, iv (7 : Int32)] [(.ref u0), (.int ((x &&& (255 : Int32)) <<< ((0 : Int32) &&& 31)))]) tz
    refine XS.iloadN X4.here hx rfl (hb hby own_d25_47) rfl ?_
    exact kz
  obtain ⟨cl5, Ar5, q5, S5, M5, H5, G5⟩ := id Va
  have hin6 : ¬ ((7 : Int32) < 0 ∨ cl5.slots.size ≤ ((7 : Int32)).toNatClampNeg) := inb_of S5 ⟨by decide, hl⟩
  have hat6 : cl5.slots[((7 : Int32)).toNatClampNeg]? = some (.int y) := Has.at H5 hin6 hy_
  refine own_on (B := T4.setTop (mkF m 53 #[rv u0, iv (7 : Int32)] [(.int (y &&& (255 : Int32))), (.int ((x &&& (255 : Int32)) <<< ((0 : Int32) &&& 31)))])) (fun tz kz => ?_) ?_
  · show sT p e below T4 (mkF m 48 #[rv u0, iv (7 : Int32)] [(.int (7 : Int32)), (.ref u0), (.int ((x &&& (255 : Int32)) <<< ((0 : Int32) &&& 31)))]) tz
    refine X4.baloadBytes hx (j := (7 : Int32)) (v := (.int y)) (by rw [e4]; exact Ar5.1) (State.isArrayOf_alike hZ.alike Ar5.2.1) Ar5.2.2 hin6 hat6 (g := (mkF m 48 #[rv u0, iv (7 : Int32)] [(.int (7 : Int32)), (.ref u0), (.int ((x &&& (255 : Int32)) <<< ((0 : Int32) &&& 31)))])) rfl rfl (hb hby own_d25_48) _ ?_
    show sT p e below T4 (mkF m 49 #[rv u0, iv (7 : Int32)] [(.int y), (.int ((x &&& (255 : Int32)) <<< ((0 : Int32) &&& 31)))]) tz
    refine XS.sipush X4.here hx rfl (hb hby own_d25_49) ?_
    show sT p e below T4 (mkF m 52 #[rv u0, iv (7 : Int32)] [(.int (255 : Int32)), (.int y), (.int ((x &&& (255 : Int32)) <<< ((0 : Int32) &&& 31)))]) tz
    refine XS.iand X4.here hx rfl (hb hby own_d25_52) rfl ?_
    exact kz
  obtain ⟨T7, X7, e7, st7⟩ := getS2 X4 hx hZ hown (host := "") (Or.inl (own_w hw 127 rfl)) Via.refl e4 (S_lo.ext O0.2) (g := (mkF m 53 #[rv u0, iv (7 : Int32)] [(.int (y &&& (255 : Int32))), (.int ((x &&& (255 : Int32)) <<< ((0 : Int32) &&& 31)))])) rfl (hb hby own_d25_53)
  refine own_on (B := T7.setTop (mkF m 56 #[rv u0, iv (7 : Int32)] [(.int (8 : Int32)), (.int (y &&& (255 : Int32))), (.int ((x &&& (255 : Int32)) <<< ((0 : Int32) &&& 31)))])) (fun tz kz => st7 _ kz) ?_
  refine own_on (B := T7.setTop (mkF m 59 #[rv u0, iv (7 : Int32)] [(.int ((((x &&& (255 : Int32)) <<< ((0 : Int32) &&& 31)) ||| ((y &&& (255 : Int32)) <<< ((8 : Int32) &&& 31))).toUInt32.toUInt16.toUInt32.toInt32))])) (fun tz kz => ?_) ?_
  · show sT p e below T7 (mkF m 56 #[rv u0, iv (7 : Int32)] [(.int (8 : Int32)), (.int (y &&& (255 : Int32))), (.int ((x &&& (255 : Int32)) <<< ((0 : Int32) &&& 31)))]) tz
    refine XS.ishl X7.here hx rfl (hb hby own_d25_56) rfl ?_
    show sT p e below T7 (mkF m 57 #[rv u0, iv (7 : Int32)] [(.int ((y &&& (255 : Int32)) <<< ((8 : Int32) &&& 31))), (.int ((x &&& (255 : Int32)) <<< ((0 : Int32) &&& 31)))]) tz
    refine XS.ior X7.here hx rfl (hb hby own_d25_57) rfl ?_
    show sT p e below T7 (mkF m 58 #[rv u0, iv (7 : Int32)] [(.int (((x &&& (255 : Int32)) <<< ((0 : Int32) &&& 31)) ||| ((y &&& (255 : Int32)) <<< ((8 : Int32) &&& 31))))]) tz
    refine XS.i2c X7.here hx rfl (hb hby own_d25_58) rfl ?_
    exact kz
  rw [hrv]
  obtain ⟨fs, hr, hrun, hended, hW, hsame⟩ := X7.leave (v := some (.int rz)) (fun h => by rw [Bd.returns] at h; cases h)
  refine own_of ⟨_, _, ?_, hrun, hended, _, _, rfl, ?_, ⟨_, rfl⟩, hW, hsame.mono (by decide) (by decide)⟩
  · show sT p e below T7 (mkF m 59 #[rv u0, iv (7 : Int32)] [(.int rz)]) _
    exact own_retN X7 hx (t := .char) Bd.returns (by simp) hnr (hb hby own_d25_59) hr
  · show Q25d Z u0 kk ln vs x y rz h0 n0 _ T7.heap _
    rw [e7]
    exact ⟨rfl, N0, rfl⟩
theorem own_ef_20 (m : MethodId) (x0 : Addr) (x1 : Int32) : entryFrame m #[(.ref x0), (.int x1)] 2 = mkF m 0 #[rv x0, iv x1] [] := by first | (simp [entryFrame, mkF, argsToLocals, Value.category]; done) | rfl
def Q20 (Z : State) (u0 : Addr) (p1 : Int32) (ln : Int32) (cd : Int32) (h0 : Heap) (n0 : Nat) (v : Option Value) (h : Heap) (L : List Loc) : Prop := v = some (.int cd) ∧ Fr n0 L ∧ h = h0
theorem own_d20_0 : decode jdk_52_method_15_code 0 = .ok (.iload_n 1, 1) := by decide +kernel
theorem own_d20_1 : decode jdk_52_method_15_code 1 = .ok (.aload_n 0, 1) := by decide +kernel
theorem own_d20_2 : decode jdk_52_method_15_code 2 = .ok (.arraylength, 1) := by decide +kernel
theorem own_d20_3 : decode jdk_52_method_15_code 3 = .ok (.isub, 1) := by decide +kernel
theorem own_d20_4 : decode jdk_52_method_15_code 4 = .ok (.bipush 31, 2) := by decide +kernel
theorem own_d20_6 : decode jdk_52_method_15_code 6 = .ok (.iushr, 1) := by decide +kernel
theorem own_d20_7 : decode jdk_52_method_15_code 7 = .ok (.i2b, 1) := by decide +kernel
theorem own_d20_8 : decode jdk_52_method_15_code 8 = .ok (.ireturn, 1) := by decide +kernel
set_option maxRecDepth 65536 in
set_option maxHeartbeats 40000000 in
theorem rm20 (l : Launch) (Z : State) (a0 : Array Value) (hw : ∀ d ∈ tables_1, d.before a0 Z = true) (ws : List Jvm.Cond) (u0 : Addr) (p1 : Int32) (ln : Int32) (cd : Int32) (h0 : Heap) (n0 : Nat) (O0 : Old Z n0 h0) (Va : OwnArz Z h0 u0 .byte ln) (hlc : OwnLC p1 ln cd) (hpos : (0 : Int32) < p1) (hp4 : p1 < 1000) :
    MetFree l (⟨"java/lang/StringUTF16", "coderFromArrayLen", "([BI)B"⟩ : MethodName) (head1 (Jvm.Cond.code (⟨"java/lang/StringUTF16", "coderFromArrayLen", "([BI)B"⟩ : MethodName) jdk_52_method_15_code 2 (some .byte) :: ws) ({ frames := 0, cells := 0, slots := 0, locals := 0 } : Room)) (fun a U => a = #[(.ref u0), (.int p1)] ∧ Z.Warmed39 U.vm ∧ U.heap = h0) (fun _ _ _ _ _ => True) (fun _ U o U' => ∃ v L, o = .returned v ∧ Q20 Z u0 p1 ln cd h0 n0 v U'.heap L ∧ FrameEnd U o U' L ({ frames := 0, cells := 0, slots := 0, locals := 0 } : Room).cells ({ frames := 0, cells := 0, slots := 0, locals := 0 } : Room).slots) := by
  refine MetFree.of_bodySF (plainFor_of_name own_pn_java_lang_StringUTF16) hisR ?_
  intro p e s m args below meth c s₁ Bd hml0 hP hK
  obtain ⟨rfl, hZ, hh⟩ := hP
  have hx := Bd.exec
  have hby := Bd.bytes
  have hml : c.maxLocals = 2 := hml0
  have hown : s.vm.findClass "java/lang/StringUTF16" = some m.cls := findClass_of_methodNamed Bd.named
  have hnm := (name_of_methodNamed Bd.named Bd.method).1
  have X0 : Stand p l e ({ frames := 0, cells := 0, slots := 0, locals := 0 } : Room) s m #[(.ref u0), (.int p1)] below meth c s₁ [] 0 0 := Stand.of_body Bd
  have e0 : s₁.heap = h0 := by rw [← hh, Bd.state]; rfl
  have N0 := Fr.nil n0
  change Go p.tables e below _ _
  refine own_on (B := s₁.setTop (mkF m 0 #[rv u0, iv p1] [])) (fun tz kz => castTop (own_ef_20 m u0 p1) kz) ?_
  refine own_on (B := s₁.setTop (mkF m 2 #[rv u0, iv p1] [(.ref u0), (.int p1)])) (fun tz kz => ?_) ?_
  · show sT p e below s₁ (mkF m 0 #[rv u0, iv p1] []) tz
    refine XS.iloadN X0.here hx rfl (hb hby own_d20_0) rfl ?_
    show sT p e below s₁ (mkF m 1 #[rv u0, iv p1] [(.int p1)]) tz
    refine XS.aloadN X0.here hx rfl (hb hby own_d20_1) rfl rfl ?_
    exact kz
  obtain ⟨cl1, Ar1, S1, M1⟩ := id Va
  refine own_on (B := s₁.setTop (mkF m 8 #[rv u0, iv p1] [(.int ((((p1 - ln).toUInt32 >>> ((31 : Int32) &&& 31).toUInt32).toInt32).toInt8.toInt32))])) (fun tz kz => ?_) ?_
  · show sT p e below s₁ (mkF m 2 #[rv u0, iv p1] [(.ref u0), (.int p1)]) tz
    refine X0.arraylength hx (by rw [e0]; exact Ar1.1) (State.isArrayOf_alike hZ.alike Ar1.2.1) (g := (mkF m 2 #[rv u0, iv p1] [(.ref u0), (.int p1)])) rfl rfl (hb hby own_d20_2) _ ?_
    rw [len_of S1 M1]
    show sT p e below s₁ (mkF m 3 #[rv u0, iv p1] [(.int ln), (.int p1)]) tz
    refine XS.isub X0.here hx rfl (hb hby own_d20_3) rfl ?_
    show sT p e below s₁ (mkF m 4 #[rv u0, iv p1] [(.int (p1 - ln))]) tz
    refine XS.bipush X0.here hx rfl (hb hby own_d20_4) ?_
    show sT p e below s₁ (mkF m 6 #[rv u0, iv p1] [(.int (31 : Int32)), (.int (p1 - ln))]) tz
    refine XS.iushr X0.here hx rfl (hb hby own_d20_6) rfl ?_
    show sT p e below s₁ (mkF m 7 #[rv u0, iv p1] [(.int (((p1 - ln).toUInt32 >>> ((31 : Int32) &&& 31).toUInt32).toInt32))]) tz
    refine XS.i2b X0.here hx rfl (hb hby own_d20_7) rfl ?_
    exact kz
  rw [own_cfl hlc hpos hp4]
  obtain ⟨fs, hr, hrun, hended, hW, hsame⟩ := X0.leave (v := some (.int cd)) (fun h => by rw [Bd.returns] at h; cases h)
  refine own_of ⟨_, _, ?_, hrun, hended, _, _, rfl, ?_, ⟨_, rfl⟩, hW, hsame.mono (by decide) (by decide)⟩
  · show sT p e below s₁ (mkF m 8 #[rv u0, iv p1] [(.int cd)]) _
    exact own_retN X0 hx (t := .byte) Bd.returns (by simp) (own_cfb hlc) (hb hby own_d20_8) hr
  · show Q20 Z u0 p1 ln cd h0 n0 _ s₁.heap _
    rw [e0]
    exact ⟨rfl, N0, rfl⟩
theorem own_ef_23a (m : MethodId) (x0 : Int32) : entryFrame m #[(.int x0)] 1 = mkF m 0 #[iv x0] [] := by first | (simp [entryFrame, mkF, argsToLocals, Value.category]; done) | rfl
def Q23a (Z : State)  (h0 : Heap) (n0 : Nat) (v : Option Value) (h : Heap) (L : List Loc) : Prop := v = some (.int (2 : Int32)) ∧ Fr n0 L ∧ h = h0
theorem own_d23_0 : decode jdk_52_method_3_code 0 = .ok (.iload_n 0, 1) := by decide +kernel
theorem own_d23_1 : decode jdk_52_method_3_code 1 = .ok (.ifCond .ge 11, 3) := by decide +kernel
theorem own_d23_12 : decode jdk_52_method_3_code 12 = .ok (.iload_n 0, 1) := by decide +kernel
theorem own_d23_13 : decode jdk_52_method_3_code 13 = .ok (.ldc 20, 2) := by decide +kernel
theorem own_d23_15 : decode jdk_52_method_3_code 15 = .ok (.if_icmp .lt 40, 3) := by decide +kernel
theorem own_d23_55 : decode jdk_52_method_3_code 55 = .ok (.iload_n 0, 1) := by decide +kernel
theorem own_d23_56 : decode jdk_52_method_3_code 56 = .ok (.iconst 1, 1) := by decide +kernel
theorem own_d23_57 : decode jdk_52_method_3_code 57 = .ok (.ishl, 1) := by decide +kernel
theorem own_d23_58 : decode jdk_52_method_3_code 58 = .ok (.ireturn, 1) := by decide +kernel
set_option maxRecDepth 65536 in
set_option maxHeartbeats 40000000 in
theorem rm23a (l : Launch) (Z : State) (a0 : Array Value) (hw : ∀ d ∈ tables_1, d.before a0 Z = true) (ws : List Jvm.Cond)  (h0 : Heap) (n0 : Nat) (O0 : Old Z n0 h0) :
    MetFree l (⟨"java/lang/StringUTF16", "newBytesLength", "(I)I"⟩ : MethodName) (head1 (Jvm.Cond.code (⟨"java/lang/StringUTF16", "newBytesLength", "(I)I"⟩ : MethodName) jdk_52_method_3_code 1 (some .int) :: ws) ({ frames := 0, cells := 0, slots := 0, locals := 0 } : Room)) (fun a U => a = #[(.int (1 : Int32))] ∧ Z.Warmed39 U.vm ∧ U.heap = h0) (fun _ _ _ _ _ => True) (fun _ U o U' => ∃ v L, o = .returned v ∧ Q23a Z  h0 n0 v U'.heap L ∧ FrameEnd U o U' L ({ frames := 0, cells := 0, slots := 0, locals := 0 } : Room).cells ({ frames := 0, cells := 0, slots := 0, locals := 0 } : Room).slots) := by
  refine MetFree.of_bodySF (plainFor_of_name own_pn_java_lang_StringUTF16) hisR ?_
  intro p e s m args below meth c s₁ Bd hml0 hP hK
  obtain ⟨rfl, hZ, hh⟩ := hP
  have hx := Bd.exec
  have hby := Bd.bytes
  have hml : c.maxLocals = 1 := hml0
  have hown : s.vm.findClass "java/lang/StringUTF16" = some m.cls := findClass_of_methodNamed Bd.named
  have hnm := (name_of_methodNamed Bd.named Bd.method).1
  have X0 : Stand p l e ({ frames := 0, cells := 0, slots := 0, locals := 0 } : Room) s m #[(.int (1 : Int32))] below meth c s₁ [] 0 0 := Stand.of_body Bd
  have e0 : s₁.heap = h0 := by rw [← hh, Bd.state]; rfl
  have N0 := Fr.nil n0
  change Go p.tables e below _ _
  refine own_on (B := s₁.setTop (mkF m 0 #[iv (1 : Int32)] [])) (fun tz kz => castTop (own_ef_23a m (1 : Int32)) kz) ?_
  refine own_on (B := s₁.setTop (mkF m 58 #[iv (1 : Int32)] [(.int (2 : Int32))])) (fun tz kz => ?_) ?_
  · show sT p e below s₁ (mkF m 0 #[iv (1 : Int32)] []) tz
    refine XS.iloadN X0.here hx rfl (hb hby own_d23_0) rfl ?_
    show sT p e below s₁ (mkF m 1 #[iv (1 : Int32)] [(.int (1 : Int32))]) tz
    refine XS.ifYes X0.here hx rfl (pc0 := 1) (pc' := 12) rfl (hb hby own_d23_1) rfl ((if0 _ _).trans (flt (by decide : ¬ ((1 : Int32) < (0 : Int32)))).2.1) (by decide) (by decide) ?_
    show sT p e below s₁ (mkF m 12 #[iv (1 : Int32)] []) tz
    refine XS.iloadN X0.here hx rfl (hb hby own_d23_12) rfl ?_
    show sT p e below s₁ (mkF m 13 #[iv (1 : Int32)] [(.int (1 : Int32))]) tz
    refine X0.ldcInt hx hown (mvT hZ (own_w hw 121 rfl)) (g := (mkF m 13 #[iv (1 : Int32)] [(.int (1 : Int32))])) rfl (hb hby own_d23_13) _ ?_
    show sT p e below s₁ (mkF m 15 #[iv (1 : Int32)] [(.int (1073741823 : Int32)), (.int (1 : Int32))]) tz
    refine XS.icmpYes X0.here hx rfl (pc0 := 15) (pc' := 55) rfl (hb hby own_d23_15) rfl (tlt (by decide : (1 : Int32) < (1073741823 : Int32))).1 (by decide) (by decide) ?_
    show sT p e below s₁ (mkF m 55 #[iv (1 : Int32)] []) tz
    refine XS.iloadN X0.here hx rfl (hb hby own_d23_55) rfl ?_
    show sT p e below s₁ (mkF m 56 #[iv (1 : Int32)] [(.int (1 : Int32))]) tz
    refine XS.iconst X0.here hx rfl (hb hby own_d23_56) ?_
    show sT p e below s₁ (mkF m 57 #[iv (1 : Int32)] [(.int (1 : Int32)), (.int (1 : Int32))]) tz
    refine XS.ishl X0.here hx rfl (hb hby own_d23_57) rfl ?_
    exact kz
  obtain ⟨fs, hr, hrun, hended, hW, hsame⟩ := X0.leave (v := some (.int (2 : Int32))) (fun h => by rw [Bd.returns] at h; cases h)
  refine own_of ⟨_, _, ?_, hrun, hended, _, _, rfl, ?_, ⟨_, rfl⟩, hW, hsame.mono (by decide) (by decide)⟩
  · show sT p e below s₁ (mkF m 58 #[iv (1 : Int32)] [(.int (2 : Int32))]) _
    exact own_retI X0 hx Bd.returns (hb hby own_d23_58) hr
  · show Q23a Z  h0 n0 _ s₁.heap _
    rw [e0]
    exact ⟨rfl, N0, rfl⟩
theorem own_ef_22a (m : MethodId) (x0 : Int32) : entryFrame m #[(.int x0)] 1 = mkF m 0 #[iv x0] [] := by first | (simp [entryFrame, mkF, argsToLocals, Value.category]; done) | rfl
def Q22a (Z : State)  (h0 : Heap) (n0 : Nat) (v : Option Value) (h : Heap) (L : List Loc) : Prop := ∃ (d : Addr) (kk : ClassId), v = some (.ref d) ∧ Fr n0 L ∧ Keep h0 h [] ∧ h0.size ≤ d ∧ Arv Z h d kk .byte (2 : Int32) [(.int (0 : Int32)), (.int (0 : Int32))] (.int 0)
theorem own_d22_0 : decode jdk_52_method_2_code 0 = .ok (.iload_n 0, 1) := by decide +kernel
theorem own_pd0 : parseMethodDescriptor "(I)I" = some ⟨[.int], some .int⟩ := by decide +kernel
theorem own_d22_1 : decode jdk_52_method_2_code 1 = .ok (.invokestatic 11, 3) := by decide +kernel
theorem own_d22_4 : decode jdk_52_method_2_code 4 = .ok (.newarray .byte, 2) := by decide +kernel
theorem own_d22_6 : decode jdk_52_method_2_code 6 = .ok (.areturn, 1) := by decide +kernel
set_option maxRecDepth 65536 in
set_option maxHeartbeats 40000000 in
theorem rm22a (l : Launch) (Z : State) (a0 : Array Value) (hw : ∀ d ∈ tables_1, d.before a0 Z = true) (ws : List Jvm.Cond)  (h0 : Heap) (n0 : Nat) (O0 : Old Z n0 h0) :
    MetFree l (⟨"java/lang/StringUTF16", "newBytesFor", "(I)[B"⟩ : MethodName) (head1 (Jvm.Cond.code (⟨"java/lang/StringUTF16", "newBytesFor", "(I)[B"⟩ : MethodName) jdk_52_method_2_code 1 (some (.array .byte)) :: ws) ({ frames := 1, cells := 1, slots := 2, locals := 12 } : Room)) (fun a U => a = #[(.int (1 : Int32))] ∧ Z.Warmed39 U.vm ∧ U.heap = h0) (fun _ _ _ _ _ => True) (fun _ U o U' => ∃ v L, o = .returned v ∧ Q22a Z  h0 n0 v U'.heap L ∧ FrameEnd U o U' L ({ frames := 1, cells := 1, slots := 2, locals := 12 } : Room).cells ({ frames := 1, cells := 1, slots := 2, locals := 12 } : Room).slots) := by
  refine MetFree.of_bodySF (plainFor_of_name own_pn_java_lang_StringUTF16) hisR ?_
  intro p e s m args below meth c s₁ Bd hml0 hP hK
  obtain ⟨rfl, hZ, hh⟩ := hP
  have hx := Bd.exec
  have hby := Bd.bytes
  have hml : c.maxLocals = 1 := hml0
  have hown : s.vm.findClass "java/lang/StringUTF16" = some m.cls := findClass_of_methodNamed Bd.named
  have hnm := (name_of_methodNamed Bd.named Bd.method).1
  have X0 : Stand p l e ({ frames := 1, cells := 1, slots := 2, locals := 12 } : Room) s m #[(.int (1 : Int32))] below meth c s₁ [] 0 0 := Stand.of_body Bd
  have e0 : s₁.heap = h0 := by rw [← hh, Bd.state]; rfl
  have N0 := Fr.nil n0
  change Go p.tables e below _ _
  refine own_on (B := s₁.setTop (mkF m 0 #[iv (1 : Int32)] [])) (fun tz kz => castTop (own_ef_22a m (1 : Int32)) kz) ?_
  refine own_on (B := s₁.setTop (mkF m 1 #[iv (1 : Int32)] [(.int (1 : Int32))])) (fun tz kz => ?_) ?_
  · show sT p e below s₁ (mkF m 0 #[iv (1 : Int32)] []) tz
    refine XS.iloadN X0.here hx rfl (hb hby own_d22_0) rfl ?_
    exact kz
  obtain ⟨_, _, ⟨T1, L1, k1, n1⟩, -, X1, ⟨Lc1, hQ1, l1, y1, z1⟩, st1⟩ := Jvm.LawKit.callS X0 hx (y := (⟨"java/lang/StringUTF16", "newBytesLength", "(I)I"⟩ : MethodName)) hown (mvT hZ (own_w hw 118 rfl)) (mvT hZ (own_w hw 119 rfl)) (mvT hZ (own_w hw 104 rfl)) (mvT hZ (own_w hw 120 rfl)) (by decide) (backOf (W := 0) (rm23a l Z a0 hw []   h0 n0 O0 ) hZ (own_w hw 120 rfl) (own_w hw 104 rfl) (by decide) (by decide)) (g := (mkF m 1 #[iv (1 : Int32)] [(.int (1 : Int32))])) rfl (by rw [hml]; rfl) (argsL := [(.int (1 : Int32))]) (rest := []) (lenOf own_pd0 rfl) rfl (by show 2 * 0 + _ ≤ _; exact Nat.le_of_eq rfl) (hb hby own_d22_1) (fun _ _ => ⟨rfl, e0, (by decide : 0 + 0 ≤ _), (by decide : 0 + 0 ≤ _)⟩)
  dsimp only [Pt.U, Pt.locs, Pt.cells, Pt.slots] at X1 l1 y1 z1 st1 hQ1
  subst l1 y1 z1
  obtain ⟨rfl, Nq1, e1⟩ := hQ1
  have N1 := Fr.app N0 Nq1
  refine own_on (B := T1.setTop (mkF m 4 #[iv (1 : Int32)] [(.int (2 : Int32))])) (fun tz kz => st1 _ kz) ?_
  obtain ⟨T2, h2, k2, X2, e2, E2, A2, st2⟩ := newP X1 hx hZ (own_w hw 21 rfl) e1 (g := (mkF m 4 #[iv (1 : Int32)] [(.int (2 : Int32))])) rfl (hb hby own_d22_4) rfl (by decide) (cap := 2) (by decide) (by decide) (by decide) (by decide)
  obtain ⟨b2, g2⟩ : ∃ z, z = h0.size := ⟨_, rfl⟩
  rw [← g2] at A2 st2
  have g_b2 : n0 ≤ b2 := Nat.le_trans (own_old O0) (Nat.le_of_eq g2.symm)
  have sz_b2 : h0.size ≤ b2 := Nat.le_trans (Keep.refl h0 []).1 (Nat.le_of_eq g2.symm)
  have O3 := O0.ext E2
  have K3 : Keep h0 h2 [] := (Keep.refl h0 []).ext E2
  have V2 : Arv Z h2 b2 k2 .byte (2 : Int32) [(.int (0 : Int32)), (.int (0 : Int32))] (.int (0 : Int32)) := (Arv.new A2 (by decide)).pad (pad_rep [] (.int (0 : Int32)) 2)
  refine own_on (B := T2.setTop (mkF m 6 #[iv (1 : Int32)] [(.ref b2)])) (fun tz kz => st2 _ kz) ?_
  obtain ⟨fs, hr, hrun, hended, hW, hsame⟩ := X2.leave (v := some (.ref b2)) (fun h => by rw [Bd.returns] at h; cases h)
  refine own_of ⟨_, _, ?_, hrun, hended, _, _, rfl, ?_, ⟨_, rfl⟩, hW, hsame.mono (by decide) (by decide)⟩
  · show sT p e below T2 (mkF m 6 #[iv (1 : Int32)] [(.ref b2)]) _
    exact own_retV X2 hx Bd.returns rfl rfl (hb hby own_d22_6) hr
  · show Q22a Z  h0 n0 _ T2.heap _
    rw [e2]
    exact ⟨b2, k2, rfl, N1, K3, sz_b2, V2⟩
theorem own_ef_21a (m : MethodId) (x0 : Addr) (x1 : Int32) (x2 : Int32) : entryFrame m #[(.ref x0), (.int x1), (.int x2)] 5 = mkF m 0 #[rv x0, iv x1, iv x2, .unset, .unset] [] := by first | (simp [entryFrame, mkF, argsToLocals, Value.category]; done) | rfl
def Q21a (Z : State) (u0 : Addr) (kx : ClassId) (x0 : Int32) (h0 : Heap) (n0 : Nat) (v : Option Value) (h : Heap) (L : List Loc) : Prop := ∃ (d : Addr) (kk : ClassId), v = some (.ref d) ∧ Fr n0 L ∧ Keep h0 h [] ∧ h0.size ≤ d ∧ Arv Z h d kk .byte (2 : Int32) [(.int (nar .byte ((x0 >>> ((0 : Int32) &&& 31)).toInt8.toInt32))), (.int (nar .byte ((x0 >>> ((8 : Int32) &&& 31)).toInt8.toInt32)))] (.int 0)
theorem own_d21_0 : decode jdk_52_method_14_code 0 = .ok (.iload_n 2, 1) := by decide +kernel
theorem own_pd1 : parseMethodDescriptor "(I)[B" = some ⟨[.int], some (.array .byte)⟩ := by decide +kernel
theorem own_d21_1 : decode jdk_52_method_14_code 1 = .ok (.invokestatic 107, 3) := by decide +kernel
theorem own_d21_4 : decode jdk_52_method_14_code 4 = .ok (.astore_n 3, 1) := by decide +kernel
theorem own_d21_5 : decode jdk_52_method_14_code 5 = .ok (.iconst 0, 1) := by decide +kernel
theorem own_d21_6 : decode jdk_52_method_14_code 6 = .ok (.istore 4, 2) := by decide +kernel
theorem own_d21_8 : decode jdk_52_method_14_code 8 = .ok (.iload 4, 2) := by decide +kernel
theorem own_d21_10 : decode jdk_52_method_14_code 10 = .ok (.iload_n 2, 1) := by decide +kernel
theorem own_d21_11 : decode jdk_52_method_14_code 11 = .ok (.if_icmp .ge 21, 3) := by decide +kernel
theorem own_d21_14 : decode jdk_52_method_14_code 14 = .ok (.aload_n 3, 1) := by decide +kernel
theorem own_d21_15 : decode jdk_52_method_14_code 15 = .ok (.iload 4, 2) := by decide +kernel
theorem own_d21_17 : decode jdk_52_method_14_code 17 = .ok (.aload_n 0, 1) := by decide +kernel
theorem own_d21_18 : decode jdk_52_method_14_code 18 = .ok (.iload_n 1, 1) := by decide +kernel
theorem own_d21_19 : decode jdk_52_method_14_code 19 = .ok (.caload, 1) := by decide +kernel
theorem own_pd2 : parseMethodDescriptor "([BII)V" = some ⟨[(.array .byte), .int, .int], none⟩ := by decide +kernel
theorem own_d21_20 : decode jdk_52_method_14_code 20 = .ok (.invokestatic 111, 3) := by decide +kernel
theorem own_d21_23 : decode jdk_52_method_14_code 23 = .ok (.iinc 1 1, 3) := by decide +kernel
theorem own_d21_26 : decode jdk_52_method_14_code 26 = .ok (.iinc 4 1, 3) := by decide +kernel
theorem own_d21_29 : decode jdk_52_method_14_code 29 = .ok (.goto (-21), 3) := by decide +kernel
theorem own_d21_32 : decode jdk_52_method_14_code 32 = .ok (.aload_n 3, 1) := by decide +kernel
theorem own_d21_33 : decode jdk_52_method_14_code 33 = .ok (.areturn, 1) := by decide +kernel
set_option maxRecDepth 65536 in
set_option maxHeartbeats 40000000 in
theorem rm21a (l : Launch) (Z : State) (a0 : Array Value) (hw : ∀ d ∈ tables_1, d.before a0 Z = true) (ws : List Jvm.Cond) (u0 : Addr) (kx : ClassId) (x0 : Int32) (h0 : Heap) (n0 : Nat) (O0 : Old Z n0 h0) (S_as : Sta Z Z.heap "java/lang/StringUTF16" "$assertionsDisabled" "Z" (.int 1)) (S_hi : Sta Z Z.heap "java/lang/StringUTF16" "HI_BYTE_SHIFT" "I" (.int 0)) (S_lo : Sta Z Z.heap "java/lang/StringUTF16" "LO_BYTE_SHIFT" "I" (.int 8)) (Vc : Arv Z h0 u0 kx .char (1 : Int32) [(.int x0)] (.int 0)) :
    MetFree l (⟨"java/lang/StringUTF16", "toBytes", "([CII)[B"⟩ : MethodName) (head1 (Jvm.Cond.code (⟨"java/lang/StringUTF16", "toBytes", "([CII)[B"⟩ : MethodName) jdk_52_method_14_code 5 (some (.array .byte)) :: ws) ({ frames := 2, cells := 1, slots := 2, locals := 24 } : Room)) (fun a U => a = #[(.ref u0), (.int (0 : Int32)), (.int (1 : Int32))] ∧ Z.Warmed39 U.vm ∧ U.heap = h0) (fun _ _ _ _ _ => True) (fun _ U o U' => ∃ v L, o = .returned v ∧ Q21a Z u0 kx x0 h0 n0 v U'.heap L ∧ FrameEnd U o U' L ({ frames := 2, cells := 1, slots := 2, locals := 24 } : Room).cells ({ frames := 2, cells := 1, slots := 2, locals := 24 } : Room).slots) := by
  refine MetFree.of_bodySF (plainFor_of_name own_pn_java_lang_StringUTF16) hisR ?_
  intro p e s m args below meth c s₁ Bd hml0 hP hK
  obtain ⟨rfl, hZ, hh⟩ := hP
  have hx := Bd.exec
  have hby := Bd.bytes
  have hml : c.maxLocals = 5 := hml0
  have hown : s.vm.findClass "java/lang/StringUTF16" = some m.cls := findClass_of_methodNamed Bd.named
  have hnm := (name_of_methodNamed Bd.named Bd.method).1
  have X0 : Stand p l e ({ frames := 2, cells := 1, slots := 2, locals := 24 } : Room) s m #[(.ref u0), (.int (0 : Int32)), (.int (1 : Int32))] below meth c s₁ [] 0 0 := Stand.of_body Bd
  have e0 : s₁.heap = h0 := by rw [← hh, Bd.state]; rfl
  have N0 := Fr.nil n0
  change Go p.tables e below _ _
  refine own_on (B := s₁.setTop (mkF m 0 #[rv u0, iv (0 : Int32), iv (1 : Int32), .unset, .unset] [])) (fun tz kz => castTop (own_ef_21a m u0 (0 : Int32) (1 : Int32)) kz) ?_
  refine own_on (B := s₁.setTop (mkF m 1 #[rv u0, iv (0 : Int32), iv (1 : Int32), .unset, .unset] [(.int (1 : Int32))])) (fun tz kz => ?_) ?_
  · show sT p e below s₁ (mkF m 0 #[rv u0, iv (0 : Int32), iv (1 : Int32), .unset, .unset] []) tz
    refine XS.iloadN X0.here hx rfl (hb hby own_d21_0) rfl ?_
    exact kz
  obtain ⟨_, _, ⟨T1, L1, k1, n1⟩, -, X1, ⟨Lc1, hQ1, l1, y1, z1⟩, st1⟩ := Jvm.LawKit.callS X0 hx (y := (⟨"java/lang/StringUTF16", "newBytesFor", "(I)[B"⟩ : MethodName)) hown (mvT hZ (own_w hw 115 rfl)) (mvT hZ (own_w hw 116 rfl)) (mvT hZ (own_w hw 104 rfl)) (mvT hZ (own_w hw 117 rfl)) (by decide) (backOf (W := 0) (rm22a l Z a0 hw []   h0 n0 O0 ) hZ (own_w hw 117 rfl) (own_w hw 104 rfl) (by decide) (by decide)) (g := (mkF m 1 #[rv u0, iv (0 : Int32), iv (1 : Int32), .unset, .unset] [(.int (1 : Int32))])) rfl (by rw [hml]; rfl) (argsL := [(.int (1 : Int32))]) (rest := []) (lenOf own_pd1 rfl) rfl (by show 2 * 0 + _ ≤ _; exact Nat.le_of_eq rfl) (hb hby own_d21_1) (fun _ _ => ⟨rfl, e0, (by decide : 0 + 1 ≤ _), (by decide : 0 + 2 ≤ _)⟩)
  dsimp only [Pt.U, Pt.locs, Pt.cells, Pt.slots] at X1 l1 y1 z1 st1 hQ1
  subst l1 y1 z1
  obtain ⟨d1, kd1, rfl, Nq1, Kq1, zq1, Vq1⟩ := hQ1
  have N1 := Fr.app N0 Nq1
  have ne_u0_d1 : u0 ≠ d1 := Nat.ne_of_lt (Nat.lt_of_lt_of_le (Vc).lt zq1)
  have g_d1 : n0 ≤ d1 := Nat.le_trans (own_old O0) zq1
  have sz_d1 : h0.size ≤ d1 := Nat.le_trans (Keep.refl h0 []).1 zq1
  have O2 := O0.keep Kq1 all0
  have K2 : Keep h0 T1.heap [] := (Keep.refl h0 []).trans Kq1 all0
  refine own_on (B := T1.setTop (mkF m 4 #[rv u0, iv (0 : Int32), iv (1 : Int32), .unset, .unset] [(.ref d1)])) (fun tz kz => st1 _ kz) ?_
  refine own_on (B := T1.setTop (mkF m 19 #[rv u0, iv (0 : Int32), iv (1 : Int32), rv d1, iv (0 : Int32)] [(.int (0 : Int32)), (.ref u0), (.int (0 : Int32)), (.ref d1)])) (fun tz kz => ?_) ?_
  · show sT p e below T1 (mkF m 4 #[rv u0, iv (0 : Int32), iv (1 : Int32), .unset, .unset] [(.ref d1)]) tz
    refine XS.astoreN X1.here hx rfl (hb hby own_d21_4) rfl rfl (l' := #[rv u0, iv (0 : Int32), iv (1 : Int32), rv d1, .unset]) rfl ?_
    show sT p e below T1 (mkF m 5 #[rv u0, iv (0 : Int32), iv (1 : Int32), rv d1, .unset] []) tz
    refine XS.iconst X1.here hx rfl (hb hby own_d21_5) ?_
    show sT p e below T1 (mkF m 6 #[rv u0, iv (0 : Int32), iv (1 : Int32), rv d1, .unset] [(.int (0 : Int32))]) tz
    refine XS.istore X1.here hx rfl (hb hby own_d21_6) rfl (l' := #[rv u0, iv (0 : Int32), iv (1 : Int32), rv d1, iv (0 : Int32)]) rfl ?_
    show sT p e below T1 (mkF m 8 #[rv u0, iv (0 : Int32), iv (1 : Int32), rv d1, iv (0 : Int32)] []) tz
    refine XS.iload X1.here hx rfl (hb hby own_d21_8) rfl ?_
    show sT p e below T1 (mkF m 10 #[rv u0, iv (0 : Int32), iv (1 : Int32), rv d1, iv (0 : Int32)] [(.int (0 : Int32))]) tz
    refine XS.iloadN X1.here hx rfl (hb hby own_d21_10) rfl ?_
    show sT p e below T1 (mkF m 11 #[rv u0, iv (0 : Int32), iv (1 : Int32), rv d1, iv (0 : Int32)] [(.int (1 : Int32)), (.int (0 : Int32))]) tz
    refine XS.icmpNo X1.here hx rfl (hb hby own_d21_11) rfl (tlt (by decide : (0 : Int32) < (1 : Int32))).2.1 ?_
    show sT p e below T1 (mkF m 14 #[rv u0, iv (0 : Int32), iv (1 : Int32), rv d1, iv (0 : Int32)] []) tz
    refine XS.aloadN X1.here hx rfl (hb hby own_d21_14) rfl rfl ?_
    show sT p e below T1 (mkF m 15 #[rv u0, iv (0 : Int32), iv (1 : Int32), rv d1, iv (0 : Int32)] [(.ref d1)]) tz
    refine XS.iload X1.here hx rfl (hb hby own_d21_15) rfl ?_
    show sT p e below T1 (mkF m 17 #[rv u0, iv (0 : Int32), iv (1 : Int32), rv d1, iv (0 : Int32)] [(.int (0 : Int32)), (.ref d1)]) tz
    refine XS.aloadN X1.here hx rfl (hb hby own_d21_17) rfl rfl ?_
    show sT p e below T1 (mkF m 18 #[rv u0, iv (0 : Int32), iv (1 : Int32), rv d1, iv (0 : Int32)] [(.ref u0), (.int (0 : Int32)), (.ref d1)]) tz
    refine XS.iloadN X1.here hx rfl (hb hby own_d21_18) rfl ?_
    exact kz
  have f_3 := (Vc.keep Kq1 nin0)
  obtain ⟨cl4, Ar4, q4, S4, M4, H4, G4⟩ := id f_3
  have hin5 : ¬ ((0 : Int32) < 0 ∨ cl4.slots.size ≤ ((0 : Int32)).toNatClampNeg) := inb_of S4 ⟨by decide, by decide⟩
  have hat5 : cl4.slots[((0 : Int32)).toNatClampNeg]? = some (.int x0) := Has.at H4 hin5 rfl
  refine own_on (B := T1.setTop (mkF m 20 #[rv u0, iv (0 : Int32), iv (1 : Int32), rv d1, iv (0 : Int32)] [(.int x0), (.int (0 : Int32)), (.ref d1)])) (fun tz kz => ?_) ?_
  · show sT p e below T1 (mkF m 19 #[rv u0, iv (0 : Int32), iv (1 : Int32), rv d1, iv (0 : Int32)] [(.int (0 : Int32)), (.ref u0), (.int (0 : Int32)), (.ref d1)]) tz
    refine X1.caload hx (j := (0 : Int32)) (v := (.int x0)) (Ar4.1) (State.isArrayOf_alike hZ.alike Ar4.2.1) Ar4.2.2 hin5 hat5 (g := (mkF m 19 #[rv u0, iv (0 : Int32), iv (1 : Int32), rv d1, iv (0 : Int32)] [(.int (0 : Int32)), (.ref u0), (.int (0 : Int32)), (.ref d1)])) rfl rfl (hb hby own_d21_19) _ ?_
    exact kz
  obtain ⟨_, _, ⟨T6, L6, k6, n6⟩, -, X6, ⟨Lc6, hQ6, l6, y6, z6⟩, st6⟩ := Jvm.LawKit.callS X1 hx (y := (⟨"java/lang/StringUTF16", "putChar", "([BII)V"⟩ : MethodName)) hown (mvT hZ (own_w hw 122 rfl)) (mvT hZ (own_w hw 123 rfl)) (mvT hZ (own_w hw 104 rfl)) (mvT hZ (own_w hw 124 rfl)) (by decide) (backOf (W := 0) (rm24a l Z a0 hw [] d1 x0 kd1 (2 : Int32) [(.int (0 : Int32)), (.int (0 : Int32))] T1.heap n0 O2 S_as S_hi S_lo Vq1 g_d1 (by decide) (Nat.le_of_ble_eq_true rfl)) hZ (own_w hw 124 rfl) (own_w hw 104 rfl) (by decide) (by decide)) (g := (mkF m 20 #[rv u0, iv (0 : Int32), iv (1 : Int32), rv d1, iv (0 : Int32)] [(.int x0), (.int (0 : Int32)), (.ref d1)])) rfl (by rw [hml]; rfl) (argsL := [(.ref d1), (.int (0 : Int32)), (.int x0)]) (rest := []) (lenOf own_pd2 rfl) rfl (by show 2 * 0 + _ ≤ _; exact Nat.le_of_eq rfl) (hb hby own_d21_20) (fun _ _ => ⟨rfl, rfl, (by decide : 1 + 0 ≤ _), (by decide : 2 + 0 ≤ _)⟩)
  dsimp only [Pt.U, Pt.locs, Pt.cells, Pt.slots] at X6 l6 y6 z6 st6 hQ6
  subst l6 y6 z6
  obtain ⟨rfl, Nq6, Kq6, Vq6⟩ := hQ6
  have N6 := Fr.app N1 Nq6
  have O7 := O2.keep Kq6 (allS g_d1 all0)
  have K7 : Keep h0 T6.heap [] := K2.trans Kq6 (allS (Or.inr sz_d1) all0)
  refine own_on (B := T6.setTop (mkF m 23 #[rv u0, iv (0 : Int32), iv (1 : Int32), rv d1, iv (0 : Int32)] [])) (fun tz kz => st6 _ kz) ?_
  have Vl6 : Arv Z T6.heap d1 kd1 .byte (2 : Int32) [(.int (nar .byte ((x0 >>> ((0 : Int32) &&& 31)).toInt8.toInt32))), (.int (nar .byte ((x0 >>> ((8 : Int32) &&& 31)).toInt8.toInt32)))] (.int 0) := Vq6
  refine own_on (B := T6.setTop (mkF m 33 #[rv u0, iv (1 : Int32), iv (1 : Int32), rv d1, iv (1 : Int32)] [(.ref d1)])) (fun tz kz => ?_) ?_
  · show sT p e below T6 (mkF m 23 #[rv u0, iv (0 : Int32), iv (1 : Int32), rv d1, iv (0 : Int32)] []) tz
    refine XS.iinc X6.here hx rfl (hb hby own_d21_23) rfl (l' := #[rv u0, iv (1 : Int32), iv (1 : Int32), rv d1, iv (0 : Int32)]) rfl ?_
    show sT p e below T6 (mkF m 26 #[rv u0, iv (1 : Int32), iv (1 : Int32), rv d1, iv (0 : Int32)] []) tz
    refine XS.iinc X6.here hx rfl (hb hby own_d21_26) rfl (l' := #[rv u0, iv (1 : Int32), iv (1 : Int32), rv d1, iv (1 : Int32)]) rfl ?_
    show sT p e below T6 (mkF m 29 #[rv u0, iv (1 : Int32), iv (1 : Int32), rv d1, iv (1 : Int32)] []) tz
    refine XS.goto X6.here hx rfl (pc0 := 29) (pc' := 8) rfl (hb hby own_d21_29) (by decide) (by decide) ?_
    show sT p e below T6 (mkF m 8 #[rv u0, iv (1 : Int32), iv (1 : Int32), rv d1, iv (1 : Int32)] []) tz
    refine XS.iload X6.here hx rfl (hb hby own_d21_8) rfl ?_
    show sT p e below T6 (mkF m 10 #[rv u0, iv (1 : Int32), iv (1 : Int32), rv d1, iv (1 : Int32)] [(.int (1 : Int32))]) tz
    refine XS.iloadN X6.here hx rfl (hb hby own_d21_10) rfl ?_
    show sT p e below T6 (mkF m 11 #[rv u0, iv (1 : Int32), iv (1 : Int32), rv d1, iv (1 : Int32)] [(.int (1 : Int32)), (.int (1 : Int32))]) tz
    refine XS.icmpYes X6.here hx rfl (pc0 := 11) (pc' := 32) rfl (hb hby own_d21_11) rfl (flt Int32.lt_irrefl).2.1 (by decide) (by decide) ?_
    show sT p e below T6 (mkF m 32 #[rv u0, iv (1 : Int32), iv (1 : Int32), rv d1, iv (1 : Int32)] []) tz
    refine XS.aloadN X6.here hx rfl (hb hby own_d21_32) rfl rfl ?_
    exact kz
  obtain ⟨fs, hr, hrun, hended, hW, hsame⟩ := X6.leave (v := some (.ref d1)) (fun h => by rw [Bd.returns] at h; cases h)
  refine own_of ⟨_, _, ?_, hrun, hended, _, _, rfl, ?_, ⟨_, rfl⟩, hW, hsame.mono (by decide) (by decide)⟩
  · show sT p e below T6 (mkF m 33 #[rv u0, iv (1 : Int32), iv (1 : Int32), rv d1, iv (1 : Int32)] [(.ref d1)]) _
    exact own_retV X6 hx Bd.returns rfl rfl (hb hby own_d21_33) hr
  · show Q21a Z u0 kx x0 h0 n0 _ T6.heap _
    exact ⟨d1, kd1, rfl, N6, K7, sz_d1, Vl6⟩
theorem own_ef_19a (m : MethodId) (x0 : Addr) (x1 : Int32) (x2 : Addr) (x3 : Int32) (x4 : Int32) : entryFrame m #[(.ref x0), (.int x1), (.ref x2), (.int x3), (.int x4)] 7 = mkF m 0 #[rv x0, iv x1, rv x2, iv x3, iv x4, .unset, .unset] [] := by first | (simp [entryFrame, mkF, argsToLocals, Value.category]; done) | rfl
def Q19a (Z : State) (u0 : Addr) (u2 : Addr) (kx : ClassId) (x0 : Int32) (h0 : Heap) (n0 : Nat) (v : Option Value) (h : Heap) (L : List Loc) : Prop := v = some (.int (if (255 : Int32) < x0 then (0 : Int32) else (1 : Int32))) ∧ Fr n0 L ∧ Keep h0 h [u2] ∧ OwnArz Z h u2 .byte (1 : Int32)
theorem own_d19_0 : decode jdk_52_method_21_code 0 = .ok (.iconst 0, 1) := by decide +kernel
theorem own_d19_1 : decode jdk_52_method_21_code 1 = .ok (.istore 5, 2) := by decide +kernel
theorem own_d19_3 : decode jdk_52_method_21_code 3 = .ok (.iload 5, 2) := by decide +kernel
theorem own_d19_5 : decode jdk_52_method_21_code 5 = .ok (.iload 4, 2) := by decide +kernel
theorem own_d19_7 : decode jdk_52_method_21_code 7 = .ok (.if_icmp .ge 37, 3) := by decide +kernel
theorem own_d19_10 : decode jdk_52_method_21_code 10 = .ok (.aload_n 0, 1) := by decide +kernel
theorem own_d19_11 : decode jdk_52_method_21_code 11 = .ok (.iload_n 1, 1) := by decide +kernel
theorem own_d19_12 : decode jdk_52_method_21_code 12 = .ok (.caload, 1) := by decide +kernel
theorem own_d19_13 : decode jdk_52_method_21_code 13 = .ok (.istore 6, 2) := by decide +kernel
theorem own_d19_15 : decode jdk_52_method_21_code 15 = .ok (.iload 6, 2) := by decide +kernel
theorem own_d19_17 : decode jdk_52_method_21_code 17 = .ok (.sipush 255, 3) := by decide +kernel
theorem own_d19_20 : decode jdk_52_method_21_code 20 = .ok (.if_icmp .le 6, 3) := by decide +kernel
theorem own_d19_23 : decode jdk_52_method_21_code 23 = .ok (.iload 5, 2) := by decide +kernel
theorem own_d19_25 : decode jdk_52_method_21_code 25 = .ok (.ireturn, 1) := by decide +kernel
theorem own_d19_26 : decode jdk_52_method_21_code 26 = .ok (.aload_n 2, 1) := by decide +kernel
theorem own_d19_27 : decode jdk_52_method_21_code 27 = .ok (.iload_n 3, 1) := by decide +kernel
theorem own_d19_28 : decode jdk_52_method_21_code 28 = .ok (.iload 6, 2) := by decide +kernel
theorem own_d19_30 : decode jdk_52_method_21_code 30 = .ok (.i2b, 1) := by decide +kernel
theorem own_d19_31 : decode jdk_52_method_21_code 31 = .ok (.bastore, 1) := by decide +kernel
theorem own_d19_32 : decode jdk_52_method_21_code 32 = .ok (.iinc 1 1, 3) := by decide +kernel
theorem own_d19_35 : decode jdk_52_method_21_code 35 = .ok (.iinc 3 1, 3) := by decide +kernel
theorem own_d19_38 : decode jdk_52_method_21_code 38 = .ok (.iinc 5 1, 3) := by decide +kernel
theorem own_d19_41 : decode jdk_52_method_21_code 41 = .ok (.goto (-38), 3) := by decide +kernel
theorem own_d19_44 : decode jdk_52_method_21_code 44 = .ok (.iload 4, 2) := by decide +kernel
theorem own_d19_46 : decode jdk_52_method_21_code 46 = .ok (.ireturn, 1) := by decide +kernel
set_option maxRecDepth 65536 in
set_option maxHeartbeats 40000000 in
theorem rm19a (l : Launch) (Z : State) (a0 : Array Value) (hw : ∀ d ∈ tables_1, d.before a0 Z = true) (ws : List Jvm.Cond) (u0 : Addr) (u2 : Addr) (kx : ClassId) (x0 : Int32) (h0 : Heap) (n0 : Nat) (O0 : Old Z n0 h0) (Vc : Arv Z h0 u0 kx .char (1 : Int32) [(.int x0)] (.int 0)) (Vb : OwnArz Z h0 u2 .byte (1 : Int32)) (g_u2 : n0 ≤ u2) (n02 : u0 ≠ u2) :
    MetFree l (⟨"java/lang/StringUTF16", "compress", "([CI[BII)I"⟩ : MethodName) (head1 (Jvm.Cond.code (⟨"java/lang/StringUTF16", "compress", "([CI[BII)I"⟩ : MethodName) jdk_52_method_21_code 7 (some .int) :: ws) ({ frames := 0, cells := 0, slots := 0, locals := 0 } : Room)) (fun a U => a = #[(.ref u0), (.int (0 : Int32)), (.ref u2), (.int (0 : Int32)), (.int (1 : Int32))] ∧ Z.Warmed39 U.vm ∧ U.heap = h0) (fun _ _ _ _ _ => True) (fun _ U o U' => ∃ v L, o = .returned v ∧ Q19a Z u0 u2 kx x0 h0 n0 v U'.heap L ∧ FrameEnd U o U' L ({ frames := 0, cells := 0, slots := 0, locals := 0 } : Room).cells ({ frames := 0, cells := 0, slots := 0, locals := 0 } : Room).slots) := by
  refine MetFree.of_bodySF (plainFor_of_name own_pn_java_lang_StringUTF16) hisR ?_
  intro p e s m args below meth c s₁ Bd hml0 hP hK
  obtain ⟨rfl, hZ, hh⟩ := hP
  have hx := Bd.exec
  have hby := Bd.bytes
  have hml : c.maxLocals = 7 := hml0
  have hown : s.vm.findClass "java/lang/StringUTF16" = some m.cls := findClass_of_methodNamed Bd.named
  have hnm := (name_of_methodNamed Bd.named Bd.method).1
  have X0 : Stand p l e ({ frames := 0, cells := 0, slots := 0, locals := 0 } : Room) s m #[(.ref u0), (.int (0 : Int32)), (.ref u2), (.int (0 : Int32)), (.int (1 : Int32))] below meth c s₁ [] 0 0 := Stand.of_body Bd
  have e0 : s₁.heap = h0 := by rw [← hh, Bd.state]; rfl
  have N0 := Fr.nil n0
  change Go p.tables e below _ _
  refine own_on (B := s₁.setTop (mkF m 0 #[rv u0, iv (0 : Int32), rv u2, iv (0 : Int32), iv (1 : Int32), .unset, .unset] [])) (fun tz kz => castTop (own_ef_19a m u0 (0 : Int32) u2 (0 : Int32) (1 : Int32)) kz) ?_
  refine own_on (B := s₁.setTop (mkF m 12 #[rv u0, iv (0 : Int32), rv u2, iv (0 : Int32), iv (1 : Int32), iv (0 : Int32), .unset] [(.int (0 : Int32)), (.ref u0)])) (fun tz kz => ?_) ?_
  · show sT p e below s₁ (mkF m 0 #[rv u0, iv (0 : Int32), rv u2, iv (0 : Int32), iv (1 : Int32), .unset, .unset] []) tz
    refine XS.iconst X0.here hx rfl (hb hby own_d19_0) ?_
    show sT p e below s₁ (mkF m 1 #[rv u0, iv (0 : Int32), rv u2, iv (0 : Int32), iv (1 : Int32), .unset, .unset] [(.int (0 : Int32))]) tz
    refine XS.istore X0.here hx rfl (hb hby own_d19_1) rfl (l' := #[rv u0, iv (0 : Int32), rv u2, iv (0 : Int32), iv (1 : Int32), iv (0 : Int32), .unset]) rfl ?_
    show sT p e below s₁ (mkF m 3 #[rv u0, iv (0 : Int32), rv u2, iv (0 : Int32), iv (1 : Int32), iv (0 : Int32), .unset] []) tz
    refine XS.iload X0.here hx rfl (hb hby own_d19_3) rfl ?_
    show sT p e below s₁ (mkF m 5 #[rv u0, iv (0 : Int32), rv u2, iv (0 : Int32), iv (1 : Int32), iv (0 : Int32), .unset] [(.int (0 : Int32))]) tz
    refine XS.iload X0.here hx rfl (hb hby own_d19_5) rfl ?_
    show sT p e below s₁ (mkF m 7 #[rv u0, iv (0 : Int32), rv u2, iv (0 : Int32), iv (1 : Int32), iv (0 : Int32), .unset] [(.int (1 : Int32)), (.int (0 : Int32))]) tz
    refine XS.icmpNo X0.here hx rfl (hb hby own_d19_7) rfl (tlt (by decide : (0 : Int32) < (1 : Int32))).2.1 ?_
    show sT p e below s₁ (mkF m 10 #[rv u0, iv (0 : Int32), rv u2, iv (0 : Int32), iv (1 : Int32), iv (0 : Int32), .unset] []) tz
    refine XS.aloadN X0.here hx rfl (hb hby own_d19_10) rfl rfl ?_
    show sT p e below s₁ (mkF m 11 #[rv u0, iv (0 : Int32), rv u2, iv (0 : Int32), iv (1 : Int32), iv (0 : Int32), .unset] [(.ref u0)]) tz
    refine XS.iloadN X0.here hx rfl (hb hby own_d19_11) rfl ?_
    exact kz
  obtain ⟨cl1, Ar1, q1, S1, M1, H1, G1⟩ := id Vc
  have hin2 : ¬ ((0 : Int32) < 0 ∨ cl1.slots.size ≤ ((0 : Int32)).toNatClampNeg) := inb_of S1 ⟨by decide, by decide⟩
  have hat2 : cl1.slots[((0 : Int32)).toNatClampNeg]? = some (.int x0) := Has.at H1 hin2 rfl
  refine own_on (B := s₁.setTop (mkF m 20 #[rv u0, iv (0 : Int32), rv u2, iv (0 : Int32), iv (1 : Int32), iv (0 : Int32), iv x0] [(.int (255 : Int32)), (.int x0)])) (fun tz kz => ?_) ?_
  · show sT p e below s₁ (mkF m 12 #[rv u0, iv (0 : Int32), rv u2, iv (0 : Int32), iv (1 : Int32), iv (0 : Int32), .unset] [(.int (0 : Int32)), (.ref u0)]) tz
    refine X0.caload hx (j := (0 : Int32)) (v := (.int x0)) (by rw [e0]; exact Ar1.1) (State.isArrayOf_alike hZ.alike Ar1.2.1) Ar1.2.2 hin2 hat2 (g := (mkF m 12 #[rv u0, iv (0 : Int32), rv u2, iv (0 : Int32), iv (1 : Int32), iv (0 : Int32), .unset] [(.int (0 : Int32)), (.ref u0)])) rfl rfl (hb hby own_d19_12) _ ?_
    show sT p e below s₁ (mkF m 13 #[rv u0, iv (0 : Int32), rv u2, iv (0 : Int32), iv (1 : Int32), iv (0 : Int32), .unset] [(.int x0)]) tz
    refine XS.istore X0.here hx rfl (hb hby own_d19_13) rfl (l' := #[rv u0, iv (0 : Int32), rv u2, iv (0 : Int32), iv (1 : Int32), iv (0 : Int32), iv x0]) rfl ?_
    show sT p e below s₁ (mkF m 15 #[rv u0, iv (0 : Int32), rv u2, iv (0 : Int32), iv (1 : Int32), iv (0 : Int32), iv x0] []) tz
    refine XS.iload X0.here hx rfl (hb hby own_d19_15) rfl ?_
    show sT p e below s₁ (mkF m 17 #[rv u0, iv (0 : Int32), rv u2, iv (0 : Int32), iv (1 : Int32), iv (0 : Int32), iv x0] [(.int x0)]) tz
    refine XS.sipush X0.here hx rfl (hb hby own_d19_17) ?_
    exact kz
  by_cases hs0 : (255 : Int32) < x0
  · refine own_on (B := s₁.setTop (mkF m 25 #[rv u0, iv (0 : Int32), rv u2, iv (0 : Int32), iv (1 : Int32), iv (0 : Int32), iv x0] [(.int (0 : Int32))])) (fun tz kz => ?_) ?_
    · show sT p e below s₁ (mkF m 20 #[rv u0, iv (0 : Int32), rv u2, iv (0 : Int32), iv (1 : Int32), iv (0 : Int32), iv x0] [(.int (255 : Int32)), (.int x0)]) tz
      refine XS.icmpNo X0.here hx rfl (hb hby own_d19_20) rfl (tlt hs0).2.2.2 ?_
      show sT p e below s₁ (mkF m 23 #[rv u0, iv (0 : Int32), rv u2, iv (0 : Int32), iv (1 : Int32), iv (0 : Int32), iv x0] []) tz
      refine XS.iload X0.here hx rfl (hb hby own_d19_23) rfl ?_
      exact kz
    obtain ⟨fs, hr, hrun, hended, hW, hsame⟩ := X0.leave (v := some (.int (0 : Int32))) (fun h => by rw [Bd.returns] at h; cases h)
    refine own_of ⟨_, _, ?_, hrun, hended, _, _, rfl, ?_, ⟨_, rfl⟩, hW, hsame.mono (by decide) (by decide)⟩
    · show sT p e below s₁ (mkF m 25 #[rv u0, iv (0 : Int32), rv u2, iv (0 : Int32), iv (1 : Int32), iv (0 : Int32), iv x0] [(.int (0 : Int32))]) _
      exact own_retI X0 hx Bd.returns (hb hby own_d19_25) hr
    · show Q19a Z u0 u2 kx x0 h0 n0 _ s₁.heap _
      rw [e0]
      exact ⟨by rw [if_pos hs0], N0, (Keep.refl h0 [u2]), Vb⟩
  · refine own_on (B := s₁.setTop (mkF m 31 #[rv u0, iv (0 : Int32), rv u2, iv (0 : Int32), iv (1 : Int32), iv (0 : Int32), iv x0] [(.int (x0.toInt8.toInt32)), (.int (0 : Int32)), (.ref u2)])) (fun tz kz => ?_) ?_
    · show sT p e below s₁ (mkF m 20 #[rv u0, iv (0 : Int32), rv u2, iv (0 : Int32), iv (1 : Int32), iv (0 : Int32), iv x0] [(.int (255 : Int32)), (.int x0)]) tz
      refine XS.icmpYes X0.here hx rfl (pc0 := 20) (pc' := 26) rfl (hb hby own_d19_20) rfl (flt hs0).2.2.2 (by decide) (by decide) ?_
      show sT p e below s₁ (mkF m 26 #[rv u0, iv (0 : Int32), rv u2, iv (0 : Int32), iv (1 : Int32), iv (0 : Int32), iv x0] []) tz
      refine XS.aloadN X0.here hx rfl (hb hby own_d19_26) rfl rfl ?_
      show sT p e below s₁ (mkF m 27 #[rv u0, iv (0 : Int32), rv u2, iv (0 : Int32), iv (1 : Int32), iv (0 : Int32), iv x0] [(.ref u2)]) tz
      refine XS.iloadN X0.here hx rfl (hb hby own_d19_27) rfl ?_
      show sT p e below s₁ (mkF m 28 #[rv u0, iv (0 : Int32), rv u2, iv (0 : Int32), iv (1 : Int32), iv (0 : Int32), iv x0] [(.int (0 : Int32)), (.ref u2)]) tz
      refine XS.iload X0.here hx rfl (hb hby own_d19_28) rfl ?_
      show sT p e below s₁ (mkF m 30 #[rv u0, iv (0 : Int32), rv u2, iv (0 : Int32), iv (1 : Int32), iv (0 : Int32), iv x0] [(.int x0), (.int (0 : Int32)), (.ref u2)]) tz
      refine XS.i2b X0.here hx rfl (hb hby own_d19_30) rfl ?_
      exact kz
    obtain ⟨cl3, Ar3, S3, M3⟩ := id Vb
    have hin3 : ¬ ((0 : Int32) < 0 ∨ cl3.slots.size ≤ ((0 : Int32)).toNatClampNeg) := inb_of S3 ⟨by decide, by decide⟩
    obtain ⟨T3, h3, X3, e3, W3, st3⟩ := stB X0 hx hZ e0 Ar3 (j := (0 : Int32)) hin3 (g := (mkF m 31 #[rv u0, iv (0 : Int32), rv u2, iv (0 : Int32), iv (1 : Int32), iv (0 : Int32), iv x0] [(.int (x0.toInt8.toInt32)), (.int (0 : Int32)), (.ref u2)])) rfl rfl (hb hby own_d19_31)
    have V3 := OwnArz.set Ar3 S3 M3 W3
    have N3 := Fr.snoc X3 N0 g_u2
    have O4 := O0.wr W3 g_u2
    have K4 : Keep h0 h3 [u2] := (Keep.refl h0 [u2]).wr W3 (Or.inl (List.mem_of_getElem? (i := 0) rfl))
    refine own_on (B := T3.setTop (mkF m 32 #[rv u0, iv (0 : Int32), rv u2, iv (0 : Int32), iv (1 : Int32), iv (0 : Int32), iv x0] [])) (fun tz kz => st3 _ kz) ?_
    refine own_on (B := T3.setTop (mkF m 46 #[rv u0, iv (1 : Int32), rv u2, iv (1 : Int32), iv (1 : Int32), iv (1 : Int32), iv x0] [(.int (1 : Int32))])) (fun tz kz => ?_) ?_
    · show sT p e below T3 (mkF m 32 #[rv u0, iv (0 : Int32), rv u2, iv (0 : Int32), iv (1 : Int32), iv (0 : Int32), iv x0] []) tz
      refine XS.iinc X3.here hx rfl (hb hby own_d19_32) rfl (l' := #[rv u0, iv (1 : Int32), rv u2, iv (0 : Int32), iv (1 : Int32), iv (0 : Int32), iv x0]) rfl ?_
      show sT p e below T3 (mkF m 35 #[rv u0, iv (1 : Int32), rv u2, iv (0 : Int32), iv (1 : Int32), iv (0 : Int32), iv x0] []) tz
      refine XS.iinc X3.here hx rfl (hb hby own_d19_35) rfl (l' := #[rv u0, iv (1 : Int32), rv u2, iv (1 : Int32), iv (1 : Int32), iv (0 : Int32), iv x0]) rfl ?_
      show sT p e below T3 (mkF m 38 #[rv u0, iv (1 : Int32), rv u2, iv (1 : Int32), iv (1 : Int32), iv (0 : Int32), iv x0] []) tz
      refine XS.iinc X3.here hx rfl (hb hby own_d19_38) rfl (l' := #[rv u0, iv (1 : Int32), rv u2, iv (1 : Int32), iv (1 : Int32), iv (1 : Int32), iv x0]) rfl ?_
      show sT p e below T3 (mkF m 41 #[rv u0, iv (1 : Int32), rv u2, iv (1 : Int32), iv (1 : Int32), iv (1 : Int32), iv x0] []) tz
      refine XS.goto X3.here hx rfl (pc0 := 41) (pc' := 3) rfl (hb hby own_d19_41) (by decide) (by decide) ?_
      show sT p e below T3 (mkF m 3 #[rv u0, iv (1 : Int32), rv u2, iv (1 : Int32), iv (1 : Int32), iv (1 : Int32), iv x0] []) tz
      refine XS.iload X3.here hx rfl (hb hby own_d19_3) rfl ?_
      show sT p e below T3 (mkF m 5 #[rv u0, iv (1 : Int32), rv u2, iv (1 : Int32), iv (1 : Int32), iv (1 : Int32), iv x0] [(.int (1 : Int32))]) tz
      refine XS.iload X3.here hx rfl (hb hby own_d19_5) rfl ?_
      show sT p e below T3 (mkF m 7 #[rv u0, iv (1 : Int32), rv u2, iv (1 : Int32), iv (1 : Int32), iv (1 : Int32), iv x0] [(.int (1 : Int32)), (.int (1 : Int32))]) tz
      refine XS.icmpYes X3.here hx rfl (pc0 := 7) (pc' := 44) rfl (hb hby own_d19_7) rfl (flt Int32.lt_irrefl).2.1 (by decide) (by decide) ?_
      show sT p e below T3 (mkF m 44 #[rv u0, iv (1 : Int32), rv u2, iv (1 : Int32), iv (1 : Int32), iv (1 : Int32), iv x0] []) tz
      refine XS.iload X3.here hx rfl (hb hby own_d19_44) rfl ?_
      exact kz
    obtain ⟨fs, hr, hrun, hended, hW, hsame⟩ := X3.leave (v := some (.int (1 : Int32))) (fun h => by rw [Bd.returns] at h; cases h)
    refine own_of ⟨_, _, ?_, hrun, hended, _, _, rfl, ?_, ⟨_, rfl⟩, hW, hsame.mono (by decide) (by decide)⟩
    · show sT p e below T3 (mkF m 46 #[rv u0, iv (1 : Int32), rv u2, iv (1 : Int32), iv (1 : Int32), iv (1 : Int32), iv x0] [(.int (1 : Int32))]) _
      exact own_retI X3 hx Bd.returns (hb hby own_d19_46) hr
    · show Q19a Z u0 u2 kx x0 h0 n0 _ T3.heap _
      rw [e3]
      exact ⟨by rw [if_neg hs0], N3, K4, V3⟩
theorem own_ef_18a (m : MethodId) (x0 : Addr) (x1 : Int32) (x2 : Int32) : entryFrame m #[(.ref x0), (.int x1), (.int x2)] 6 = mkF m 0 #[rv x0, iv x1, iv x2, .unset, .unset, .unset] [] := by first | (simp [entryFrame, mkF, argsToLocals, Value.category]; done) | rfl
def Q18a (Z : State) (u0 : Addr) (kx : ClassId) (x0 : Int32) (h0 : Heap) (n0 : Nat) (v : Option Value) (h : Heap) (L : List Loc) : Prop := ∃ (d : Addr) (ln cd : Int32), v = some (.ref d) ∧ Fr n0 L ∧ Keep h0 h [] ∧ h0.size ≤ d ∧ OwnArz Z h d .byte ln ∧ OwnLC (1 : Int32) ln cd
theorem own_d18_0 : decode jdk_52_method_16_code 0 = .ok (.iload_n 2, 1) := by decide +kernel
theorem own_d18_1 : decode jdk_52_method_16_code 1 = .ok (.newarray .byte, 2) := by decide +kernel
theorem own_d18_3 : decode jdk_52_method_16_code 3 = .ok (.astore_n 3, 1) := by decide +kernel
theorem own_d18_4 : decode jdk_52_method_16_code 4 = .ok (.aload_n 0, 1) := by decide +kernel
theorem own_d18_5 : decode jdk_52_method_16_code 5 = .ok (.iload_n 1, 1) := by decide +kernel
theorem own_d18_6 : decode jdk_52_method_16_code 6 = .ok (.aload_n 3, 1) := by decide +kernel
theorem own_d18_7 : decode jdk_52_method_16_code 7 = .ok (.iconst 0, 1) := by decide +kernel
theorem own_d18_8 : decode jdk_52_method_16_code 8 = .ok (.iload_n 2, 1) := by decide +kernel
theorem own_pd3 : parseMethodDescriptor "([CI[BII)I" = some ⟨[(.array .char), .int, (.array .byte), .int, .int], some .int⟩ := by decide +kernel
theorem own_d18_9 : decode jdk_52_method_16_code 9 = .ok (.invokestatic 115, 3) := by decide +kernel
theorem own_d18_12 : decode jdk_52_method_16_code 12 = .ok (.istore 4, 2) := by decide +kernel
theorem own_d18_14 : decode jdk_52_method_16_code 14 = .ok (.iload 4, 2) := by decide +kernel
theorem own_d18_16 : decode jdk_52_method_16_code 16 = .ok (.iload_n 2, 1) := by decide +kernel
theorem own_d18_17 : decode jdk_52_method_16_code 17 = .ok (.if_icmp .eq 40, 3) := by decide +kernel
theorem own_d18_20 : decode jdk_52_method_16_code 20 = .ok (.aload_n 0, 1) := by decide +kernel
theorem own_d18_21 : decode jdk_52_method_16_code 21 = .ok (.iload_n 1, 1) := by decide +kernel
theorem own_d18_22 : decode jdk_52_method_16_code 22 = .ok (.iload_n 2, 1) := by decide +kernel
theorem own_pd4 : parseMethodDescriptor "([CII)[B" = some ⟨[(.array .char), .int, .int], some (.array .byte)⟩ := by decide +kernel
theorem own_d18_23 : decode jdk_52_method_16_code 23 = .ok (.invokestatic 119, 3) := by decide +kernel
theorem own_d18_26 : decode jdk_52_method_16_code 26 = .ok (.astore 5, 2) := by decide +kernel
theorem own_d18_28 : decode jdk_52_method_16_code 28 = .ok (.aload 5, 2) := by decide +kernel
theorem own_d18_30 : decode jdk_52_method_16_code 30 = .ok (.iload 4, 2) := by decide +kernel
theorem own_pd5 : parseMethodDescriptor "([BI)C" = some ⟨[(.array .byte), .int], some .char⟩ := by decide +kernel
theorem own_d18_32 : decode jdk_52_method_16_code 32 = .ok (.invokestatic 71, 3) := by decide +kernel
theorem own_d18_35 : decode jdk_52_method_16_code 35 = .ok (.sipush 255, 3) := by decide +kernel
theorem own_d18_38 : decode jdk_52_method_16_code 38 = .ok (.if_icmp .gt 16, 3) := by decide +kernel
theorem own_d18_54 : decode jdk_52_method_16_code 54 = .ok (.aload 5, 2) := by decide +kernel
theorem own_d18_56 : decode jdk_52_method_16_code 56 = .ok (.areturn, 1) := by decide +kernel
theorem own_d18_57 : decode jdk_52_method_16_code 57 = .ok (.aload_n 3, 1) := by decide +kernel
theorem own_d18_58 : decode jdk_52_method_16_code 58 = .ok (.areturn, 1) := by decide +kernel
set_option maxRecDepth 65536 in
set_option maxHeartbeats 40000000 in
theorem rm18a (l : Launch) (Z : State) (a0 : Array Value) (hw : ∀ d ∈ tables_1, d.before a0 Z = true) (ws : List Jvm.Cond) (u0 : Addr) (kx : ClassId) (x0 : Int32) (h0 : Heap) (n0 : Nat) (O0 : Old Z n0 h0) (S_as : Sta Z Z.heap "java/lang/StringUTF16" "$assertionsDisabled" "Z" (.int 1)) (S_hi : Sta Z Z.heap "java/lang/StringUTF16" "HI_BYTE_SHIFT" "I" (.int 0)) (S_lo : Sta Z Z.heap "java/lang/StringUTF16" "LO_BYTE_SHIFT" "I" (.int 8)) (Vc : Arv Z h0 u0 kx .char (1 : Int32) [(.int x0)] (.int 0)) (l0 : ¬ x0 < 0) (u0_ : ¬ (65535 : Int32) < x0) :
    MetFree l (⟨"java/lang/StringUTF16", "compress", "([CII)[B"⟩ : MethodName) (head1 (Jvm.Cond.code (⟨"java/lang/StringUTF16", "compress", "([CII)[B"⟩ : MethodName) jdk_52_method_16_code 6 (some (.array .byte)) :: ws) ({ frames := 3, cells := 2, slots := 3, locals := 40 } : Room)) (fun a U => a = #[(.ref u0), (.int (0 : Int32)), (.int (1 : Int32))] ∧ Z.Warmed39 U.vm ∧ U.heap = h0) (fun _ _ _ _ _ => True) (fun _ U o U' => ∃ v L, o = .returned v ∧ Q18a Z u0 kx x0 h0 n0 v U'.heap L ∧ FrameEnd U o U' L ({ frames := 3, cells := 2, slots := 3, locals := 40 } : Room).cells ({ frames := 3, cells := 2, slots := 3, locals := 40 } : Room).slots) := by
  refine MetFree.of_bodySF (plainFor_of_name own_pn_java_lang_StringUTF16) hisR ?_
  intro p e s m args below meth c s₁ Bd hml0 hP hK
  obtain ⟨rfl, hZ, hh⟩ := hP
  have hx := Bd.exec
  have hby := Bd.bytes
  have hml : c.maxLocals = 6 := hml0
  have hown : s.vm.findClass "java/lang/StringUTF16" = some m.cls := findClass_of_methodNamed Bd.named
  have hnm := (name_of_methodNamed Bd.named Bd.method).1
  have X0 : Stand p l e ({ frames := 3, cells := 2, slots := 3, locals := 40 } : Room) s m #[(.ref u0), (.int (0 : Int32)), (.int (1 : Int32))] below meth c s₁ [] 0 0 := Stand.of_body Bd
  have e0 : s₁.heap = h0 := by rw [← hh, Bd.state]; rfl
  have N0 := Fr.nil n0
  change Go p.tables e below _ _
  refine own_on (B := s₁.setTop (mkF m 0 #[rv u0, iv (0 : Int32), iv (1 : Int32), .unset, .unset, .unset] [])) (fun tz kz => castTop (own_ef_18a m u0 (0 : Int32) (1 : Int32)) kz) ?_
  refine own_on (B := s₁.setTop (mkF m 1 #[rv u0, iv (0 : Int32), iv (1 : Int32), .unset, .unset, .unset] [(.int (1 : Int32))])) (fun tz kz => ?_) ?_
  · show sT p e below s₁ (mkF m 0 #[rv u0, iv (0 : Int32), iv (1 : Int32), .unset, .unset, .unset] []) tz
    refine XS.iloadN X0.here hx rfl (hb hby own_d18_0) rfl ?_
    exact kz
  obtain ⟨T1, h1, k1, X1, e1, E1, A1, st1⟩ := newP X0 hx hZ (own_w hw 21 rfl) e0 (g := (mkF m 1 #[rv u0, iv (0 : Int32), iv (1 : Int32), .unset, .unset, .unset] [(.int (1 : Int32))])) rfl (hb hby own_d18_1) rfl (by decide) (cap := 1) (by decide) (by decide) (by decide) (by decide)
  obtain ⟨b1, g1⟩ : ∃ z, z = h0.size := ⟨_, rfl⟩
  rw [← g1] at A1 st1
  have ne_u0_b1 : u0 ≠ b1 := Nat.ne_of_lt (Nat.lt_of_lt_of_le (Vc).lt (Nat.le_of_eq g1.symm))
  have g_b1 : n0 ≤ b1 := Nat.le_trans (own_old O0) (Nat.le_of_eq g1.symm)
  have sz_b1 : h0.size ≤ b1 := Nat.le_trans (Keep.refl h0 []).1 (Nat.le_of_eq g1.symm)
  have O2 := O0.ext E1
  have K2 : Keep h0 h1 [] := (Keep.refl h0 []).ext E1
  have V1 : Arv Z h1 b1 k1 .byte (1 : Int32) [] (.int (0 : Int32)) := Arv.new A1 (by decide)
  refine own_on (B := T1.setTop (mkF m 3 #[rv u0, iv (0 : Int32), iv (1 : Int32), .unset, .unset, .unset] [(.ref b1)])) (fun tz kz => st1 _ kz) ?_
  have V3 := OwnArz.of V1
  have f_4 := (Vc.ext E1)
  refine own_on (B := T1.setTop (mkF m 9 #[rv u0, iv (0 : Int32), iv (1 : Int32), rv b1, .unset, .unset] [(.int (1 : Int32)), (.int (0 : Int32)), (.ref b1), (.int (0 : Int32)), (.ref u0)])) (fun tz kz => ?_) ?_
  · show sT p e below T1 (mkF m 3 #[rv u0, iv (0 : Int32), iv (1 : Int32), .unset, .unset, .unset] [(.ref b1)]) tz
    refine XS.astoreN X1.here hx rfl (hb hby own_d18_3) rfl rfl (l' := #[rv u0, iv (0 : Int32), iv (1 : Int32), rv b1, .unset, .unset]) rfl ?_
    show sT p e below T1 (mkF m 4 #[rv u0, iv (0 : Int32), iv (1 : Int32), rv b1, .unset, .unset] []) tz
    refine XS.aloadN X1.here hx rfl (hb hby own_d18_4) rfl rfl ?_
    show sT p e below T1 (mkF m 5 #[rv u0, iv (0 : Int32), iv (1 : Int32), rv b1, .unset, .unset] [(.ref u0)]) tz
    refine XS.iloadN X1.here hx rfl (hb hby own_d18_5) rfl ?_
    show sT p e below T1 (mkF m 6 #[rv u0, iv (0 : Int32), iv (1 : Int32), rv b1, .unset, .unset] [(.int (0 : Int32)), (.ref u0)]) tz
    refine XS.aloadN X1.here hx rfl (hb hby own_d18_6) rfl rfl ?_
    show sT p e below T1 (mkF m 7 #[rv u0, iv (0 : Int32), iv (1 : Int32), rv b1, .unset, .unset] [(.ref b1), (.int (0 : Int32)), (.ref u0)]) tz
    refine XS.iconst X1.here hx rfl (hb hby own_d18_7) ?_
    show sT p e below T1 (mkF m 8 #[rv u0, iv (0 : Int32), iv (1 : Int32), rv b1, .unset, .unset] [(.int (0 : Int32)), (.ref b1), (.int (0 : Int32)), (.ref u0)]) tz
    refine XS.iloadN X1.here hx rfl (hb hby own_d18_8) rfl ?_
    exact kz
  obtain ⟨_, _, ⟨T5, L5, k5, n5⟩, -, X5, ⟨Lc5, hQ5, l5, y5, z5⟩, st5⟩ := Jvm.LawKit.callS X1 hx (y := (⟨"java/lang/StringUTF16", "compress", "([CI[BII)I"⟩ : MethodName)) hown (mvT hZ (own_w hw 106 rfl)) (mvT hZ (own_w hw 107 rfl)) (mvT hZ (own_w hw 104 rfl)) (mvT hZ (own_w hw 108 rfl)) (by decide) (backOf (W := 0) (rm19a l Z a0 hw [] u0 b1 kx x0 h1 n0 O2 f_4 V3 g_b1 ne_u0_b1) hZ (own_w hw 108 rfl) (own_w hw 104 rfl) (by decide) (by decide)) (g := (mkF m 9 #[rv u0, iv (0 : Int32), iv (1 : Int32), rv b1, .unset, .unset] [(.int (1 : Int32)), (.int (0 : Int32)), (.ref b1), (.int (0 : Int32)), (.ref u0)])) rfl (by rw [hml]; rfl) (argsL := [(.ref u0), (.int (0 : Int32)), (.ref b1), (.int (0 : Int32)), (.int (1 : Int32))]) (rest := []) (lenOf own_pd3 rfl) rfl (by show 2 * 0 + _ ≤ _; exact Nat.le_of_eq rfl) (hb hby own_d18_9) (fun _ _ => ⟨rfl, e1, (by decide : 1 + 0 ≤ _), (by decide : 1 + 0 ≤ _)⟩)
  dsimp only [Pt.U, Pt.locs, Pt.cells, Pt.slots] at X5 l5 y5 z5 st5 hQ5
  subst l5 y5 z5
  obtain ⟨rfl, Nq5, Kq5, Vq5⟩ := hQ5
  have N5 := Fr.app N0 Nq5
  have O6 := O2.keep Kq5 (allS g_b1 all0)
  have K6 : Keep h0 T5.heap [] := K2.trans Kq5 (allS (Or.inr sz_b1) all0)
  refine own_on (B := T5.setTop (mkF m 12 #[rv u0, iv (0 : Int32), iv (1 : Int32), rv b1, .unset, .unset] [(.int (if (255 : Int32) < x0 then (0 : Int32) else (1 : Int32)))])) (fun tz kz => st5 _ kz) ?_
  by_cases hs0 : (255 : Int32) < x0
  · rw [if_pos hs0]
    have f_7 := (f_4.keep Kq5 (ninS ne_u0_b1 nin0))
    refine own_on (B := T5.setTop (mkF m 23 #[rv u0, iv (0 : Int32), iv (1 : Int32), rv b1, iv (0 : Int32), .unset] [(.int (1 : Int32)), (.int (0 : Int32)), (.ref u0)])) (fun tz kz => ?_) ?_
    · show sT p e below T5 (mkF m 12 #[rv u0, iv (0 : Int32), iv (1 : Int32), rv b1, .unset, .unset] [(.int (0 : Int32))]) tz
      refine XS.istore X5.here hx rfl (hb hby own_d18_12) rfl (l' := #[rv u0, iv (0 : Int32), iv (1 : Int32), rv b1, iv (0 : Int32), .unset]) rfl ?_
      show sT p e below T5 (mkF m 14 #[rv u0, iv (0 : Int32), iv (1 : Int32), rv b1, iv (0 : Int32), .unset] []) tz
      refine XS.iload X5.here hx rfl (hb hby own_d18_14) rfl ?_
      show sT p e below T5 (mkF m 16 #[rv u0, iv (0 : Int32), iv (1 : Int32), rv b1, iv (0 : Int32), .unset] [(.int (0 : Int32))]) tz
      refine XS.iloadN X5.here hx rfl (hb hby own_d18_16) rfl ?_
      show sT p e below T5 (mkF m 17 #[rv u0, iv (0 : Int32), iv (1 : Int32), rv b1, iv (0 : Int32), .unset] [(.int (1 : Int32)), (.int (0 : Int32))]) tz
      refine XS.icmpNo X5.here hx rfl (hb hby own_d18_17) rfl (feq (by decide : ¬ ((0 : Int32) = (1 : Int32)))).1 ?_
      show sT p e below T5 (mkF m 20 #[rv u0, iv (0 : Int32), iv (1 : Int32), rv b1, iv (0 : Int32), .unset] []) tz
      refine XS.aloadN X5.here hx rfl (hb hby own_d18_20) rfl rfl ?_
      show sT p e below T5 (mkF m 21 #[rv u0, iv (0 : Int32), iv (1 : Int32), rv b1, iv (0 : Int32), .unset] [(.ref u0)]) tz
      refine XS.iloadN X5.here hx rfl (hb hby own_d18_21) rfl ?_
      show sT p e below T5 (mkF m 22 #[rv u0, iv (0 : Int32), iv (1 : Int32), rv b1, iv (0 : Int32), .unset] [(.int (0 : Int32)), (.ref u0)]) tz
      refine XS.iloadN X5.here hx rfl (hb hby own_d18_22) rfl ?_
      exact kz
    obtain ⟨_, _, ⟨T8, L8, k8, n8⟩, -, X8, ⟨Lc8, hQ8, l8, y8, z8⟩, st8⟩ := Jvm.LawKit.callS X5 hx (y := (⟨"java/lang/StringUTF16", "toBytes", "([CII)[B"⟩ : MethodName)) hown (mvT hZ (own_w hw 112 rfl)) (mvT hZ (own_w hw 113 rfl)) (mvT hZ (own_w hw 104 rfl)) (mvT hZ (own_w hw 114 rfl)) (by decide) (backOf (W := 0) (rm21a l Z a0 hw [] u0 kx x0 T5.heap n0 O6 S_as S_hi S_lo f_7) hZ (own_w hw 114 rfl) (own_w hw 104 rfl) (by decide) (by decide)) (g := (mkF m 23 #[rv u0, iv (0 : Int32), iv (1 : Int32), rv b1, iv (0 : Int32), .unset] [(.int (1 : Int32)), (.int (0 : Int32)), (.ref u0)])) rfl (by rw [hml]; rfl) (argsL := [(.ref u0), (.int (0 : Int32)), (.int (1 : Int32))]) (rest := []) (lenOf own_pd4 rfl) rfl (by show 2 * 0 + _ ≤ _; exact Nat.le_of_eq rfl) (hb hby own_d18_23) (fun _ _ => ⟨rfl, rfl, (by decide : 1 + 1 ≤ _), (by decide : 1 + 2 ≤ _)⟩)
    dsimp only [Pt.U, Pt.locs, Pt.cells, Pt.slots] at X8 l8 y8 z8 st8 hQ8
    subst l8 y8 z8
    obtain ⟨d8, kd8, rfl, Nq8, Kq8, zq8, Vq8⟩ := hQ8
    have N8 := Fr.app N5 Nq8
    have ne_u0_d8 : u0 ≠ d8 := Nat.ne_of_lt (Nat.lt_of_lt_of_le (f_7).lt zq8)
    have ne_b1_d8 : b1 ≠ d8 := Nat.ne_of_lt (Nat.lt_of_lt_of_le (Vq5).lt zq8)
    have g_d8 : n0 ≤ d8 := Nat.le_trans (own_old O6) zq8
    have sz_d8 : h0.size ≤ d8 := Nat.le_trans K6.1 zq8
    have O9 := O6.keep Kq8 all0
    have K9 : Keep h0 T8.heap [] := K6.trans Kq8 all0
    refine own_on (B := T8.setTop (mkF m 26 #[rv u0, iv (0 : Int32), iv (1 : Int32), rv b1, iv (0 : Int32), .unset] [(.ref d8)])) (fun tz kz => st8 _ kz) ?_
    refine own_on (B := T8.setTop (mkF m 32 #[rv u0, iv (0 : Int32), iv (1 : Int32), rv b1, iv (0 : Int32), rv d8] [(.int (0 : Int32)), (.ref d8)])) (fun tz kz => ?_) ?_
    · show sT p e below T8 (mkF m 26 #[rv u0, iv (0 : Int32), iv (1 : Int32), rv b1, iv (0 : Int32), .unset] [(.ref d8)]) tz
      refine XS.astore X8.here hx rfl (hb hby own_d18_26) rfl rfl (l' := #[rv u0, iv (0 : Int32), iv (1 : Int32), rv b1, iv (0 : Int32), rv d8]) rfl ?_
      show sT p e below T8 (mkF m 28 #[rv u0, iv (0 : Int32), iv (1 : Int32), rv b1, iv (0 : Int32), rv d8] []) tz
      refine XS.aload X8.here hx rfl (hb hby own_d18_28) rfl rfl ?_
      show sT p e below T8 (mkF m 30 #[rv u0, iv (0 : Int32), iv (1 : Int32), rv b1, iv (0 : Int32), rv d8] [(.ref d8)]) tz
      refine XS.iload X8.here hx rfl (hb hby own_d18_30) rfl ?_
      exact kz
    obtain ⟨_, _, ⟨T10, L10, k10, n10⟩, -, X10, ⟨Lc10, hQ10, l10, y10, z10⟩, st10⟩ := Jvm.LawKit.callS X8 hx (y := (⟨"java/lang/StringUTF16", "getChar", "([BI)C"⟩ : MethodName)) hown (mvT hZ (own_w hw 128 rfl)) (mvT hZ (own_w hw 129 rfl)) (mvT hZ (own_w hw 104 rfl)) (mvT hZ (own_w hw 130 rfl)) (by decide) (backOf (W := 0) (rm25a l Z a0 hw [] d8 kd8 (2 : Int32) [(.int (nar .byte ((x0 >>> ((0 : Int32) &&& 31)).toInt8.toInt32))), (.int (nar .byte ((x0 >>> ((8 : Int32) &&& 31)).toInt8.toInt32)))] (nar .byte ((x0 >>> ((0 : Int32) &&& 31)).toInt8.toInt32)) (nar .byte ((x0 >>> ((8 : Int32) &&& 31)).toInt8.toInt32)) x0 T8.heap n0 O9 S_as S_hi S_lo Vq8 (by decide) rfl rfl (own_chr x0 l0 u0_) (own_narC x0 l0 u0_)) hZ (own_w hw 130 rfl) (own_w hw 104 rfl) (by decide) (by decide)) (g := (mkF m 32 #[rv u0, iv (0 : Int32), iv (1 : Int32), rv b1, iv (0 : Int32), rv d8] [(.int (0 : Int32)), (.ref d8)])) rfl (by rw [hml]; rfl) (argsL := [(.ref d8), (.int (0 : Int32))]) (rest := []) (lenOf own_pd5 rfl) rfl (by show 2 * 0 + _ ≤ _; exact Nat.le_of_eq rfl) (hb hby own_d18_32) (fun _ _ => ⟨rfl, rfl, (by decide : 2 + 0 ≤ _), (by decide : 3 + 0 ≤ _)⟩)
    dsimp only [Pt.U, Pt.locs, Pt.cells, Pt.slots] at X10 l10 y10 z10 st10 hQ10
    subst l10 y10 z10
    obtain ⟨rfl, Nq10, e10⟩ := hQ10
    have N10 := Fr.app N8 Nq10
    refine own_on (B := T10.setTop (mkF m 35 #[rv u0, iv (0 : Int32), iv (1 : Int32), rv b1, iv (0 : Int32), rv d8] [(.int x0)])) (fun tz kz => st10 _ kz) ?_
    refine own_on (B := T10.setTop (mkF m 56 #[rv u0, iv (0 : Int32), iv (1 : Int32), rv b1, iv (0 : Int32), rv d8] [(.ref d8)])) (fun tz kz => ?_) ?_
    · show sT p e below T10 (mkF m 35 #[rv u0, iv (0 : Int32), iv (1 : Int32), rv b1, iv (0 : Int32), rv d8] [(.int x0)]) tz
      refine XS.sipush X10.here hx rfl (hb hby own_d18_35) ?_
      show sT p e below T10 (mkF m 38 #[rv u0, iv (0 : Int32), iv (1 : Int32), rv b1, iv (0 : Int32), rv d8] [(.int (255 : Int32)), (.int x0)]) tz
      refine XS.icmpYes X10.here hx rfl (pc0 := 38) (pc' := 54) rfl (hb hby own_d18_38) rfl (tlt hs0).2.2.1 (by decide) (by decide) ?_
      show sT p e below T10 (mkF m 54 #[rv u0, iv (0 : Int32), iv (1 : Int32), rv b1, iv (0 : Int32), rv d8] []) tz
      refine XS.aload X10.here hx rfl (hb hby own_d18_54) rfl rfl ?_
      exact kz
    obtain ⟨fs, hr, hrun, hended, hW, hsame⟩ := X10.leave (v := some (.ref d8)) (fun h => by rw [Bd.returns] at h; cases h)
    refine own_of ⟨_, _, ?_, hrun, hended, _, _, rfl, ?_, ⟨_, rfl⟩, hW, hsame.mono (by decide) (by decide)⟩
    · show sT p e below T10 (mkF m 56 #[rv u0, iv (0 : Int32), iv (1 : Int32), rv b1, iv (0 : Int32), rv d8] [(.ref d8)]) _
      exact own_retV X10 hx Bd.returns rfl rfl (hb hby own_d18_56) hr
    · show Q18a Z u0 kx x0 h0 n0 _ T10.heap _
      rw [e10]
      exact ⟨d8, (2 : Int32), 1, rfl, N10, K9, sz_d8, OwnArz.of Vq8, Or.inr ⟨rfl, rfl⟩⟩
  · rw [if_neg hs0]
    refine own_on (B := T5.setTop (mkF m 58 #[rv u0, iv (0 : Int32), iv (1 : Int32), rv b1, iv (1 : Int32), .unset] [(.ref b1)])) (fun tz kz => ?_) ?_
    · show sT p e below T5 (mkF m 12 #[rv u0, iv (0 : Int32), iv (1 : Int32), rv b1, .unset, .unset] [(.int (1 : Int32))]) tz
      refine XS.istore X5.here hx rfl (hb hby own_d18_12) rfl (l' := #[rv u0, iv (0 : Int32), iv (1 : Int32), rv b1, iv (1 : Int32), .unset]) rfl ?_
      show sT p e below T5 (mkF m 14 #[rv u0, iv (0 : Int32), iv (1 : Int32), rv b1, iv (1 : Int32), .unset] []) tz
      refine XS.iload X5.here hx rfl (hb hby own_d18_14) rfl ?_
      show sT p e below T5 (mkF m 16 #[rv u0, iv (0 : Int32), iv (1 : Int32), rv b1, iv (1 : Int32), .unset] [(.int (1 : Int32))]) tz
      refine XS.iloadN X5.here hx rfl (hb hby own_d18_16) rfl ?_
      show sT p e below T5 (mkF m 17 #[rv u0, iv (0 : Int32), iv (1 : Int32), rv b1, iv (1 : Int32), .unset] [(.int (1 : Int32)), (.int (1 : Int32))]) tz
      refine XS.icmpYes X5.here hx rfl (pc0 := 17) (pc' := 57) rfl (hb hby own_d18_17) rfl (teq rfl).1 (by decide) (by decide) ?_
      show sT p e below T5 (mkF m 57 #[rv u0, iv (0 : Int32), iv (1 : Int32), rv b1, iv (1 : Int32), .unset] []) tz
      refine XS.aloadN X5.here hx rfl (hb hby own_d18_57) rfl rfl ?_
      exact kz
    obtain ⟨fs, hr, hrun, hended, hW, hsame⟩ := X5.leave (v := some (.ref b1)) (fun h => by rw [Bd.returns] at h; cases h)
    refine own_of ⟨_, _, ?_, hrun, hended, _, _, rfl, ?_, ⟨_, rfl⟩, hW, hsame.mono (by decide) (by decide)⟩
    · show sT p e below T5 (mkF m 58 #[rv u0, iv (0 : Int32), iv (1 : Int32), rv b1, iv (1 : Int32), .unset] [(.ref b1)]) _
      exact own_retV X5 hx Bd.returns rfl rfl (hb hby own_d18_58) hr
    · show Q18a Z u0 kx x0 h0 n0 _ T5.heap _
      exact ⟨b1, (1 : Int32), 0, rfl, N5, K6, sz_b1, Vq5, Or.inl ⟨rfl, rfl⟩⟩
theorem own_ef_23b (m : MethodId) (x0 : Int32) : entryFrame m #[(.int x0)] 1 = mkF m 0 #[iv x0] [] := by first | (simp [entryFrame, mkF, argsToLocals, Value.category]; done) | rfl
def Q23b (Z : State)  (h0 : Heap) (n0 : Nat) (v : Option Value) (h : Heap) (L : List Loc) : Prop := v = some (.int (4 : Int32)) ∧ Fr n0 L ∧ h = h0
set_option maxRecDepth 65536 in
set_option maxHeartbeats 40000000 in
theorem rm23b (l : Launch) (Z : State) (a0 : Array Value) (hw : ∀ d ∈ tables_1, d.before a0 Z = true) (ws : List Jvm.Cond)  (h0 : Heap) (n0 : Nat) (O0 : Old Z n0 h0) :
    MetFree l (⟨"java/lang/StringUTF16", "newBytesLength", "(I)I"⟩ : MethodName) (head1 (Jvm.Cond.code (⟨"java/lang/StringUTF16", "newBytesLength", "(I)I"⟩ : MethodName) jdk_52_method_3_code 1 (some .int) :: ws) ({ frames := 0, cells := 0, slots := 0, locals := 0 } : Room)) (fun a U => a = #[(.int (2 : Int32))] ∧ Z.Warmed39 U.vm ∧ U.heap = h0) (fun _ _ _ _ _ => True) (fun _ U o U' => ∃ v L, o = .returned v ∧ Q23b Z  h0 n0 v U'.heap L ∧ FrameEnd U o U' L ({ frames := 0, cells := 0, slots := 0, locals := 0 } : Room).cells ({ frames := 0, cells := 0, slots := 0, locals := 0 } : Room).slots) := by
  refine MetFree.of_bodySF (plainFor_of_name own_pn_java_lang_StringUTF16) hisR ?_
  intro p e s m args below meth c s₁ Bd hml0 hP hK
  obtain ⟨rfl, hZ, hh⟩ := hP
  have hx := Bd.exec
  have hby := Bd.bytes
  have hml : c.maxLocals = 1 := hml0
  have hown : s.vm.findClass "java/lang/StringUTF16" = some m.cls := findClass_of_methodNamed Bd.named
  have hnm := (name_of_methodNamed Bd.named Bd.method).1
  have X0 : Stand p l e ({ frames := 0, cells := 0, slots := 0, locals := 0 } : Room) s m #[(.int (2 : Int32))] below meth c s₁ [] 0 0 := Stand.of_body Bd
  have e0 : s₁.heap = h0 := by rw [← hh, Bd.state]; rfl
  have N0 := Fr.nil n0
  change Go p.tables e below _ _
  refine own_on (B := s₁.setTop (mkF m 0 #[iv (2 : Int32)] [])) (fun tz kz => castTop (own_ef_23b m (2 : Int32)) kz) ?_
  refine own_on (B := s₁.setTop (mkF m 58 #[iv (2 : Int32)] [(.int (4 : Int32))])) (fun tz kz => ?_) ?_
  · show sT p e below s₁ (mkF m 0 #[iv (2 : Int32)] []) tz
    refine XS.iloadN X0.here hx rfl (hb hby own_d23_0) rfl ?_
    show sT p e below s₁ (mkF m 1 #[iv (2 : Int32)] [(.int (2 : Int32))]) tz
    refine XS.ifYes X0.here hx rfl (pc0 := 1) (pc' := 12) rfl (hb hby own_d23_1) rfl ((if0 _ _).trans (flt (by decide : ¬ ((2 : Int32) < (0 : Int32)))).2.1) (by decide) (by decide) ?_
    show sT p e below s₁ (mkF m 12 #[iv (2 : Int32)] []) tz
    refine XS.iloadN X0.here hx rfl (hb hby own_d23_12) rfl ?_
    show sT p e below s₁ (mkF m 13 #[iv (2 : Int32)] [(.int (2 : Int32))]) tz
    refine X0.ldcInt hx hown (mvT hZ (own_w hw 121 rfl)) (g := (mkF m 13 #[iv (2 : Int32)] [(.int (2 : Int32))])) rfl (hb hby own_d23_13) _ ?_
    show sT p e below s₁ (mkF m 15 #[iv (2 : Int32)] [(.int (1073741823 : Int32)), (.int (2 : Int32))]) tz
    refine XS.icmpYes X0.here hx rfl (pc0 := 15) (pc' := 55) rfl (hb hby own_d23_15) rfl (tlt (by decide : (2 : Int32) < (1073741823 : Int32))).1 (by decide) (by decide) ?_
    show sT p e below s₁ (mkF m 55 #[iv (2 : Int32)] []) tz
    refine XS.iloadN X0.here hx rfl (hb hby own_d23_55) rfl ?_
    show sT p e below s₁ (mkF m 56 #[iv (2 : Int32)] [(.int (2 : Int32))]) tz
    refine XS.iconst X0.here hx rfl (hb hby own_d23_56) ?_
    show sT p e below s₁ (mkF m 57 #[iv (2 : Int32)] [(.int (1 : Int32)), (.int (2 : Int32))]) tz
    refine XS.ishl X0.here hx rfl (hb hby own_d23_57) rfl ?_
    exact kz
  obtain ⟨fs, hr, hrun, hended, hW, hsame⟩ := X0.leave (v := some (.int (4 : Int32))) (fun h => by rw [Bd.returns] at h; cases h)
  refine own_of ⟨_, _, ?_, hrun, hended, _, _, rfl, ?_, ⟨_, rfl⟩, hW, hsame.mono (by decide) (by decide)⟩
  · show sT p e below s₁ (mkF m 58 #[iv (2 : Int32)] [(.int (4 : Int32))]) _
    exact own_retI X0 hx Bd.returns (hb hby own_d23_58) hr
  · show Q23b Z  h0 n0 _ s₁.heap _
    rw [e0]
    exact ⟨rfl, N0, rfl⟩
theorem own_ef_22b (m : MethodId) (x0 : Int32) : entryFrame m #[(.int x0)] 1 = mkF m 0 #[iv x0] [] := by first | (simp [entryFrame, mkF, argsToLocals, Value.category]; done) | rfl
def Q22b (Z : State)  (h0 : Heap) (n0 : Nat) (v : Option Value) (h : Heap) (L : List Loc) : Prop := ∃ (d : Addr) (kk : ClassId), v = some (.ref d) ∧ Fr n0 L ∧ Keep h0 h [] ∧ h0.size ≤ d ∧ Arv Z h d kk .byte (4 : Int32) [(.int (0 : Int32)), (.int (0 : Int32)), (.int (0 : Int32)), (.int (0 : Int32))] (.int 0)
set_option maxRecDepth 65536 in
set_option maxHeartbeats 40000000 in
theorem rm22b (l : Launch) (Z : State) (a0 : Array Value) (hw : ∀ d ∈ tables_1, d.before a0 Z = true) (ws : List Jvm.Cond)  (h0 : Heap) (n0 : Nat) (O0 : Old Z n0 h0) :
    MetFree l (⟨"java/lang/StringUTF16", "newBytesFor", "(I)[B"⟩ : MethodName) (head1 (Jvm.Cond.code (⟨"java/lang/StringUTF16", "newBytesFor", "(I)[B"⟩ : MethodName) jdk_52_method_2_code 1 (some (.array .byte)) :: ws) ({ frames := 1, cells := 1, slots := 4, locals := 12 } : Room)) (fun a U => a = #[(.int (2 : Int32))] ∧ Z.Warmed39 U.vm ∧ U.heap = h0) (fun _ _ _ _ _ => True) (fun _ U o U' => ∃ v L, o = .returned v ∧ Q22b Z  h0 n0 v U'.heap L ∧ FrameEnd U o U' L ({ frames := 1, cells := 1, slots := 4, locals := 12 } : Room).cells ({ frames := 1, cells := 1, slots := 4, locals := 12 } : Room).slots) := by
  refine MetFree.of_bodySF (plainFor_of_name own_pn_java_lang_StringUTF16) hisR ?_
  intro p e s m args below meth c s₁ Bd hml0 hP hK
  obtain ⟨rfl, hZ, hh⟩ := hP
  have hx := Bd.exec
  have hby := Bd.bytes
  have hml : c.maxLocals = 1 := hml0
  have hown : s.vm.findClass "java/lang/StringUTF16" = some m.cls := findClass_of_methodNamed Bd.named
  have hnm := (name_of_methodNamed Bd.named Bd.method).1
  have X0 : Stand p l e ({ frames := 1, cells := 1, slots := 4, locals := 12 } : Room) s m #[(.int (2 : Int32))] below meth c s₁ [] 0 0 := Stand.of_body Bd
  have e0 : s₁.heap = h0 := by rw [← hh, Bd.state]; rfl
  have N0 := Fr.nil n0
  change Go p.tables e below _ _
  refine own_on (B := s₁.setTop (mkF m 0 #[iv (2 : Int32)] [])) (fun tz kz => castTop (own_ef_22b m (2 : Int32)) kz) ?_
  refine own_on (B := s₁.setTop (mkF m 1 #[iv (2 : Int32)] [(.int (2 : Int32))])) (fun tz kz => ?_) ?_
  · show sT p e below s₁ (mkF m 0 #[iv (2 : Int32)] []) tz
    refine XS.iloadN X0.here hx rfl (hb hby own_d22_0) rfl ?_
    exact kz
  obtain ⟨_, _, ⟨T1, L1, k1, n1⟩, -, X1, ⟨Lc1, hQ1, l1, y1, z1⟩, st1⟩ := Jvm.LawKit.callS X0 hx (y := (⟨"java/lang/StringUTF16", "newBytesLength", "(I)I"⟩ : MethodName)) hown (mvT hZ (own_w hw 118 rfl)) (mvT hZ (own_w hw 119 rfl)) (mvT hZ (own_w hw 104 rfl)) (mvT hZ (own_w hw 120 rfl)) (by decide) (backOf (W := 0) (rm23b l Z a0 hw []   h0 n0 O0 ) hZ (own_w hw 120 rfl) (own_w hw 104 rfl) (by decide) (by decide)) (g := (mkF m 1 #[iv (2 : Int32)] [(.int (2 : Int32))])) rfl (by rw [hml]; rfl) (argsL := [(.int (2 : Int32))]) (rest := []) (lenOf own_pd0 rfl) rfl (by show 2 * 0 + _ ≤ _; exact Nat.le_of_eq rfl) (hb hby own_d22_1) (fun _ _ => ⟨rfl, e0, (by decide : 0 + 0 ≤ _), (by decide : 0 + 0 ≤ _)⟩)
  dsimp only [Pt.U, Pt.locs, Pt.cells, Pt.slots] at X1 l1 y1 z1 st1 hQ1
  subst l1 y1 z1
  obtain ⟨rfl, Nq1, e1⟩ := hQ1
  have N1 := Fr.app N0 Nq1
  refine own_on (B := T1.setTop (mkF m 4 #[iv (2 : Int32)] [(.int (4 : Int32))])) (fun tz kz => st1 _ kz) ?_
  obtain ⟨T2, h2, k2, X2, e2, E2, A2, st2⟩ := newP X1 hx hZ (own_w hw 21 rfl) e1 (g := (mkF m 4 #[iv (2 : Int32)] [(.int (4 : Int32))])) rfl (hb hby own_d22_4) rfl (by decide) (cap := 4) (by decide) (by decide) (by decide) (by decide)
  obtain ⟨b2, g2⟩ : ∃ z, z = h0.size := ⟨_, rfl⟩
  rw [← g2] at A2 st2
  have g_b2 : n0 ≤ b2 := Nat.le_trans (own_old O0) (Nat.le_of_eq g2.symm)
  have sz_b2 : h0.size ≤ b2 := Nat.le_trans (Keep.refl h0 []).1 (Nat.le_of_eq g2.symm)
  have O3 := O0.ext E2
  have K3 : Keep h0 h2 [] := (Keep.refl h0 []).ext E2
  have V2 : Arv Z h2 b2 k2 .byte (4 : Int32) [(.int (0 : Int32)), (.int (0 : Int32)), (.int (0 : Int32)), (.int (0 : Int32))] (.int (0 : Int32)) := (Arv.new A2 (by decide)).pad (pad_rep [] (.int (0 : Int32)) 4)
  refine own_on (B := T2.setTop (mkF m 6 #[iv (2 : Int32)] [(.ref b2)])) (fun tz kz => st2 _ kz) ?_
  obtain ⟨fs, hr, hrun, hended, hW, hsame⟩ := X2.leave (v := some (.ref b2)) (fun h => by rw [Bd.returns] at h; cases h)
  refine own_of ⟨_, _, ?_, hrun, hended, _, _, rfl, ?_, ⟨_, rfl⟩, hW, hsame.mono (by decide) (by decide)⟩
  · show sT p e below T2 (mkF m 6 #[iv (2 : Int32)] [(.ref b2)]) _
    exact own_retV X2 hx Bd.returns rfl rfl (hb hby own_d22_6) hr
  · show Q22b Z  h0 n0 _ T2.heap _
    rw [e2]
    exact ⟨b2, k2, rfl, N1, K3, sz_b2, V2⟩
theorem own_ef_21b (m : MethodId) (x0 : Addr) (x1 : Int32) (x2 : Int32) : entryFrame m #[(.ref x0), (.int x1), (.int x2)] 5 = mkF m 0 #[rv x0, iv x1, iv x2, .unset, .unset] [] := by first | (simp [entryFrame, mkF, argsToLocals, Value.category]; done) | rfl
def Q21b (Z : State) (u0 : Addr) (kx : ClassId) (x0 : Int32) (x1 : Int32) (h0 : Heap) (n0 : Nat) (v : Option Value) (h : Heap) (L : List Loc) : Prop := ∃ (d : Addr) (kk : ClassId), v = some (.ref d) ∧ Fr n0 L ∧ Keep h0 h [] ∧ h0.size ≤ d ∧ Arv Z h d kk .byte (4 : Int32) [(.int (nar .byte ((x0 >>> ((0 : Int32) &&& 31)).toInt8.toInt32))), (.int (nar .byte ((x0 >>> ((8 : Int32) &&& 31)).toInt8.toInt32))), (.int (nar .byte ((x1 >>> ((0 : Int32) &&& 31)).toInt8.toInt32))), (.int (nar .byte ((x1 >>> ((8 : Int32) &&& 31)).toInt8.toInt32)))] (.int 0)
set_option maxRecDepth 65536 in
set_option maxHeartbeats 40000000 in
theorem rm21b (l : Launch) (Z : State) (a0 : Array Value) (hw : ∀ d ∈ tables_1, d.before a0 Z = true) (ws : List Jvm.Cond) (u0 : Addr) (kx : ClassId) (x0 : Int32) (x1 : Int32) (h0 : Heap) (n0 : Nat) (O0 : Old Z n0 h0) (S_as : Sta Z Z.heap "java/lang/StringUTF16" "$assertionsDisabled" "Z" (.int 1)) (S_hi : Sta Z Z.heap "java/lang/StringUTF16" "HI_BYTE_SHIFT" "I" (.int 0)) (S_lo : Sta Z Z.heap "java/lang/StringUTF16" "LO_BYTE_SHIFT" "I" (.int 8)) (Vc : Arv Z h0 u0 kx .char (2 : Int32) [(.int x0), (.int x1)] (.int 0)) :
    MetFree l (⟨"java/lang/StringUTF16", "toBytes", "([CII)[B"⟩ : MethodName) (head1 (Jvm.Cond.code (⟨"java/lang/StringUTF16", "toBytes", "([CII)[B"⟩ : MethodName) jdk_52_method_14_code 5 (some (.array .byte)) :: ws) ({ frames := 2, cells := 1, slots := 4, locals := 24 } : Room)) (fun a U => a = #[(.ref u0), (.int (0 : Int32)), (.int (2 : Int32))] ∧ Z.Warmed39 U.vm ∧ U.heap = h0) (fun _ _ _ _ _ => True) (fun _ U o U' => ∃ v L, o = .returned v ∧ Q21b Z u0 kx x0 x1 h0 n0 v U'.heap L ∧ FrameEnd U o U' L ({ frames := 2, cells := 1, slots := 4, locals := 24 } : Room).cells ({ frames := 2, cells := 1, slots := 4, locals := 24 } : Room).slots) := by
  refine MetFree.of_bodySF (plainFor_of_name own_pn_java_lang_StringUTF16) hisR ?_
  intro p e s m args below meth c s₁ Bd hml0 hP hK
  obtain ⟨rfl, hZ, hh⟩ := hP
  have hx := Bd.exec
  have hby := Bd.bytes
  have hml : c.maxLocals = 5 := hml0
  have hown : s.vm.findClass "java/lang/StringUTF16" = some m.cls := findClass_of_methodNamed Bd.named
  have hnm := (name_of_methodNamed Bd.named Bd.method).1
  have X0 : Stand p l e ({ frames := 2, cells := 1, slots := 4, locals := 24 } : Room) s m #[(.ref u0), (.int (0 : Int32)), (.int (2 : Int32))] below meth c s₁ [] 0 0 := Stand.of_body Bd
  have e0 : s₁.heap = h0 := by rw [← hh, Bd.state]; rfl
  have N0 := Fr.nil n0
  change Go p.tables e below _ _
  refine own_on (B := s₁.setTop (mkF m 0 #[rv u0, iv (0 : Int32), iv (2 : Int32), .unset, .unset] [])) (fun tz kz => castTop (own_ef_21b m u0 (0 : Int32) (2 : Int32)) kz) ?_
  refine own_on (B := s₁.setTop (mkF m 1 #[rv u0, iv (0 : Int32), iv (2 : Int32), .unset, .unset] [(.int (2 : Int32))])) (fun tz kz => ?_) ?_
  · show sT p e below s₁ (mkF m 0 #[rv u0, iv (0 : Int32), iv (2 : Int32), .unset, .unset] []) tz
    refine XS.iloadN X0.here hx rfl (hb hby own_d21_0) rfl ?_
    exact kz
  obtain ⟨_, _, ⟨T1, L1, k1, n1⟩, -, X1, ⟨Lc1, hQ1, l1, y1, z1⟩, st1⟩ := Jvm.LawKit.callS X0 hx (y := (⟨"java/lang/StringUTF16", "newBytesFor", "(I)[B"⟩ : MethodName)) hown (mvT hZ (own_w hw 115 rfl)) (mvT hZ (own_w hw 116 rfl)) (mvT hZ (own_w hw 104 rfl)) (mvT hZ (own_w hw 117 rfl)) (by decide) (backOf (W := 0) (rm22b l Z a0 hw []   h0 n0 O0 ) hZ (own_w hw 117 rfl) (own_w hw 104 rfl) (by decide) (by decide)) (g := (mkF m 1 #[rv u0, iv (0 : Int32), iv (2 : Int32), .unset, .unset] [(.int (2 : Int32))])) rfl (by rw [hml]; rfl) (argsL := [(.int (2 : Int32))]) (rest := []) (lenOf own_pd1 rfl) rfl (by show 2 * 0 + _ ≤ _; exact Nat.le_of_eq rfl) (hb hby own_d21_1) (fun _ _ => ⟨rfl, e0, (by decide : 0 + 1 ≤ _), (by decide : 0 + 4 ≤ _)⟩)
  dsimp only [Pt.U, Pt.locs, Pt.cells, Pt.slots] at X1 l1 y1 z1 st1 hQ1
  subst l1 y1 z1
  obtain ⟨d1, kd1, rfl, Nq1, Kq1, zq1, Vq1⟩ := hQ1
  have N1 := Fr.app N0 Nq1
  have ne_u0_d1 : u0 ≠ d1 := Nat.ne_of_lt (Nat.lt_of_lt_of_le (Vc).lt zq1)
  have g_d1 : n0 ≤ d1 := Nat.le_trans (own_old O0) zq1
  have sz_d1 : h0.size ≤ d1 := Nat.le_trans (Keep.refl h0 []).1 zq1
  have O2 := O0.keep Kq1 all0
  have K2 : Keep h0 T1.heap [] := (Keep.refl h0 []).trans Kq1 all0
  refine own_on (B := T1.setTop (mkF m 4 #[rv u0, iv (0 : Int32), iv (2 : Int32), .unset, .unset] [(.ref d1)])) (fun tz kz => st1 _ kz) ?_
  refine own_on (B := T1.setTop (mkF m 19 #[rv u0, iv (0 : Int32), iv (2 : Int32), rv d1, iv (0 : Int32)] [(.int (0 : Int32)), (.ref u0), (.int (0 : Int32)), (.ref d1)])) (fun tz kz => ?_) ?_
  · show sT p e below T1 (mkF m 4 #[rv u0, iv (0 : Int32), iv (2 : Int32), .unset, .unset] [(.ref d1)]) tz
    refine XS.astoreN X1.here hx rfl (hb hby own_d21_4) rfl rfl (l' := #[rv u0, iv (0 : Int32), iv (2 : Int32), rv d1, .unset]) rfl ?_
    show sT p e below T1 (mkF m 5 #[rv u0, iv (0 : Int32), iv (2 : Int32), rv d1, .unset] []) tz
    refine XS.iconst X1.here hx rfl (hb hby own_d21_5) ?_
    show sT p e below T1 (mkF m 6 #[rv u0, iv (0 : Int32), iv (2 : Int32), rv d1, .unset] [(.int (0 : Int32))]) tz
    refine XS.istore X1.here hx rfl (hb hby own_d21_6) rfl (l' := #[rv u0, iv (0 : Int32), iv (2 : Int32), rv d1, iv (0 : Int32)]) rfl ?_
    show sT p e below T1 (mkF m 8 #[rv u0, iv (0 : Int32), iv (2 : Int32), rv d1, iv (0 : Int32)] []) tz
    refine XS.iload X1.here hx rfl (hb hby own_d21_8) rfl ?_
    show sT p e below T1 (mkF m 10 #[rv u0, iv (0 : Int32), iv (2 : Int32), rv d1, iv (0 : Int32)] [(.int (0 : Int32))]) tz
    refine XS.iloadN X1.here hx rfl (hb hby own_d21_10) rfl ?_
    show sT p e below T1 (mkF m 11 #[rv u0, iv (0 : Int32), iv (2 : Int32), rv d1, iv (0 : Int32)] [(.int (2 : Int32)), (.int (0 : Int32))]) tz
    refine XS.icmpNo X1.here hx rfl (hb hby own_d21_11) rfl (tlt (by decide : (0 : Int32) < (2 : Int32))).2.1 ?_
    show sT p e below T1 (mkF m 14 #[rv u0, iv (0 : Int32), iv (2 : Int32), rv d1, iv (0 : Int32)] []) tz
    refine XS.aloadN X1.here hx rfl (hb hby own_d21_14) rfl rfl ?_
    show sT p e below T1 (mkF m 15 #[rv u0, iv (0 : Int32), iv (2 : Int32), rv d1, iv (0 : Int32)] [(.ref d1)]) tz
    refine XS.iload X1.here hx rfl (hb hby own_d21_15) rfl ?_
    show sT p e below T1 (mkF m 17 #[rv u0, iv (0 : Int32), iv (2 : Int32), rv d1, iv (0 : Int32)] [(.int (0 : Int32)), (.ref d1)]) tz
    refine XS.aloadN X1.here hx rfl (hb hby own_d21_17) rfl rfl ?_
    show sT p e below T1 (mkF m 18 #[rv u0, iv (0 : Int32), iv (2 : Int32), rv d1, iv (0 : Int32)] [(.ref u0), (.int (0 : Int32)), (.ref d1)]) tz
    refine XS.iloadN X1.here hx rfl (hb hby own_d21_18) rfl ?_
    exact kz
  have f_3 := (Vc.keep Kq1 nin0)
  obtain ⟨cl4, Ar4, q4, S4, M4, H4, G4⟩ := id f_3
  have hin5 : ¬ ((0 : Int32) < 0 ∨ cl4.slots.size ≤ ((0 : Int32)).toNatClampNeg) := inb_of S4 ⟨by decide, by decide⟩
  have hat5 : cl4.slots[((0 : Int32)).toNatClampNeg]? = some (.int x0) := Has.at H4 hin5 rfl
  refine own_on (B := T1.setTop (mkF m 20 #[rv u0, iv (0 : Int32), iv (2 : Int32), rv d1, iv (0 : Int32)] [(.int x0), (.int (0 : Int32)), (.ref d1)])) (fun tz kz => ?_) ?_
  · show sT p e below T1 (mkF m 19 #[rv u0, iv (0 : Int32), iv (2 : Int32), rv d1, iv (0 : Int32)] [(.int (0 : Int32)), (.ref u0), (.int (0 : Int32)), (.ref d1)]) tz
    refine X1.caload hx (j := (0 : Int32)) (v := (.int x0)) (Ar4.1) (State.isArrayOf_alike hZ.alike Ar4.2.1) Ar4.2.2 hin5 hat5 (g := (mkF m 19 #[rv u0, iv (0 : Int32), iv (2 : Int32), rv d1, iv (0 : Int32)] [(.int (0 : Int32)), (.ref u0), (.int (0 : Int32)), (.ref d1)])) rfl rfl (hb hby own_d21_19) _ ?_
    exact kz
  obtain ⟨_, _, ⟨T6, L6, k6, n6⟩, -, X6, ⟨Lc6, hQ6, l6, y6, z6⟩, st6⟩ := Jvm.LawKit.callS X1 hx (y := (⟨"java/lang/StringUTF16", "putChar", "([BII)V"⟩ : MethodName)) hown (mvT hZ (own_w hw 122 rfl)) (mvT hZ (own_w hw 123 rfl)) (mvT hZ (own_w hw 104 rfl)) (mvT hZ (own_w hw 124 rfl)) (by decide) (backOf (W := 0) (rm24a l Z a0 hw [] d1 x0 kd1 (4 : Int32) [(.int (0 : Int32)), (.int (0 : Int32)), (.int (0 : Int32)), (.int (0 : Int32))] T1.heap n0 O2 S_as S_hi S_lo Vq1 g_d1 (by decide) (Nat.le_of_ble_eq_true rfl)) hZ (own_w hw 124 rfl) (own_w hw 104 rfl) (by decide) (by decide)) (g := (mkF m 20 #[rv u0, iv (0 : Int32), iv (2 : Int32), rv d1, iv (0 : Int32)] [(.int x0), (.int (0 : Int32)), (.ref d1)])) rfl (by rw [hml]; rfl) (argsL := [(.ref d1), (.int (0 : Int32)), (.int x0)]) (rest := []) (lenOf own_pd2 rfl) rfl (by show 2 * 0 + _ ≤ _; exact Nat.le_of_eq rfl) (hb hby own_d21_20) (fun _ _ => ⟨rfl, rfl, (by decide : 1 + 0 ≤ _), (by decide : 4 + 0 ≤ _)⟩)
  dsimp only [Pt.U, Pt.locs, Pt.cells, Pt.slots] at X6 l6 y6 z6 st6 hQ6
  subst l6 y6 z6
  obtain ⟨rfl, Nq6, Kq6, Vq6⟩ := hQ6
  have N6 := Fr.app N1 Nq6
  have O7 := O2.keep Kq6 (allS g_d1 all0)
  have K7 : Keep h0 T6.heap [] := K2.trans Kq6 (allS (Or.inr sz_d1) all0)
  refine own_on (B := T6.setTop (mkF m 23 #[rv u0, iv (0 : Int32), iv (2 : Int32), rv d1, iv (0 : Int32)] [])) (fun tz kz => st6 _ kz) ?_
  have Vl6 : Arv Z T6.heap d1 kd1 .byte (4 : Int32) [(.int (nar .byte ((x0 >>> ((0 : Int32) &&& 31)).toInt8.toInt32))), (.int (nar .byte ((x0 >>> ((8 : Int32) &&& 31)).toInt8.toInt32))), (.int (0 : Int32)), (.int (0 : Int32))] (.int 0) := Vq6
  refine own_on (B := T6.setTop (mkF m 19 #[rv u0, iv (1 : Int32), iv (2 : Int32), rv d1, iv (1 : Int32)] [(.int (1 : Int32)), (.ref u0), (.int (1 : Int32)), (.ref d1)])) (fun tz kz => ?_) ?_
  · show sT p e below T6 (mkF m 23 #[rv u0, iv (0 : Int32), iv (2 : Int32), rv d1, iv (0 : Int32)] []) tz
    refine XS.iinc X6.here hx rfl (hb hby own_d21_23) rfl (l' := #[rv u0, iv (1 : Int32), iv (2 : Int32), rv d1, iv (0 : Int32)]) rfl ?_
    show sT p e below T6 (mkF m 26 #[rv u0, iv (1 : Int32), iv (2 : Int32), rv d1, iv (0 : Int32)] []) tz
    refine XS.iinc X6.here hx rfl (hb hby own_d21_26) rfl (l' := #[rv u0, iv (1 : Int32), iv (2 : Int32), rv d1, iv (1 : Int32)]) rfl ?_
    show sT p e below T6 (mkF m 29 #[rv u0, iv (1 : Int32), iv (2 : Int32), rv d1, iv (1 : Int32)] []) tz
    refine XS.goto X6.here hx rfl (pc0 := 29) (pc' := 8) rfl (hb hby own_d21_29) (by decide) (by decide) ?_
    show sT p e below T6 (mkF m 8 #[rv u0, iv (1 : Int32), iv (2 : Int32), rv d1, iv (1 : Int32)] []) tz
    refine XS.iload X6.here hx rfl (hb hby own_d21_8) rfl ?_
    show sT p e below T6 (mkF m 10 #[rv u0, iv (1 : Int32), iv (2 : Int32), rv d1, iv (1 : Int32)] [(.int (1 : Int32))]) tz
    refine XS.iloadN X6.here hx rfl (hb hby own_d21_10) rfl ?_
    show sT p e below T6 (mkF m 11 #[rv u0, iv (1 : Int32), iv (2 : Int32), rv d1, iv (1 : Int32)] [(.int (2 : Int32)), (.int (1 : Int32))]) tz
    refine XS.icmpNo X6.here hx rfl (hb hby own_d21_11) rfl (tlt (by decide : (1 : Int32) < (2 : Int32))).2.1 ?_
    show sT p e below T6 (mkF m 14 #[rv u0, iv (1 : Int32), iv (2 : Int32), rv d1, iv (1 : Int32)] []) tz
    refine XS.aloadN X6.here hx rfl (hb hby own_d21_14) rfl rfl ?_
    show sT p e below T6 (mkF m 15 #[rv u0, iv (1 : Int32), iv (2 : Int32), rv d1, iv (1 : Int32)] [(.ref d1)]) tz
    refine XS.iload X6.here hx rfl (hb hby own_d21_15) rfl ?_
    show sT p e below T6 (mkF m 17 #[rv u0, iv (1 : Int32), iv (2 : Int32), rv d1, iv (1 : Int32)] [(.int (1 : Int32)), (.ref d1)]) tz
    refine XS.aloadN X6.here hx rfl (hb hby own_d21_17) rfl rfl ?_
    show sT p e below T6 (mkF m 18 #[rv u0, iv (1 : Int32), iv (2 : Int32), rv d1, iv (1 : Int32)] [(.ref u0), (.int (1 : Int32)), (.ref d1)]) tz
    refine XS.iloadN X6.here hx rfl (hb hby own_d21_18) rfl ?_
    exact kz
  have f_8 := (f_3.keep Kq6 (ninS ne_u0_d1 nin0))
  obtain ⟨cl9, Ar9, q9, S9, M9, H9, G9⟩ := id f_8
  have hin10 : ¬ ((1 : Int32) < 0 ∨ cl9.slots.size ≤ ((1 : Int32)).toNatClampNeg) := inb_of S9 ⟨by decide, by decide⟩
  have hat10 : cl9.slots[((1 : Int32)).toNatClampNeg]? = some (.int x1) := Has.at H9 hin10 rfl
  refine own_on (B := T6.setTop (mkF m 20 #[rv u0, iv (1 : Int32), iv (2 : Int32), rv d1, iv (1 : Int32)] [(.int x1), (.int (1 : Int32)), (.ref d1)])) (fun tz kz => ?_) ?_
  · show sT p e below T6 (mkF m 19 #[rv u0, iv (1 : Int32), iv (2 : Int32), rv d1, iv (1 : Int32)] [(.int (1 : Int32)), (.ref u0), (.int (1 : Int32)), (.ref d1)]) tz
    refine X6.caload hx (j := (1 : Int32)) (v := (.int x1)) (Ar9.1) (State.isArrayOf_alike hZ.alike Ar9.2.1) Ar9.2.2 hin10 hat10 (g := (mkF m 19 #[rv u0, iv (1 : Int32), iv (2 : Int32), rv d1, iv (1 : Int32)] [(.int (1 : Int32)), (.ref u0), (.int (1 : Int32)), (.ref d1)])) rfl rfl (hb hby own_d21_19) _ ?_
    exact kz
  obtain ⟨_, _, ⟨T11, L11, k11, n11⟩, -, X11, ⟨Lc11, hQ11, l11, y11, z11⟩, st11⟩ := Jvm.LawKit.callS X6 hx (y := (⟨"java/lang/StringUTF16", "putChar", "([BII)V"⟩ : MethodName)) hown (mvT hZ (own_w hw 122 rfl)) (mvT hZ (own_w hw 123 rfl)) (mvT hZ (own_w hw 104 rfl)) (mvT hZ (own_w hw 124 rfl)) (by decide) (backOf (W := 0) (rm24b l Z a0 hw [] d1 x1 kd1 (4 : Int32) [(.int (nar .byte ((x0 >>> ((0 : Int32) &&& 31)).toInt8.toInt32))), (.int (nar .byte ((x0 >>> ((8 : Int32) &&& 31)).toInt8.toInt32))), (.int (0 : Int32)), (.int (0 : Int32))] T6.heap n0 O7 S_as S_hi S_lo Vl6 g_d1 (by decide) (Nat.le_of_ble_eq_true rfl)) hZ (own_w hw 124 rfl) (own_w hw 104 rfl) (by decide) (by decide)) (g := (mkF m 20 #[rv u0, iv (1 : Int32), iv (2 : Int32), rv d1, iv (1 : Int32)] [(.int x1), (.int (1 : Int32)), (.ref d1)])) rfl (by rw [hml]; rfl) (argsL := [(.ref d1), (.int (1 : Int32)), (.int x1)]) (rest := []) (lenOf own_pd2 rfl) rfl (by show 2 * 0 + _ ≤ _; exact Nat.le_of_eq rfl) (hb hby own_d21_20) (fun _ _ => ⟨rfl, rfl, (by decide : 1 + 0 ≤ _), (by decide : 4 + 0 ≤ _)⟩)
  dsimp only [Pt.U, Pt.locs, Pt.cells, Pt.slots] at X11 l11 y11 z11 st11 hQ11
  subst l11 y11 z11
  obtain ⟨rfl, Nq11, Kq11, Vq11⟩ := hQ11
  have N11 := Fr.app N6 Nq11
  have O12 := O7.keep Kq11 (allS g_d1 all0)
  have K12 : Keep h0 T11.heap [] := K7.trans Kq11 (allS (Or.inr sz_d1) all0)
  refine own_on (B := T11.setTop (mkF m 23 #[rv u0, iv (1 : Int32), iv (2 : Int32), rv d1, iv (1 : Int32)] [])) (fun tz kz => st11 _ kz) ?_
  have Vl11 : Arv Z T11.heap d1 kd1 .byte (4 : Int32) [(.int (nar .byte ((x0 >>> ((0 : Int32) &&& 31)).toInt8.toInt32))), (.int (nar .byte ((x0 >>> ((8 : Int32) &&& 31)).toInt8.toInt32))), (.int (nar .byte ((x1 >>> ((0 : Int32) &&& 31)).toInt8.toInt32))), (.int (nar .byte ((x1 >>> ((8 : Int32) &&& 31)).toInt8.toInt32)))] (.int 0) := Vq11
  refine own_on (B := T11.setTop (mkF m 33 #[rv u0, iv (2 : Int32), iv (2 : Int32), rv d1, iv (2 : Int32)] [(.ref d1)])) (fun tz kz => ?_) ?_
  · show sT p e below T11 (mkF m 23 #[rv u0, iv (1 : Int32), iv (2 : Int32), rv d1, iv (1 : Int32)] []) tz
    refine XS.iinc X11.here hx rfl (hb hby own_d21_23) rfl (l' := #[rv u0, iv (2 : Int32), iv (2 : Int32), rv d1, iv (1 : Int32)]) rfl ?_
    show sT p e below T11 (mkF m 26 #[rv u0, iv (2 : Int32), iv (2 : Int32), rv d1, iv (1 : Int32)] []) tz
    refine XS.iinc X11.here hx rfl (hb hby own_d21_26) rfl (l' := #[rv u0, iv (2 : Int32), iv (2 : Int32), rv d1, iv (2 : Int32)]) rfl ?_
    show sT p e below T11 (mkF m 29 #[rv u0, iv (2 : Int32), iv (2 : Int32), rv d1, iv (2 : Int32)] []) tz
    refine XS.goto X11.here hx rfl (pc0 := 29) (pc' := 8) rfl (hb hby own_d21_29) (by decide) (by decide) ?_
    show sT p e below T11 (mkF m 8 #[rv u0, iv (2 : Int32), iv (2 : Int32), rv d1, iv (2 : Int32)] []) tz
    refine XS.iload X11.here hx rfl (hb hby own_d21_8) rfl ?_
    show sT p e below T11 (mkF m 10 #[rv u0, iv (2 : Int32), iv (2 : Int32), rv d1, iv (2 : Int32)] [(.int (2 : Int32))]) tz
    refine XS.iloadN X11.here hx rfl (hb hby own_d21_10) rfl ?_
    show sT p e below T11 (mkF m 11 #[rv u0, iv (2 : Int32), iv (2 : Int32), rv d1, iv (2 : Int32)] [(.int (2 : Int32)), (.int (2 : Int32))]) tz
    refine XS.icmpYes X11.here hx rfl (pc0 := 11) (pc' := 32) rfl (hb hby own_d21_11) rfl (flt Int32.lt_irrefl).2.1 (by decide) (by decide) ?_
    show sT p e below T11 (mkF m 32 #[rv u0, iv (2 : Int32), iv (2 : Int32), rv d1, iv (2 : Int32)] []) tz
    refine XS.aloadN X11.here hx rfl (hb hby own_d21_32) rfl rfl ?_
    exact kz
  obtain ⟨fs, hr, hrun, hended, hW, hsame⟩ := X11.leave (v := some (.ref d1)) (fun h => by rw [Bd.returns] at h; cases h)
  refine own_of ⟨_, _, ?_, hrun, hended, _, _, rfl, ?_, ⟨_, rfl⟩, hW, hsame.mono (by decide) (by decide)⟩
  · show sT p e below T11 (mkF m 33 #[rv u0, iv (2 : Int32), iv (2 : Int32), rv d1, iv (2 : Int32)] [(.ref d1)]) _
    exact own_retV X11 hx Bd.returns rfl rfl (hb hby own_d21_33) hr
  · show Q21b Z u0 kx x0 x1 h0 n0 _ T11.heap _
    exact ⟨d1, kd1, rfl, N11, K12, sz_d1, Vl11⟩
theorem own_ef_19b (m : MethodId) (x0 : Addr) (x1 : Int32) (x2 : Addr) (x3 : Int32) (x4 : Int32) : entryFrame m #[(.ref x0), (.int x1), (.ref x2), (.int x3), (.int x4)] 7 = mkF m 0 #[rv x0, iv x1, rv x2, iv x3, iv x4, .unset, .unset] [] := by first | (simp [entryFrame, mkF, argsToLocals, Value.category]; done) | rfl
def Q19b (Z : State) (u0 : Addr) (u2 : Addr) (kx : ClassId) (x0 : Int32) (x1 : Int32) (h0 : Heap) (n0 : Nat) (v : Option Value) (h : Heap) (L : List Loc) : Prop := v = some (.int (if (255 : Int32) < x0 then (0 : Int32) else (if (255 : Int32) < x1 then (1 : Int32) else (2 : Int32)))) ∧ Fr n0 L ∧ Keep h0 h [u2] ∧ OwnArz Z h u2 .byte (2 : Int32)
set_option maxRecDepth 65536 in
set_option maxHeartbeats 40000000 in
theorem rm19b (l : Launch) (Z : State) (a0 : Array Value) (hw : ∀ d ∈ tables_1, d.before a0 Z = true) (ws : List Jvm.Cond) (u0 : Addr) (u2 : Addr) (kx : ClassId) (x0 : Int32) (x1 : Int32) (h0 : Heap) (n0 : Nat) (O0 : Old Z n0 h0) (Vc : Arv Z h0 u0 kx .char (2 : Int32) [(.int x0), (.int x1)] (.int 0)) (Vb : OwnArz Z h0 u2 .byte (2 : Int32)) (g_u2 : n0 ≤ u2) (n02 : u0 ≠ u2) :
    MetFree l (⟨"java/lang/StringUTF16", "compress", "([CI[BII)I"⟩ : MethodName) (head1 (Jvm.Cond.code (⟨"java/lang/StringUTF16", "compress", "([CI[BII)I"⟩ : MethodName) jdk_52_method_21_code 7 (some .int) :: ws) ({ frames := 0, cells := 0, slots := 0, locals := 0 } : Room)) (fun a U => a = #[(.ref u0), (.int (0 : Int32)), (.ref u2), (.int (0 : Int32)), (.int (2 : Int32))] ∧ Z.Warmed39 U.vm ∧ U.heap = h0) (fun _ _ _ _ _ => True) (fun _ U o U' => ∃ v L, o = .returned v ∧ Q19b Z u0 u2 kx x0 x1 h0 n0 v U'.heap L ∧ FrameEnd U o U' L ({ frames := 0, cells := 0, slots := 0, locals := 0 } : Room).cells ({ frames := 0, cells := 0, slots := 0, locals := 0 } : Room).slots) := by
  refine MetFree.of_bodySF (plainFor_of_name own_pn_java_lang_StringUTF16) hisR ?_
  intro p e s m args below meth c s₁ Bd hml0 hP hK
  obtain ⟨rfl, hZ, hh⟩ := hP
  have hx := Bd.exec
  have hby := Bd.bytes
  have hml : c.maxLocals = 7 := hml0
  have hown : s.vm.findClass "java/lang/StringUTF16" = some m.cls := findClass_of_methodNamed Bd.named
  have hnm := (name_of_methodNamed Bd.named Bd.method).1
  have X0 : Stand p l e ({ frames := 0, cells := 0, slots := 0, locals := 0 } : Room) s m #[(.ref u0), (.int (0 : Int32)), (.ref u2), (.int (0 : Int32)), (.int (2 : Int32))] below meth c s₁ [] 0 0 := Stand.of_body Bd
  have e0 : s₁.heap = h0 := by rw [← hh, Bd.state]; rfl
  have N0 := Fr.nil n0
  change Go p.tables e below _ _
  refine own_on (B := s₁.setTop (mkF m 0 #[rv u0, iv (0 : Int32), rv u2, iv (0 : Int32), iv (2 : Int32), .unset, .unset] [])) (fun tz kz => castTop (own_ef_19b m u0 (0 : Int32) u2 (0 : Int32) (2 : Int32)) kz) ?_
  refine own_on (B := s₁.setTop (mkF m 12 #[rv u0, iv (0 : Int32), rv u2, iv (0 : Int32), iv (2 : Int32), iv (0 : Int32), .unset] [(.int (0 : Int32)), (.ref u0)])) (fun tz kz => ?_) ?_
  · show sT p e below s₁ (mkF m 0 #[rv u0, iv (0 : Int32), rv u2, iv (0 : Int32), iv (2 : Int32), .unset, .unset] []) tz
    refine XS.iconst X0.here hx rfl (hb hby own_d19_0) ?_
    show sT p e below s₁ (mkF m 1 #[rv u0, iv (0 : Int32), rv u2, iv (0 : Int32), iv (2 : Int32), .unset, .unset] [(.int (0 : Int32))]) tz
    refine XS.istore X0.here hx rfl (hb hby own_d19_1) rfl (l' := #[rv u0, iv (0 : Int32), rv u2, iv (0 : Int32), iv (2 : Int32), iv (0 : Int32), .unset]) rfl ?_
    show sT p e below s₁ (mkF m 3 #[rv u0, iv (0 : Int32), rv u2, iv (0 : Int32), iv (2 : Int32), iv (0 : Int32), .unset] []) tz
    refine XS.iload X0.here hx rfl (hb hby own_d19_3) rfl ?_
    show sT p e below s₁ (mkF m 5 #[rv u0, iv (0 : Int32), rv u2, iv (0 : Int32), iv (2 : Int32), iv (0 : Int32), .unset] [(.int (0 : Int32))]) tz
    refine XS.iload X0.here hx rfl (hb hby own_d19_5) rfl ?_
    show sT p e below s₁ (mkF m 7 #[rv u0, iv (0 : Int32), rv u2, iv (0 : Int32), iv (2 : Int32), iv (0 : Int32), .unset] [(.int (2 : Int32)), (.int (0 : Int32))]) tz
    refine XS.icmpNo X0.here hx rfl (hb hby own_d19_7) rfl (tlt (by decide : (0 : Int32) < (2 : Int32))).2.1 ?_
    show sT p e below s₁ (mkF m 10 #[rv u0, iv (0 : Int32), rv u2, iv (0 : Int32), iv (2 : Int32), iv (0 : Int32), .unset] []) tz
    refine XS.aloadN X0.here hx rfl (hb hby own_d19_10) rfl rfl ?_
    show sT p e below s₁ (mkF m 11 #[rv u0, iv (0 : Int32), rv u2, iv (0 : Int32), iv (2 : Int32), iv (0 : Int32), .unset] [(.ref u0)]) tz
    refine XS.iloadN X0.here hx rfl (hb hby own_d19_11) rfl ?_
    exact kz
  obtain ⟨cl1, Ar1, q1, S1, M1, H1, G1⟩ := id Vc
  have hin2 : ¬ ((0 : Int32) < 0 ∨ cl1.slots.size ≤ ((0 : Int32)).toNatClampNeg) := inb_of S1 ⟨by decide, by decide⟩
  have hat2 : cl1.slots[((0 : Int32)).toNatClampNeg]? = some (.int x0) := Has.at H1 hin2 rfl
  refine own_on (B := s₁.setTop (mkF m 20 #[rv u0, iv (0 : Int32), rv u2, iv (0 : Int32), iv (2 : Int32), iv (0 : Int32), iv x0] [(.int (255 : Int32)), (.int x0)])) (fun tz kz => ?_) ?_
  · show sT p e below s₁ (mkF m 12 #[rv u0, iv (0 : Int32), rv u2, iv (0 : Int32), iv (2 : Int32), iv (0 : Int32), .unset] [(.int (0 : Int32)), (.ref u0)]) tz
    refine X0.caload hx (j := (0 : Int32)) (v := (.int x0)) (by rw [e0]; exact Ar1.1) (State.isArrayOf_alike hZ.alike Ar1.2.1) Ar1.2.2 hin2 hat2 (g := (mkF m 12 #[rv u0, iv (0 : Int32), rv u2, iv (0 : Int32), iv (2 : Int32), iv (0 : Int32), .unset] [(.int (0 : Int32)), (.ref u0)])) rfl rfl (hb hby own_d19_12) _ ?_
    show sT p e below s₁ (mkF m 13 #[rv u0, iv (0 : Int32), rv u2, iv (0 : Int32), iv (2 : Int32), iv (0 : Int32), .unset] [(.int x0)]) tz
    refine XS.istore X0.here hx rfl (hb hby own_d19_13) rfl (l' := #[rv u0, iv (0 : Int32), rv u2, iv (0 : Int32), iv (2 : Int32), iv (0 : Int32), iv x0]) rfl ?_
    show sT p e below s₁ (mkF m 15 #[rv u0, iv (0 : Int32), rv u2, iv (0 : Int32), iv (2 : Int32), iv (0 : Int32), iv x0] []) tz
    refine XS.iload X0.here hx rfl (hb hby own_d19_15) rfl ?_
    show sT p e below s₁ (mkF m 17 #[rv u0, iv (0 : Int32), rv u2, iv (0 : Int32), iv (2 : Int32), iv (0 : Int32), iv x0] [(.int x0)]) tz
    refine XS.sipush X0.here hx rfl (hb hby own_d19_17) ?_
    exact kz
  by_cases hs0 : (255 : Int32) < x0
  · refine own_on (B := s₁.setTop (mkF m 25 #[rv u0, iv (0 : Int32), rv u2, iv (0 : Int32), iv (2 : Int32), iv (0 : Int32), iv x0] [(.int (0 : Int32))])) (fun tz kz => ?_) ?_
    · show sT p e below s₁ (mkF m 20 #[rv u0, iv (0 : Int32), rv u2, iv (0 : Int32), iv (2 : Int32), iv (0 : Int32), iv x0] [(.int (255 : Int32)), (.int x0)]) tz
      refine XS.icmpNo X0.here hx rfl (hb hby own_d19_20) rfl (tlt hs0).2.2.2 ?_
      show sT p e below s₁ (mkF m 23 #[rv u0, iv (0 : Int32), rv u2, iv (0 : Int32), iv (2 : Int32), iv (0 : Int32), iv x0] []) tz
      refine XS.iload X0.here hx rfl (hb hby own_d19_23) rfl ?_
      exact kz
    obtain ⟨fs, hr, hrun, hended, hW, hsame⟩ := X0.leave (v := some (.int (0 : Int32))) (fun h => by rw [Bd.returns] at h; cases h)
    refine own_of ⟨_, _, ?_, hrun, hended, _, _, rfl, ?_, ⟨_, rfl⟩, hW, hsame.mono (by decide) (by decide)⟩
    · show sT p e below s₁ (mkF m 25 #[rv u0, iv (0 : Int32), rv u2, iv (0 : Int32), iv (2 : Int32), iv (0 : Int32), iv x0] [(.int (0 : Int32))]) _
      exact own_retI X0 hx Bd.returns (hb hby own_d19_25) hr
    · show Q19b Z u0 u2 kx x0 x1 h0 n0 _ s₁.heap _
      rw [e0]
      exact ⟨by rw [if_pos hs0], N0, (Keep.refl h0 [u2]), Vb⟩
  · refine own_on (B := s₁.setTop (mkF m 31 #[rv u0, iv (0 : Int32), rv u2, iv (0 : Int32), iv (2 : Int32), iv (0 : Int32), iv x0] [(.int (x0.toInt8.toInt32)), (.int (0 : Int32)), (.ref u2)])) (fun tz kz => ?_) ?_
    · show sT p e below s₁ (mkF m 20 #[rv u0, iv (0 : Int32), rv u2, iv (0 : Int32), iv (2 : Int32), iv (0 : Int32), iv x0] [(.int (255 : Int32)), (.int x0)]) tz
      refine XS.icmpYes X0.here hx rfl (pc0 := 20) (pc' := 26) rfl (hb hby own_d19_20) rfl (flt hs0).2.2.2 (by decide) (by decide) ?_
      show sT p e below s₁ (mkF m 26 #[rv u0, iv (0 : Int32), rv u2, iv (0 : Int32), iv (2 : Int32), iv (0 : Int32), iv x0] []) tz
      refine XS.aloadN X0.here hx rfl (hb hby own_d19_26) rfl rfl ?_
      show sT p e below s₁ (mkF m 27 #[rv u0, iv (0 : Int32), rv u2, iv (0 : Int32), iv (2 : Int32), iv (0 : Int32), iv x0] [(.ref u2)]) tz
      refine XS.iloadN X0.here hx rfl (hb hby own_d19_27) rfl ?_
      show sT p e below s₁ (mkF m 28 #[rv u0, iv (0 : Int32), rv u2, iv (0 : Int32), iv (2 : Int32), iv (0 : Int32), iv x0] [(.int (0 : Int32)), (.ref u2)]) tz
      refine XS.iload X0.here hx rfl (hb hby own_d19_28) rfl ?_
      show sT p e below s₁ (mkF m 30 #[rv u0, iv (0 : Int32), rv u2, iv (0 : Int32), iv (2 : Int32), iv (0 : Int32), iv x0] [(.int x0), (.int (0 : Int32)), (.ref u2)]) tz
      refine XS.i2b X0.here hx rfl (hb hby own_d19_30) rfl ?_
      exact kz
    obtain ⟨cl3, Ar3, S3, M3⟩ := id Vb
    have hin3 : ¬ ((0 : Int32) < 0 ∨ cl3.slots.size ≤ ((0 : Int32)).toNatClampNeg) := inb_of S3 ⟨by decide, by decide⟩
    obtain ⟨T3, h3, X3, e3, W3, st3⟩ := stB X0 hx hZ e0 Ar3 (j := (0 : Int32)) hin3 (g := (mkF m 31 #[rv u0, iv (0 : Int32), rv u2, iv (0 : Int32), iv (2 : Int32), iv (0 : Int32), iv x0] [(.int (x0.toInt8.toInt32)), (.int (0 : Int32)), (.ref u2)])) rfl rfl (hb hby own_d19_31)
    have V3 := OwnArz.set Ar3 S3 M3 W3
    have N3 := Fr.snoc X3 N0 g_u2
    have O4 := O0.wr W3 g_u2
    have K4 : Keep h0 h3 [u2] := (Keep.refl h0 [u2]).wr W3 (Or.inl (List.mem_of_getElem? (i := 0) rfl))
    refine own_on (B := T3.setTop (mkF m 32 #[rv u0, iv (0 : Int32), rv u2, iv (0 : Int32), iv (2 : Int32), iv (0 : Int32), iv x0] [])) (fun tz kz => st3 _ kz) ?_
    refine own_on (B := T3.setTop (mkF m 12 #[rv u0, iv (1 : Int32), rv u2, iv (1 : Int32), iv (2 : Int32), iv (1 : Int32), iv x0] [(.int (1 : Int32)), (.ref u0)])) (fun tz kz => ?_) ?_
    · show sT p e below T3 (mkF m 32 #[rv u0, iv (0 : Int32), rv u2, iv (0 : Int32), iv (2 : Int32), iv (0 : Int32), iv x0] []) tz
      refine XS.iinc X3.here hx rfl (hb hby own_d19_32) rfl (l' := #[rv u0, iv (1 : Int32), rv u2, iv (0 : Int32), iv (2 : Int32), iv (0 : Int32), iv x0]) rfl ?_
      show sT p e below T3 (mkF m 35 #[rv u0, iv (1 : Int32), rv u2, iv (0 : Int32), iv (2 : Int32), iv (0 : Int32), iv x0] []) tz
      refine XS.iinc X3.here hx rfl (hb hby own_d19_35) rfl (l' := #[rv u0, iv (1 : Int32), rv u2, iv (1 : Int32), iv (2 : Int32), iv (0 : Int32), iv x0]) rfl ?_
      show sT p e below T3 (mkF m 38 #[rv u0, iv (1 : Int32), rv u2, iv (1 : Int32), iv (2 : Int32), iv (0 : Int32), iv x0] []) tz
      refine XS.iinc X3.here hx rfl (hb hby own_d19_38) rfl (l' := #[rv u0, iv (1 : Int32), rv u2, iv (1 : Int32), iv (2 : Int32), iv (1 : Int32), iv x0]) rfl ?_
      show sT p e below T3 (mkF m 41 #[rv u0, iv (1 : Int32), rv u2, iv (1 : Int32), iv (2 : Int32), iv (1 : Int32), iv x0] []) tz
      refine XS.goto X3.here hx rfl (pc0 := 41) (pc' := 3) rfl (hb hby own_d19_41) (by decide) (by decide) ?_
      show sT p e below T3 (mkF m 3 #[rv u0, iv (1 : Int32), rv u2, iv (1 : Int32), iv (2 : Int32), iv (1 : Int32), iv x0] []) tz
      refine XS.iload X3.here hx rfl (hb hby own_d19_3) rfl ?_
      show sT p e below T3 (mkF m 5 #[rv u0, iv (1 : Int32), rv u2, iv (1 : Int32), iv (2 : Int32), iv (1 : Int32), iv x0] [(.int (1 : Int32))]) tz
      refine XS.iload X3.here hx rfl (hb hby own_d19_5) rfl ?_
      show sT p e below T3 (mkF m 7 #[rv u0, iv (1 : Int32), rv u2, iv (1 : Int32), iv (2 : Int32), iv (1 : Int32), iv x0] [(.int (2 : Int32)), (.int (1 : Int32))]) tz
      refine XS.icmpNo X3.here hx rfl (hb hby own_d19_7) rfl (tlt (by decide : (1 : Int32) < (2 : Int32))).2.1 ?_
      show sT p e below T3 (mkF m 10 #[rv u0, iv (1 : Int32), rv u2, iv (1 : Int32), iv (2 : Int32), iv (1 : Int32), iv x0] []) tz
      refine XS.aloadN X3.here hx rfl (hb hby own_d19_10) rfl rfl ?_
      show sT p e below T3 (mkF m 11 #[rv u0, iv (1 : Int32), rv u2, iv (1 : Int32), iv (2 : Int32), iv (1 : Int32), iv x0] [(.ref u0)]) tz
      refine XS.iloadN X3.here hx rfl (hb hby own_d19_11) rfl ?_
      exact kz
    have f_5 := (Vc.other W3 n02)
    obtain ⟨cl6, Ar6, q6, S6, M6, H6, G6⟩ := id f_5
    have hin7 : ¬ ((1 : Int32) < 0 ∨ cl6.slots.size ≤ ((1 : Int32)).toNatClampNeg) := inb_of S6 ⟨by decide, by decide⟩
    have hat7 : cl6.slots[((1 : Int32)).toNatClampNeg]? = some (.int x1) := Has.at H6 hin7 rfl
    refine own_on (B := T3.setTop (mkF m 20 #[rv u0, iv (1 : Int32), rv u2, iv (1 : Int32), iv (2 : Int32), iv (1 : Int32), iv x1] [(.int (255 : Int32)), (.int x1)])) (fun tz kz => ?_) ?_
    · show sT p e below T3 (mkF m 12 #[rv u0, iv (1 : Int32), rv u2, iv (1 : Int32), iv (2 : Int32), iv (1 : Int32), iv x0] [(.int (1 : Int32)), (.ref u0)]) tz
      refine X3.caload hx (j := (1 : Int32)) (v := (.int x1)) (by rw [e3]; exact Ar6.1) (State.isArrayOf_alike hZ.alike Ar6.2.1) Ar6.2.2 hin7 hat7 (g := (mkF m 12 #[rv u0, iv (1 : Int32), rv u2, iv (1 : Int32), iv (2 : Int32), iv (1 : Int32), iv x0] [(.int (1 : Int32)), (.ref u0)])) rfl rfl (hb hby own_d19_12) _ ?_
      show sT p e below T3 (mkF m 13 #[rv u0, iv (1 : Int32), rv u2, iv (1 : Int32), iv (2 : Int32), iv (1 : Int32), iv x0] [(.int x1)]) tz
      refine XS.istore X3.here hx rfl (hb hby own_d19_13) rfl (l' := #[rv u0, iv (1 : Int32), rv u2, iv (1 : Int32), iv (2 : Int32), iv (1 : Int32), iv x1]) rfl ?_
      show sT p e below T3 (mkF m 15 #[rv u0, iv (1 : Int32), rv u2, iv (1 : Int32), iv (2 : Int32), iv (1 : Int32), iv x1] []) tz
      refine XS.iload X3.here hx rfl (hb hby own_d19_15) rfl ?_
      show sT p e below T3 (mkF m 17 #[rv u0, iv (1 : Int32), rv u2, iv (1 : Int32), iv (2 : Int32), iv (1 : Int32), iv x1] [(.int x1)]) tz
      refine XS.sipush X3.here hx rfl (hb hby own_d19_17) ?_
      exact kz
    by_cases hs1 : (255 : Int32) < x1
    · refine own_on (B := T3.setTop (mkF m 25 #[rv u0, iv (1 : Int32), rv u2, iv (1 : Int32), iv (2 : Int32), iv (1 : Int32), iv x1] [(.int (1 : Int32))])) (fun tz kz => ?_) ?_
      · show sT p e below T3 (mkF m 20 #[rv u0, iv (1 : Int32), rv u2, iv (1 : Int32), iv (2 : Int32), iv (1 : Int32), iv x1] [(.int (255 : Int32)), (.int x1)]) tz
        refine XS.icmpNo X3.here hx rfl (hb hby own_d19_20) rfl (tlt hs1).2.2.2 ?_
        show sT p e below T3 (mkF m 23 #[rv u0, iv (1 : Int32), rv u2, iv (1 : Int32), iv (2 : Int32), iv (1 : Int32), iv x1] []) tz
        refine XS.iload X3.here hx rfl (hb hby own_d19_23) rfl ?_
        exact kz
      obtain ⟨fs, hr, hrun, hended, hW, hsame⟩ := X3.leave (v := some (.int (1 : Int32))) (fun h => by rw [Bd.returns] at h; cases h)
      refine own_of ⟨_, _, ?_, hrun, hended, _, _, rfl, ?_, ⟨_, rfl⟩, hW, hsame.mono (by decide) (by decide)⟩
      · show sT p e below T3 (mkF m 25 #[rv u0, iv (1 : Int32), rv u2, iv (1 : Int32), iv (2 : Int32), iv (1 : Int32), iv x1] [(.int (1 : Int32))]) _
        exact own_retI X3 hx Bd.returns (hb hby own_d19_25) hr
      · show Q19b Z u0 u2 kx x0 x1 h0 n0 _ T3.heap _
        rw [e3]
        exact ⟨by rw [if_neg hs0, if_pos hs1], N3, K4, V3⟩
    · refine own_on (B := T3.setTop (mkF m 31 #[rv u0, iv (1 : Int32), rv u2, iv (1 : Int32), iv (2 : Int32), iv (1 : Int32), iv x1] [(.int (x1.toInt8.toInt32)), (.int (1 : Int32)), (.ref u2)])) (fun tz kz => ?_) ?_
      · show sT p e below T3 (mkF m 20 #[rv u0, iv (1 : Int32), rv u2, iv (1 : Int32), iv (2 : Int32), iv (1 : Int32), iv x1] [(.int (255 : Int32)), (.int x1)]) tz
        refine XS.icmpYes X3.here hx rfl (pc0 := 20) (pc' := 26) rfl (hb hby own_d19_20) rfl (flt hs1).2.2.2 (by decide) (by decide) ?_
        show sT p e below T3 (mkF m 26 #[rv u0, iv (1 : Int32), rv u2, iv (1 : Int32), iv (2 : Int32), iv (1 : Int32), iv x1] []) tz
        refine XS.aloadN X3.here hx rfl (hb hby own_d19_26) rfl rfl ?_
        show sT p e below T3 (mkF m 27 #[rv u0, iv (1 : Int32), rv u2, iv (1 : Int32), iv (2 : Int32), iv (1 : Int32), iv x1] [(.ref u2)]) tz
        refine XS.iloadN X3.here hx rfl (hb hby own_d19_27) rfl ?_
        show sT p e below T3 (mkF m 28 #[rv u0, iv (1 : Int32), rv u2, iv (1 : Int32), iv (2 : Int32), iv (1 : Int32), iv x1] [(.int (1 : Int32)), (.ref u2)]) tz
        refine XS.iload X3.here hx rfl (hb hby own_d19_28) rfl ?_
        show sT p e below T3 (mkF m 30 #[rv u0, iv (1 : Int32), rv u2, iv (1 : Int32), iv (2 : Int32), iv (1 : Int32), iv x1] [(.int x1), (.int (1 : Int32)), (.ref u2)]) tz
        refine XS.i2b X3.here hx rfl (hb hby own_d19_30) rfl ?_
        exact kz
      obtain ⟨cl8, Ar8, S8, M8⟩ := id V3
      have hin8 : ¬ ((1 : Int32) < 0 ∨ cl8.slots.size ≤ ((1 : Int32)).toNatClampNeg) := inb_of S8 ⟨by decide, by decide⟩
      obtain ⟨T8, h8, X8, e8, W8, st8⟩ := stB X3 hx hZ e3 Ar8 (j := (1 : Int32)) hin8 (g := (mkF m 31 #[rv u0, iv (1 : Int32), rv u2, iv (1 : Int32), iv (2 : Int32), iv (1 : Int32), iv x1] [(.int (x1.toInt8.toInt32)), (.int (1 : Int32)), (.ref u2)])) rfl rfl (hb hby own_d19_31)
      have V8 := OwnArz.set Ar8 S8 M8 W8
      have N8 := Fr.snoc X8 N3 g_u2
      have O9 := O4.wr W8 g_u2
      have K9 : Keep h0 h8 [u2] := K4.wr W8 (Or.inl (List.mem_of_getElem? (i := 0) rfl))
      refine own_on (B := T8.setTop (mkF m 32 #[rv u0, iv (1 : Int32), rv u2, iv (1 : Int32), iv (2 : Int32), iv (1 : Int32), iv x1] [])) (fun tz kz => st8 _ kz) ?_
      refine own_on (B := T8.setTop (mkF m 46 #[rv u0, iv (2 : Int32), rv u2, iv (2 : Int32), iv (2 : Int32), iv (2 : Int32), iv x1] [(.int (2 : Int32))])) (fun tz kz => ?_) ?_
      · show sT p e below T8 (mkF m 32 #[rv u0, iv (1 : Int32), rv u2, iv (1 : Int32), iv (2 : Int32), iv (1 : Int32), iv x1] []) tz
        refine XS.iinc X8.here hx rfl (hb hby own_d19_32) rfl (l' := #[rv u0, iv (2 : Int32), rv u2, iv (1 : Int32), iv (2 : Int32), iv (1 : Int32), iv x1]) rfl ?_
        show sT p e below T8 (mkF m 35 #[rv u0, iv (2 : Int32), rv u2, iv (1 : Int32), iv (2 : Int32), iv (1 : Int32), iv x1] []) tz
        refine XS.iinc X8.here hx rfl (hb hby own_d19_35) rfl (l' := #[rv u0, iv (2 : Int32), rv u2, iv (2 : Int32), iv (2 : Int32), iv (1 : Int32), iv x1]) rfl ?_
        show sT p e below T8 (mkF m 38 #[rv u0, iv (2 : Int32), rv u2, iv (2 : Int32), iv (2 : Int32), iv (1 : Int32), iv x1] []) tz
        refine XS.iinc X8.here hx rfl (hb hby own_d19_38) rfl (l' := #[rv u0, iv (2 : Int32), rv u2, iv (2 : Int32), iv (2 : Int32), iv (2 : Int32), iv x1]) rfl ?_
        show sT p e below T8 (mkF m 41 #[rv u0, iv (2 : Int32), rv u2, iv (2 : Int32), iv (2 : Int32), iv (2 : Int32), iv x1] []) tz
        refine XS.goto X8.here hx rfl (pc0 := 41) (pc' := 3) rfl (hb hby own_d19_41) (by decide) (by decide) ?_
        show sT p e below T8 (mkF m 3 #[rv u0, iv (2 : Int32), rv u2, iv (2 : Int32), iv (2 : Int32), iv (2 : Int32), iv x1] []) tz
        refine XS.iload X8.here hx rfl (hb hby own_d19_3) rfl ?_
        show sT p e below T8 (mkF m 5 #[rv u0, iv (2 : Int32), rv u2, iv (2 : Int32), iv (2 : Int32), iv (2 : Int32), iv x1] [(.int (2 : Int32))]) tz
        refine XS.iload X8.here hx rfl (hb hby own_d19_5) rfl ?_
        show sT p e below T8 (mkF m 7 #[rv u0, iv (2 : Int32), rv u2, iv (2 : Int32), iv (2 : Int32), iv (2 : Int32), iv x1] [(.int (2 : Int32)), (.int (2 : Int32))]) tz
        refine XS.icmpYes X8.here hx rfl (pc0 := 7) (pc' := 44) rfl (hb hby own_d19_7) rfl (flt Int32.lt_irrefl).2.1 (by decide) (by decide) ?_
        show sT p e below T8 (mkF m 44 #[rv u0, iv (2 : Int32), rv u2, iv (2 : Int32), iv (2 : Int32), iv (2 : Int32), iv x1] []) tz
        refine XS.iload X8.here hx rfl (hb hby own_d19_44) rfl ?_
        exact kz
      obtain ⟨fs, hr, hrun, hended, hW, hsame⟩ := X8.leave (v := some (.int (2 : Int32))) (fun h => by rw [Bd.returns] at h; cases h)
      refine own_of ⟨_, _, ?_, hrun, hended, _, _, rfl, ?_, ⟨_, rfl⟩, hW, hsame.mono (by decide) (by decide)⟩
      · show sT p e below T8 (mkF m 46 #[rv u0, iv (2 : Int32), rv u2, iv (2 : Int32), iv (2 : Int32), iv (2 : Int32), iv x1] [(.int (2 : Int32))]) _
        exact own_retI X8 hx Bd.returns (hb hby own_d19_46) hr
      · show Q19b Z u0 u2 kx x0 x1 h0 n0 _ T8.heap _
        rw [e8]
        exact ⟨by rw [if_neg hs0, if_neg hs1], N8, K9, V8⟩
theorem own_ef_18b (m : MethodId) (x0 : Addr) (x1 : Int32) (x2 : Int32) : entryFrame m #[(.ref x0), (.int x1), (.int x2)] 6 = mkF m 0 #[rv x0, iv x1, iv x2, .unset, .unset, .unset] [] := by first | (simp [entryFrame, mkF, argsToLocals, Value.category]; done) | rfl
def Q18b (Z : State) (u0 : Addr) (kx : ClassId) (x0 : Int32) (x1 : Int32) (h0 : Heap) (n0 : Nat) (v : Option Value) (h : Heap) (L : List Loc) : Prop := ∃ (d : Addr) (ln cd : Int32), v = some (.ref d) ∧ Fr n0 L ∧ Keep h0 h [] ∧ h0.size ≤ d ∧ OwnArz Z h d .byte ln ∧ OwnLC (2 : Int32) ln cd
set_option maxRecDepth 65536 in
set_option maxHeartbeats 40000000 in
theorem rm18b (l : Launch) (Z : State) (a0 : Array Value) (hw : ∀ d ∈ tables_1, d.before a0 Z = true) (ws : List Jvm.Cond) (u0 : Addr) (kx : ClassId) (x0 : Int32) (x1 : Int32) (h0 : Heap) (n0 : Nat) (O0 : Old Z n0 h0) (S_as : Sta Z Z.heap "java/lang/StringUTF16" "$assertionsDisabled" "Z" (.int 1)) (S_hi : Sta Z Z.heap "java/lang/StringUTF16" "HI_BYTE_SHIFT" "I" (.int 0)) (S_lo : Sta Z Z.heap "java/lang/StringUTF16" "LO_BYTE_SHIFT" "I" (.int 8)) (Vc : Arv Z h0 u0 kx .char (2 : Int32) [(.int x0), (.int x1)] (.int 0)) (l0 : ¬ x0 < 0) (u0_ : ¬ (65535 : Int32) < x0) (l1 : ¬ x1 < 0) (u1_ : ¬ (65535 : Int32) < x1) :
    MetFree l (⟨"java/lang/StringUTF16", "compress", "([CII)[B"⟩ : MethodName) (head1 (Jvm.Cond.code (⟨"java/lang/StringUTF16", "compress", "([CII)[B"⟩ : MethodName) jdk_52_method_16_code 6 (some (.array .byte)) :: ws) ({ frames := 3, cells := 2, slots := 6, locals := 40 } : Room)) (fun a U => a = #[(.ref u0), (.int (0 : Int32)), (.int (2 : Int32))] ∧ Z.Warmed39 U.vm ∧ U.heap = h0) (fun _ _ _ _ _ => True) (fun _ U o U' => ∃ v L, o = .returned v ∧ Q18b Z u0 kx x0 x1 h0 n0 v U'.heap L ∧ FrameEnd U o U' L ({ frames := 3, cells := 2, slots := 6, locals := 40 } : Room).cells ({ frames := 3, cells := 2, slots := 6, locals := 40 } : Room).slots) := by
  refine MetFree.of_bodySF (plainFor_of_name own_pn_java_lang_StringUTF16) hisR ?_
  intro p e s m args below meth c s₁ Bd hml0 hP hK
  obtain ⟨rfl, hZ, hh⟩ := hP
  have hx := Bd.exec
  have hby := Bd.bytes
  have hml : c.maxLocals = 6 := hml0
  have hown : s.vm.findClass "java/lang/StringUTF16" = some m.cls := findClass_of_methodNamed Bd.named
  have hnm := (name_of_methodNamed Bd.named Bd.method).1
  have X0 : Stand p l e ({ frames := 3, cells := 2, slots := 6, locals := 40 } : Room) s m #[(.ref u0), (.int (0 : Int32)), (.int (2 : Int32))] below meth c s₁ [] 0 0 := Stand.of_body Bd
  have e0 : s₁.heap = h0 := by rw [← hh, Bd.state]; rfl
  have N0 := Fr.nil n0
  change Go p.tables e below _ _
  refine own_on (B := s₁.setTop (mkF m 0 #[rv u0, iv (0 : Int32), iv (2 : Int32), .unset, .unset, .unset] [])) (fun tz kz => castTop (own_ef_18b m u0 (0 : Int32) (2 : Int32)) kz) ?_
  refine own_on (B := s₁.setTop (mkF m 1 #[rv u0, iv (0 : Int32), iv (2 : Int32), .unset, .unset, .unset] [(.int (2 : Int32))])) (fun tz kz => ?_) ?_
  · show sT p e below s₁ (mkF m 0 #[rv u0, iv (0 : Int32), iv (2 : Int32), .unset, .unset, .unset] []) tz
    refine XS.iloadN X0.here hx rfl (hb hby own_d18_0) rfl ?_
    exact kz
  obtain ⟨T1, h1, k1, X1, e1, E1, A1, st1⟩ := newP X0 hx hZ (own_w hw 21 rfl) e0 (g := (mkF m 1 #[rv u0, iv (0 : Int32), iv (2 : Int32), .unset, .unset, .unset] [(.int (2 : Int32))])) rfl (hb hby own_d18_1) rfl (by decide) (cap := 2) (by decide) (by decide) (by decide) (by decide)
  obtain ⟨b1, g1⟩ : ∃ z, z = h0.size := ⟨_, rfl⟩
  rw [← g1] at A1 st1
  have ne_u0_b1 : u0 ≠ b1 := Nat.ne_of_lt (Nat.lt_of_lt_of_le (Vc).lt (Nat.le_of_eq g1.symm))
  have g_b1 : n0 ≤ b1 := Nat.le_trans (own_old O0) (Nat.le_of_eq g1.symm)
  have sz_b1 : h0.size ≤ b1 := Nat.le_trans (Keep.refl h0 []).1 (Nat.le_of_eq g1.symm)
  have O2 := O0.ext E1
  have K2 : Keep h0 h1 [] := (Keep.refl h0 []).ext E1
  have V1 : Arv Z h1 b1 k1 .byte (2 : Int32) [] (.int (0 : Int32)) := Arv.new A1 (by decide)
  refine own_on (B := T1.setTop (mkF m 3 #[rv u0, iv (0 : Int32), iv (2 : Int32), .unset, .unset, .unset] [(.ref b1)])) (fun tz kz => st1 _ kz) ?_
  have V3 := OwnArz.of V1
  have f_4 := (Vc.ext E1)
  refine own_on (B := T1.setTop (mkF m 9 #[rv u0, iv (0 : Int32), iv (2 : Int32), rv b1, .unset, .unset] [(.int (2 : Int32)), (.int (0 : Int32)), (.ref b1), (.int (0 : Int32)), (.ref u0)])) (fun tz kz => ?_) ?_
  · show sT p e below T1 (mkF m 3 #[rv u0, iv (0 : Int32), iv (2 : Int32), .unset, .unset, .unset] [(.ref b1)]) tz
    refine XS.astoreN X1.here hx rfl (hb hby own_d18_3) rfl rfl (l' := #[rv u0, iv (0 : Int32), iv (2 : Int32), rv b1, .unset, .unset]) rfl ?_
    show sT p e below T1 (mkF m 4 #[rv u0, iv (0 : Int32), iv (2 : Int32), rv b1, .unset, .unset] []) tz
    refine XS.aloadN X1.here hx rfl (hb hby own_d18_4) rfl rfl ?_
    show sT p e below T1 (mkF m 5 #[rv u0, iv (0 : Int32), iv (2 : Int32), rv b1, .unset, .unset] [(.ref u0)]) tz
    refine XS.iloadN X1.here hx rfl (hb hby own_d18_5) rfl ?_
    show sT p e below T1 (mkF m 6 #[rv u0, iv (0 : Int32), iv (2 : Int32), rv b1, .unset, .unset] [(.int (0 : Int32)), (.ref u0)]) tz
    refine XS.aloadN X1.here hx rfl (hb hby own_d18_6) rfl rfl ?_
    show sT p e below T1 (mkF m 7 #[rv u0, iv (0 : Int32), iv (2 : Int32), rv b1, .unset, .unset] [(.ref b1), (.int (0 : Int32)), (.ref u0)]) tz
    refine XS.iconst X1.here hx rfl (hb hby own_d18_7) ?_
    show sT p e below T1 (mkF m 8 #[rv u0, iv (0 : Int32), iv (2 : Int32), rv b1, .unset, .unset] [(.int (0 : Int32)), (.ref b1), (.int (0 : Int32)), (.ref u0)]) tz
    refine XS.iloadN X1.here hx rfl (hb hby own_d18_8) rfl ?_
    exact kz
  obtain ⟨_, _, ⟨T5, L5, k5, n5⟩, -, X5, ⟨Lc5, hQ5, l5, y5, z5⟩, st5⟩ := Jvm.LawKit.callS X1 hx (y := (⟨"java/lang/StringUTF16", "compress", "([CI[BII)I"⟩ : MethodName)) hown (mvT hZ (own_w hw 106 rfl)) (mvT hZ (own_w hw 107 rfl)) (mvT hZ (own_w hw 104 rfl)) (mvT hZ (own_w hw 108 rfl)) (by decide) (backOf (W := 0) (rm19b l Z a0 hw [] u0 b1 kx x0 x1 h1 n0 O2 f_4 V3 g_b1 ne_u0_b1) hZ (own_w hw 108 rfl) (own_w hw 104 rfl) (by decide) (by decide)) (g := (mkF m 9 #[rv u0, iv (0 : Int32), iv (2 : Int32), rv b1, .unset, .unset] [(.int (2 : Int32)), (.int (0 : Int32)), (.ref b1), (.int (0 : Int32)), (.ref u0)])) rfl (by rw [hml]; rfl) (argsL := [(.ref u0), (.int (0 : Int32)), (.ref b1), (.int (0 : Int32)), (.int (2 : Int32))]) (rest := []) (lenOf own_pd3 rfl) rfl (by show 2 * 0 + _ ≤ _; exact Nat.le_of_eq rfl) (hb hby own_d18_9) (fun _ _ => ⟨rfl, e1, (by decide : 1 + 0 ≤ _), (by decide : 2 + 0 ≤ _)⟩)
  dsimp only [Pt.U, Pt.locs, Pt.cells, Pt.slots] at X5 l5 y5 z5 st5 hQ5
  subst l5 y5 z5
  obtain ⟨rfl, Nq5, Kq5, Vq5⟩ := hQ5
  have N5 := Fr.app N0 Nq5
  have O6 := O2.keep Kq5 (allS g_b1 all0)
  have K6 : Keep h0 T5.heap [] := K2.trans Kq5 (allS (Or.inr sz_b1) all0)
  refine own_on (B := T5.setTop (mkF m 12 #[rv u0, iv (0 : Int32), iv (2 : Int32), rv b1, .unset, .unset] [(.int (if (255 : Int32) < x0 then (0 : Int32) else (if (255 : Int32) < x1 then (1 : Int32) else (2 : Int32))))])) (fun tz kz => st5 _ kz) ?_
  by_cases hs0 : (255 : Int32) < x0
  · rw [if_pos hs0]
    have f_7 := (f_4.keep Kq5 (ninS ne_u0_b1 nin0))
    refine own_on (B := T5.setTop (mkF m 23 #[rv u0, iv (0 : Int32), iv (2 : Int32), rv b1, iv (0 : Int32), .unset] [(.int (2 : Int32)), (.int (0 : Int32)), (.ref u0)])) (fun tz kz => ?_) ?_
    · show sT p e below T5 (mkF m 12 #[rv u0, iv (0 : Int32), iv (2 : Int32), rv b1, .unset, .unset] [(.int (0 : Int32))]) tz
      refine XS.istore X5.here hx rfl (hb hby own_d18_12) rfl (l' := #[rv u0, iv (0 : Int32), iv (2 : Int32), rv b1, iv (0 : Int32), .unset]) rfl ?_
      show sT p e below T5 (mkF m 14 #[rv u0, iv (0 : Int32), iv (2 : Int32), rv b1, iv (0 : Int32), .unset] []) tz
      refine XS.iload X5.here hx rfl (hb hby own_d18_14) rfl ?_
      show sT p e below T5 (mkF m 16 #[rv u0, iv (0 : Int32), iv (2 : Int32), rv b1, iv (0 : Int32), .unset] [(.int (0 : Int32))]) tz
      refine XS.iloadN X5.here hx rfl (hb hby own_d18_16) rfl ?_
      show sT p e below T5 (mkF m 17 #[rv u0, iv (0 : Int32), iv (2 : Int32), rv b1, iv (0 : Int32), .unset] [(.int (2 : Int32)), (.int (0 : Int32))]) tz
      refine XS.icmpNo X5.here hx rfl (hb hby own_d18_17) rfl (feq (by decide : ¬ ((0 : Int32) = (2 : Int32)))).1 ?_
      show sT p e below T5 (mkF m 20 #[rv u0, iv (0 : Int32), iv (2 : Int32), rv b1, iv (0 : Int32), .unset] []) tz
      refine XS.aloadN X5.here hx rfl (hb hby own_d18_20) rfl rfl ?_
      show sT p e below T5 (mkF m 21 #[rv u0, iv (0 : Int32), iv (2 : Int32), rv b1, iv (0 : Int32), .unset] [(.ref u0)]) tz
      refine XS.iloadN X5.here hx rfl (hb hby own_d18_21) rfl ?_
      show sT p e below T5 (mkF m 22 #[rv u0, iv (0 : Int32), iv (2 : Int32), rv b1, iv (0 : Int32), .unset] [(.int (0 : Int32)), (.ref u0)]) tz
      refine XS.iloadN X5.here hx rfl (hb hby own_d18_22) rfl ?_
      exact kz
    obtain ⟨_, _, ⟨T8, L8, k8, n8⟩, -, X8, ⟨Lc8, hQ8, l8, y8, z8⟩, st8⟩ := Jvm.LawKit.callS X5 hx (y := (⟨"java/lang/StringUTF16", "toBytes", "([CII)[B"⟩ : MethodName)) hown (mvT hZ (own_w hw 112 rfl)) (mvT hZ (own_w hw 113 rfl)) (mvT hZ (own_w hw 104 rfl)) (mvT hZ (own_w hw 114 rfl)) (by decide) (backOf (W := 0) (rm21b l Z a0 hw [] u0 kx x0 x1 T5.heap n0 O6 S_as S_hi S_lo f_7) hZ (own_w hw 114 rfl) (own_w hw 104 rfl) (by decide) (by decide)) (g := (mkF m 23 #[rv u0, iv (0 : Int32), iv (2 : Int32), rv b1, iv (0 : Int32), .unset] [(.int (2 : Int32)), (.int (0 : Int32)), (.ref u0)])) rfl (by rw [hml]; rfl) (argsL := [(.ref u0), (.int (0 : Int32)), (.int (2 : Int32))]) (rest := []) (lenOf own_pd4 rfl) rfl (by show 2 * 0 + _ ≤ _; exact Nat.le_of_eq rfl) (hb hby own_d18_23) (fun _ _ => ⟨rfl, rfl, (by decide : 1 + 1 ≤ _), (by decide : 2 + 4 ≤ _)⟩)
    dsimp only [Pt.U, Pt.locs, Pt.cells, Pt.slots] at X8 l8 y8 z8 st8 hQ8
    subst l8 y8 z8
    obtain ⟨d8, kd8, rfl, Nq8, Kq8, zq8, Vq8⟩ := hQ8
    have N8 := Fr.app N5 Nq8
    have ne_u0_d8 : u0 ≠ d8 := Nat.ne_of_lt (Nat.lt_of_lt_of_le (f_7).lt zq8)
    have ne_b1_d8 : b1 ≠ d8 := Nat.ne_of_lt (Nat.lt_of_lt_of_le (Vq5).lt zq8)
    have g_d8 : n0 ≤ d8 := Nat.le_trans (own_old O6) zq8
    have sz_d8 : h0.size ≤ d8 := Nat.le_trans K6.1 zq8
    have O9 := O6.keep Kq8 all0
    have K9 : Keep h0 T8.heap [] := K6.trans Kq8 all0
    refine own_on (B := T8.setTop (mkF m 26 #[rv u0, iv (0 : Int32), iv (2 : Int32), rv b1, iv (0 : Int32), .unset] [(.ref d8)])) (fun tz kz => st8 _ kz) ?_
    refine own_on (B := T8.setTop (mkF m 32 #[rv u0, iv (0 : Int32), iv (2 : Int32), rv b1, iv (0 : Int32), rv d8] [(.int (0 : Int32)), (.ref d8)])) (fun tz kz => ?_) ?_
    · show sT p e below T8 (mkF m 26 #[rv u0, iv (0 : Int32), iv (2 : Int32), rv b1, iv (0 : Int32), .unset] [(.ref d8)]) tz
      refine XS.astore X8.here hx rfl (hb hby own_d18_26) rfl rfl (l' := #[rv u0, iv (0 : Int32), iv (2 : Int32), rv b1, iv (0 : Int32), rv d8]) rfl ?_
      show sT p e below T8 (mkF m 28 #[rv u0, iv (0 : Int32), iv (2 : Int32), rv b1, iv (0 : Int32), rv d8] []) tz
      refine XS.aload X8.here hx rfl (hb hby own_d18_28) rfl rfl ?_
      show sT p e below T8 (mkF m 30 #[rv u0, iv (0 : Int32), iv (2 : Int32), rv b1, iv (0 : Int32), rv d8] [(.ref d8)]) tz
      refine XS.iload X8.here hx rfl (hb hby own_d18_30) rfl ?_
      exact kz
    obtain ⟨_, _, ⟨T10, L10, k10, n10⟩, -, X10, ⟨Lc10, hQ10, l10, y10, z10⟩, st10⟩ := Jvm.LawKit.callS X8 hx (y := (⟨"java/lang/StringUTF16", "getChar", "([BI)C"⟩ : MethodName)) hown (mvT hZ (own_w hw 128 rfl)) (mvT hZ (own_w hw 129 rfl)) (mvT hZ (own_w hw 104 rfl)) (mvT hZ (own_w hw 130 rfl)) (by decide) (backOf (W := 0) (rm25a l Z a0 hw [] d8 kd8 (4 : Int32) [(.int (nar .byte ((x0 >>> ((0 : Int32) &&& 31)).toInt8.toInt32))), (.int (nar .byte ((x0 >>> ((8 : Int32) &&& 31)).toInt8.toInt32))), (.int (nar .byte ((x1 >>> ((0 : Int32) &&& 31)).toInt8.toInt32))), (.int (nar .byte ((x1 >>> ((8 : Int32) &&& 31)).toInt8.toInt32)))] (nar .byte ((x0 >>> ((0 : Int32) &&& 31)).toInt8.toInt32)) (nar .byte ((x0 >>> ((8 : Int32) &&& 31)).toInt8.toInt32)) x0 T8.heap n0 O9 S_as S_hi S_lo Vq8 (by decide) rfl rfl (own_chr x0 l0 u0_) (own_narC x0 l0 u0_)) hZ (own_w hw 130 rfl) (own_w hw 104 rfl) (by decide) (by decide)) (g := (mkF m 32 #[rv u0, iv (0 : Int32), iv (2 : Int32), rv b1, iv (0 : Int32), rv d8] [(.int (0 : Int32)), (.ref d8)])) rfl (by rw [hml]; rfl) (argsL := [(.ref d8), (.int (0 : Int32))]) (rest := []) (lenOf own_pd5 rfl) rfl (by show 2 * 0 + _ ≤ _; exact Nat.le_of_eq rfl) (hb hby own_d18_32) (fun _ _ => ⟨rfl, rfl, (by decide : 2 + 0 ≤ _), (by decide : 6 + 0 ≤ _)⟩)
    dsimp only [Pt.U, Pt.locs, Pt.cells, Pt.slots] at X10 l10 y10 z10 st10 hQ10
    subst l10 y10 z10
    obtain ⟨rfl, Nq10, e10⟩ := hQ10
    have N10 := Fr.app N8 Nq10
    refine own_on (B := T10.setTop (mkF m 35 #[rv u0, iv (0 : Int32), iv (2 : Int32), rv b1, iv (0 : Int32), rv d8] [(.int x0)])) (fun tz kz => st10 _ kz) ?_
    refine own_on (B := T10.setTop (mkF m 56 #[rv u0, iv (0 : Int32), iv (2 : Int32), rv b1, iv (0 : Int32), rv d8] [(.ref d8)])) (fun tz kz => ?_) ?_
    · show sT p e below T10 (mkF m 35 #[rv u0, iv (0 : Int32), iv (2 : Int32), rv b1, iv (0 : Int32), rv d8] [(.int x0)]) tz
      refine XS.sipush X10.here hx rfl (hb hby own_d18_35) ?_
      show sT p e below T10 (mkF m 38 #[rv u0, iv (0 : Int32), iv (2 : Int32), rv b1, iv (0 : Int32), rv d8] [(.int (255 : Int32)), (.int x0)]) tz
      refine XS.icmpYes X10.here hx rfl (pc0 := 38) (pc' := 54) rfl (hb hby own_d18_38) rfl (tlt hs0).2.2.1 (by decide) (by decide) ?_
      show sT p e below T10 (mkF m 54 #[rv u0, iv (0 : Int32), iv (2 : Int32), rv b1, iv (0 : Int32), rv d8] []) tz
      refine XS.aload X10.here hx rfl (hb hby own_d18_54) rfl rfl ?_
      exact kz
    obtain ⟨fs, hr, hrun, hended, hW, hsame⟩ := X10.leave (v := some (.ref d8)) (fun h => by rw [Bd.returns] at h; cases h)
    refine own_of ⟨_, _, ?_, hrun, hended, _, _, rfl, ?_, ⟨_, rfl⟩, hW, hsame.mono (by decide) (by decide)⟩
    · show sT p e below T10 (mkF m 56 #[rv u0, iv (0 : Int32), iv (2 : Int32), rv b1, iv (0 : Int32), rv d8] [(.ref d8)]) _
      exact own_retV X10 hx Bd.returns rfl rfl (hb hby own_d18_56) hr
    · show Q18b Z u0 kx x0 x1 h0 n0 _ T10.heap _
      rw [e10]
      exact ⟨d8, (4 : Int32), 1, rfl, N10, K9, sz_d8, OwnArz.of Vq8, Or.inr ⟨rfl, rfl⟩⟩
  · by_cases hs1 : (255 : Int32) < x1
    · rw [if_neg hs0, if_pos hs1]
      have f_11 := (f_4.keep Kq5 (ninS ne_u0_b1 nin0))
      refine own_on (B := T5.setTop (mkF m 23 #[rv u0, iv (0 : Int32), iv (2 : Int32), rv b1, iv (1 : Int32), .unset] [(.int (2 : Int32)), (.int (0 : Int32)), (.ref u0)])) (fun tz kz => ?_) ?_
      · show sT p e below T5 (mkF m 12 #[rv u0, iv (0 : Int32), iv (2 : Int32), rv b1, .unset, .unset] [(.int (1 : Int32))]) tz
        refine XS.istore X5.here hx rfl (hb hby own_d18_12) rfl (l' := #[rv u0, iv (0 : Int32), iv (2 : Int32), rv b1, iv (1 : Int32), .unset]) rfl ?_
        show sT p e below T5 (mkF m 14 #[rv u0, iv (0 : Int32), iv (2 : Int32), rv b1, iv (1 : Int32), .unset] []) tz
        refine XS.iload X5.here hx rfl (hb hby own_d18_14) rfl ?_
        show sT p e below T5 (mkF m 16 #[rv u0, iv (0 : Int32), iv (2 : Int32), rv b1, iv (1 : Int32), .unset] [(.int (1 : Int32))]) tz
        refine XS.iloadN X5.here hx rfl (hb hby own_d18_16) rfl ?_
        show sT p e below T5 (mkF m 17 #[rv u0, iv (0 : Int32), iv (2 : Int32), rv b1, iv (1 : Int32), .unset] [(.int (2 : Int32)), (.int (1 : Int32))]) tz
        refine XS.icmpNo X5.here hx rfl (hb hby own_d18_17) rfl (feq (by decide : ¬ ((1 : Int32) = (2 : Int32)))).1 ?_
        show sT p e below T5 (mkF m 20 #[rv u0, iv (0 : Int32), iv (2 : Int32), rv b1, iv (1 : Int32), .unset] []) tz
        refine XS.aloadN X5.here hx rfl (hb hby own_d18_20) rfl rfl ?_
        show sT p e below T5 (mkF m 21 #[rv u0, iv (0 : Int32), iv (2 : Int32), rv b1, iv (1 : Int32), .unset] [(.ref u0)]) tz
        refine XS.iloadN X5.here hx rfl (hb hby own_d18_21) rfl ?_
        show sT p e below T5 (mkF m 22 #[rv u0, iv (0 : Int32), iv (2 : Int32), rv b1, iv (1 : Int32), .unset] [(.int (0 : Int32)), (.ref u0)]) tz
        refine XS.iloadN X5.here hx rfl (hb hby own_d18_22) rfl ?_
        exact kz
      obtain ⟨_, _, ⟨T12, L12, k12, n12⟩, -, X12, ⟨Lc12, hQ12, l12, y12, z12⟩, st12⟩ := Jvm.LawKit.callS X5 hx (y := (⟨"java/lang/StringUTF16", "toBytes", "([CII)[B"⟩ : MethodName)) hown (mvT hZ (own_w hw 112 rfl)) (mvT hZ (own_w hw 113 rfl)) (mvT hZ (own_w hw 104 rfl)) (mvT hZ (own_w hw 114 rfl)) (by decide) (backOf (W := 0) (rm21b l Z a0 hw [] u0 kx x0 x1 T5.heap n0 O6 S_as S_hi S_lo f_11) hZ (own_w hw 114 rfl) (own_w hw 104 rfl) (by decide) (by decide)) (g := (mkF m 23 #[rv u0, iv (0 : Int32), iv (2 : Int32), rv b1, iv (1 : Int32), .unset] [(.int (2 : Int32)), (.int (0 : Int32)), (.ref u0)])) rfl (by rw [hml]; rfl) (argsL := [(.ref u0), (.int (0 : Int32)), (.int (2 : Int32))]) (rest := []) (lenOf own_pd4 rfl) rfl (by show 2 * 0 + _ ≤ _; exact Nat.le_of_eq rfl) (hb hby own_d18_23) (fun _ _ => ⟨rfl, rfl, (by decide : 1 + 1 ≤ _), (by decide : 2 + 4 ≤ _)⟩)
      dsimp only [Pt.U, Pt.locs, Pt.cells, Pt.slots] at X12 l12 y12 z12 st12 hQ12
      subst l12 y12 z12
      obtain ⟨d12, kd12, rfl, Nq12, Kq12, zq12, Vq12⟩ := hQ12
      have N12 := Fr.app N5 Nq12
      have ne_u0_d12 : u0 ≠ d12 := Nat.ne_of_lt (Nat.lt_of_lt_of_le (f_11).lt zq12)
      have ne_b1_d12 : b1 ≠ d12 := Nat.ne_of_lt (Nat.lt_of_lt_of_le (Vq5).lt zq12)
      have g_d12 : n0 ≤ d12 := Nat.le_trans (own_old O6) zq12
      have sz_d12 : h0.size ≤ d12 := Nat.le_trans K6.1 zq12
      have O13 := O6.keep Kq12 all0
      have K13 : Keep h0 T12.heap [] := K6.trans Kq12 all0
      refine own_on (B := T12.setTop (mkF m 26 #[rv u0, iv (0 : Int32), iv (2 : Int32), rv b1, iv (1 : Int32), .unset] [(.ref d12)])) (fun tz kz => st12 _ kz) ?_
      refine own_on (B := T12.setTop (mkF m 32 #[rv u0, iv (0 : Int32), iv (2 : Int32), rv b1, iv (1 : Int32), rv d12] [(.int (1 : Int32)), (.ref d12)])) (fun tz kz => ?_) ?_
      · show sT p e below T12 (mkF m 26 #[rv u0, iv (0 : Int32), iv (2 : Int32), rv b1, iv (1 : Int32), .unset] [(.ref d12)]) tz
        refine XS.astore X12.here hx rfl (hb hby own_d18_26) rfl rfl (l' := #[rv u0, iv (0 : Int32), iv (2 : Int32), rv b1, iv (1 : Int32), rv d12]) rfl ?_
        show sT p e below T12 (mkF m 28 #[rv u0, iv (0 : Int32), iv (2 : Int32), rv b1, iv (1 : Int32), rv d12] []) tz
        refine XS.aload X12.here hx rfl (hb hby own_d18_28) rfl rfl ?_
        show sT p e below T12 (mkF m 30 #[rv u0, iv (0 : Int32), iv (2 : Int32), rv b1, iv (1 : Int32), rv d12] [(.ref d12)]) tz
        refine XS.iload X12.here hx rfl (hb hby own_d18_30) rfl ?_
        exact kz
      obtain ⟨_, _, ⟨T14, L14, k14, n14⟩, -, X14, ⟨Lc14, hQ14, l14, y14, z14⟩, st14⟩ := Jvm.LawKit.callS X12 hx (y := (⟨"java/lang/StringUTF16", "getChar", "([BI)C"⟩ : MethodName)) hown (mvT hZ (own_w hw 128 rfl)) (mvT hZ (own_w hw 129 rfl)) (mvT hZ (own_w hw 104 rfl)) (mvT hZ (own_w hw 130 rfl)) (by decide) (backOf (W := 0) (rm25b l Z a0 hw [] d12 kd12 (4 : Int32) [(.int (nar .byte ((x0 >>> ((0 : Int32) &&& 31)).toInt8.toInt32))), (.int (nar .byte ((x0 >>> ((8 : Int32) &&& 31)).toInt8.toInt32))), (.int (nar .byte ((x1 >>> ((0 : Int32) &&& 31)).toInt8.toInt32))), (.int (nar .byte ((x1 >>> ((8 : Int32) &&& 31)).toInt8.toInt32)))] (nar .byte ((x1 >>> ((0 : Int32) &&& 31)).toInt8.toInt32)) (nar .byte ((x1 >>> ((8 : Int32) &&& 31)).toInt8.toInt32)) x1 T12.heap n0 O13 S_as S_hi S_lo Vq12 (by decide) rfl rfl (own_chr x1 l1 u1_) (own_narC x1 l1 u1_)) hZ (own_w hw 130 rfl) (own_w hw 104 rfl) (by decide) (by decide)) (g := (mkF m 32 #[rv u0, iv (0 : Int32), iv (2 : Int32), rv b1, iv (1 : Int32), rv d12] [(.int (1 : Int32)), (.ref d12)])) rfl (by rw [hml]; rfl) (argsL := [(.ref d12), (.int (1 : Int32))]) (rest := []) (lenOf own_pd5 rfl) rfl (by show 2 * 0 + _ ≤ _; exact Nat.le_of_eq rfl) (hb hby own_d18_32) (fun _ _ => ⟨rfl, rfl, (by decide : 2 + 0 ≤ _), (by decide : 6 + 0 ≤ _)⟩)
      dsimp only [Pt.U, Pt.locs, Pt.cells, Pt.slots] at X14 l14 y14 z14 st14 hQ14
      subst l14 y14 z14
      obtain ⟨rfl, Nq14, e14⟩ := hQ14
      have N14 := Fr.app N12 Nq14
      refine own_on (B := T14.setTop (mkF m 35 #[rv u0, iv (0 : Int32), iv (2 : Int32), rv b1, iv (1 : Int32), rv d12] [(.int x1)])) (fun tz kz => st14 _ kz) ?_
      refine own_on (B := T14.setTop (mkF m 56 #[rv u0, iv (0 : Int32), iv (2 : Int32), rv b1, iv (1 : Int32), rv d12] [(.ref d12)])) (fun tz kz => ?_) ?_
      · show sT p e below T14 (mkF m 35 #[rv u0, iv (0 : Int32), iv (2 : Int32), rv b1, iv (1 : Int32), rv d12] [(.int x1)]) tz
        refine XS.sipush X14.here hx rfl (hb hby own_d18_35) ?_
        show sT p e below T14 (mkF m 38 #[rv u0, iv (0 : Int32), iv (2 : Int32), rv b1, iv (1 : Int32), rv d12] [(.int (255 : Int32)), (.int x1)]) tz
        refine XS.icmpYes X14.here hx rfl (pc0 := 38) (pc' := 54) rfl (hb hby own_d18_38) rfl (tlt hs1).2.2.1 (by decide) (by decide) ?_
        show sT p e below T14 (mkF m 54 #[rv u0, iv (0 : Int32), iv (2 : Int32), rv b1, iv (1 : Int32), rv d12] []) tz
        refine XS.aload X14.here hx rfl (hb hby own_d18_54) rfl rfl ?_
        exact kz
      obtain ⟨fs, hr, hrun, hended, hW, hsame⟩ := X14.leave (v := some (.ref d12)) (fun h => by rw [Bd.returns] at h; cases h)
      refine own_of ⟨_, _, ?_, hrun, hended, _, _, rfl, ?_, ⟨_, rfl⟩, hW, hsame.mono (by decide) (by decide)⟩
      · show sT p e below T14 (mkF m 56 #[rv u0, iv (0 : Int32), iv (2 : Int32), rv b1, iv (1 : Int32), rv d12] [(.ref d12)]) _
        exact own_retV X14 hx Bd.returns rfl rfl (hb hby own_d18_56) hr
      · show Q18b Z u0 kx x0 x1 h0 n0 _ T14.heap _
        rw [e14]
        exact ⟨d12, (4 : Int32), 1, rfl, N14, K13, sz_d12, OwnArz.of Vq12, Or.inr ⟨rfl, rfl⟩⟩
    · rw [if_neg hs0, if_neg hs1]
      refine own_on (B := T5.setTop (mkF m 58 #[rv u0, iv (0 : Int32), iv (2 : Int32), rv b1, iv (2 : Int32), .unset] [(.ref b1)])) (fun tz kz => ?_) ?_
      · show sT p e below T5 (mkF m 12 #[rv u0, iv (0 : Int32), iv (2 : Int32), rv b1, .unset, .unset] [(.int (2 : Int32))]) tz
        refine XS.istore X5.here hx rfl (hb hby own_d18_12) rfl (l' := #[rv u0, iv (0 : Int32), iv (2 : Int32), rv b1, iv (2 : Int32), .unset]) rfl ?_
        show sT p e below T5 (mkF m 14 #[rv u0, iv (0 : Int32), iv (2 : Int32), rv b1, iv (2 : Int32), .unset] []) tz
        refine XS.iload X5.here hx rfl (hb hby own_d18_14) rfl ?_
        show sT p e below T5 (mkF m 16 #[rv u0, iv (0 : Int32), iv (2 : Int32), rv b1, iv (2 : Int32), .unset] [(.int (2 : Int32))]) tz
        refine XS.iloadN X5.here hx rfl (hb hby own_d18_16) rfl ?_
        show sT p e below T5 (mkF m 17 #[rv u0, iv (0 : Int32), iv (2 : Int32), rv b1, iv (2 : Int32), .unset] [(.int (2 : Int32)), (.int (2 : Int32))]) tz
        refine XS.icmpYes X5.here hx rfl (pc0 := 17) (pc' := 57) rfl (hb hby own_d18_17) rfl (teq rfl).1 (by decide) (by decide) ?_
        show sT p e below T5 (mkF m 57 #[rv u0, iv (0 : Int32), iv (2 : Int32), rv b1, iv (2 : Int32), .unset] []) tz
        refine XS.aloadN X5.here hx rfl (hb hby own_d18_57) rfl rfl ?_
        exact kz
      obtain ⟨fs, hr, hrun, hended, hW, hsame⟩ := X5.leave (v := some (.ref b1)) (fun h => by rw [Bd.returns] at h; cases h)
      refine own_of ⟨_, _, ?_, hrun, hended, _, _, rfl, ?_, ⟨_, rfl⟩, hW, hsame.mono (by decide) (by decide)⟩
      · show sT p e below T5 (mkF m 58 #[rv u0, iv (0 : Int32), iv (2 : Int32), rv b1, iv (2 : Int32), .unset] [(.ref b1)]) _
        exact own_retV X5 hx Bd.returns rfl rfl (hb hby own_d18_58) hr
      · show Q18b Z u0 kx x0 x1 h0 n0 _ T5.heap _
        exact ⟨b1, (2 : Int32), 0, rfl, N5, K6, sz_b1, Vq5, Or.inl ⟨rfl, rfl⟩⟩
theorem own_ef_23c (m : MethodId) (x0 : Int32) : entryFrame m #[(.int x0)] 1 = mkF m 0 #[iv x0] [] := by first | (simp [entryFrame, mkF, argsToLocals, Value.category]; done) | rfl
def Q23c (Z : State)  (h0 : Heap) (n0 : Nat) (v : Option Value) (h : Heap) (L : List Loc) : Prop := v = some (.int (6 : Int32)) ∧ Fr n0 L ∧ h = h0
set_option maxRecDepth 65536 in
set_option maxHeartbeats 40000000 in
theorem rm23c (l : Launch) (Z : State) (a0 : Array Value) (hw : ∀ d ∈ tables_1, d.before a0 Z = true) (ws : List Jvm.Cond)  (h0 : Heap) (n0 : Nat) (O0 : Old Z n0 h0) :
    MetFree l (⟨"java/lang/StringUTF16", "newBytesLength", "(I)I"⟩ : MethodName) (head1 (Jvm.Cond.code (⟨"java/lang/StringUTF16", "newBytesLength", "(I)I"⟩ : MethodName) jdk_52_method_3_code 1 (some .int) :: ws) ({ frames := 0, cells := 0, slots := 0, locals := 0 } : Room)) (fun a U => a = #[(.int (3 : Int32))] ∧ Z.Warmed39 U.vm ∧ U.heap = h0) (fun _ _ _ _ _ => True) (fun _ U o U' => ∃ v L, o = .returned v ∧ Q23c Z  h0 n0 v U'.heap L ∧ FrameEnd U o U' L ({ frames := 0, cells := 0, slots := 0, locals := 0 } : Room).cells ({ frames := 0, cells := 0, slots := 0, locals := 0 } : Room).slots) := by
  refine MetFree.of_bodySF (plainFor_of_name own_pn_java_lang_StringUTF16) hisR ?_
  intro p e s m args below meth c s₁ Bd hml0 hP hK
  obtain ⟨rfl, hZ, hh⟩ := hP
  have hx := Bd.exec
  have hby := Bd.bytes
  have hml : c.maxLocals = 1 := hml0
  have hown : s.vm.findClass "java/lang/StringUTF16" = some m.cls := findClass_of_methodNamed Bd.named
  have hnm := (name_of_methodNamed Bd.named Bd.method).1
  have X0 : Stand p l e ({ frames := 0, cells := 0, slots := 0, locals := 0 } : Room) s m #[(.int (3 : Int32))] below meth c s₁ [] 0 0 := Stand.of_body Bd
  have e0 : s₁.heap = h0 := by rw [← hh, Bd.state]; rfl
  have N0 := Fr.nil n0
  change Go p.tables e below _ _
  refine own_on (B := s₁.setTop (mkF m 0 #[iv (3 : Int32)] [])) (fun tz kz => castTop (own_ef_23c m (3 : Int32)) kz) ?_
  refine own_on (B := s₁.setTop (mkF m 58 #[iv (3 : Int32)] [(.int (6 : Int32))])) (fun tz kz => ?_) ?_
  · show sT p e below s₁ (mkF m 0 #[iv (3 : Int32)] []) tz
    refine XS.iloadN X0.here hx rfl (hb hby own_d23_0) rfl ?_
    show sT p e below s₁ (mkF m 1 #[iv (3 : Int32)] [(.int (3 : Int32))]) tz
    refine XS.ifYes X0.here hx rfl (pc0 := 1) (pc' := 12) rfl (hb hby own_d23_1) rfl ((if0 _ _).trans (flt (by decide : ¬ ((3 : Int32) < (0 : Int32)))).2.1) (by decide) (by decide) ?_
    show sT p e below s₁ (mkF m 12 #[iv (3 : Int32)] []) tz
    refine XS.iloadN X0.here hx rfl (hb hby own_d23_12) rfl ?_
    show sT p e below s₁ (mkF m 13 #[iv (3 : Int32)] [(.int (3 : Int32))]) tz
    refine X0.ldcInt hx hown (mvT hZ (own_w hw 121 rfl)) (g := (mkF m 13 #[iv (3 : Int32)] [(.int (3 : Int32))])) rfl (hb hby own_d23_13) _ ?_
    show sT p e below s₁ (mkF m 15 #[iv (3 : Int32)] [(.int (1073741823 : Int32)), (.int (3 : Int32))]) tz
    refine XS.icmpYes X0.here hx rfl (pc0 := 15) (pc' := 55) rfl (hb hby own_d23_15) rfl (tlt (by decide : (3 : Int32) < (1073741823 : Int32))).1 (by decide) (by decide) ?_
    show sT p e below s₁ (mkF m 55 #[iv (3 : Int32)] []) tz
    refine XS.iloadN X0.here hx rfl (hb hby own_d23_55) rfl ?_
    show sT p e below s₁ (mkF m 56 #[iv (3 : Int32)] [(.int (3 : Int32))]) tz
    refine XS.iconst X0.here hx rfl (hb hby own_d23_56) ?_
    show sT p e below s₁ (mkF m 57 #[iv (3 : Int32)] [(.int (1 : Int32)), (.int (3 : Int32))]) tz
    refine XS.ishl X0.here hx rfl (hb hby own_d23_57) rfl ?_
    exact kz
  obtain ⟨fs, hr, hrun, hended, hW, hsame⟩ := X0.leave (v := some (.int (6 : Int32))) (fun h => by rw [Bd.returns] at h; cases h)
  refine own_of ⟨_, _, ?_, hrun, hended, _, _, rfl, ?_, ⟨_, rfl⟩, hW, hsame.mono (by decide) (by decide)⟩
  · show sT p e below s₁ (mkF m 58 #[iv (3 : Int32)] [(.int (6 : Int32))]) _
    exact own_retI X0 hx Bd.returns (hb hby own_d23_58) hr
  · show Q23c Z  h0 n0 _ s₁.heap _
    rw [e0]
    exact ⟨rfl, N0, rfl⟩
theorem own_ef_22c (m : MethodId) (x0 : Int32) : entryFrame m #[(.int x0)] 1 = mkF m 0 #[iv x0] [] := by first | (simp [entryFrame, mkF, argsToLocals, Value.category]; done) | rfl
def Q22c (Z : State)  (h0 : Heap) (n0 : Nat) (v : Option Value) (h : Heap) (L : List Loc) : Prop := ∃ (d : Addr) (kk : ClassId), v = some (.ref d) ∧ Fr n0 L ∧ Keep h0 h [] ∧ h0.size ≤ d ∧ Arv Z h d kk .byte (6 : Int32) [(.int (0 : Int32)), (.int (0 : Int32)), (.int (0 : Int32)), (.int (0 : Int32)), (.int (0 : Int32)), (.int (0 : Int32))] (.int 0)
set_option maxRecDepth 65536 in
set_option maxHeartbeats 40000000 in
theorem rm22c (l : Launch) (Z : State) (a0 : Array Value) (hw : ∀ d ∈ tables_1, d.before a0 Z = true) (ws : List Jvm.Cond)  (h0 : Heap) (n0 : Nat) (O0 : Old Z n0 h0) :
    MetFree l (⟨"java/lang/StringUTF16", "newBytesFor", "(I)[B"⟩ : MethodName) (head1 (Jvm.Cond.code (⟨"java/lang/StringUTF16", "newBytesFor", "(I)[B"⟩ : MethodName) jdk_52_method_2_code 1 (some (.array .byte)) :: ws) ({ frames := 1, cells := 1, slots := 6, locals := 12 } : Room)) (fun a U => a = #[(.int (3 : Int32))] ∧ Z.Warmed39 U.vm ∧ U.heap = h0) (fun _ _ _ _ _ => True) (fun _ U o U' => ∃ v L, o = .returned v ∧ Q22c Z  h0 n0 v U'.heap L ∧ FrameEnd U o U' L ({ frames := 1, cells := 1, slots := 6, locals := 12 } : Room).cells ({ frames := 1, cells := 1, slots := 6, locals := 12 } : Room).slots) := by
  refine MetFree.of_bodySF (plainFor_of_name own_pn_java_lang_StringUTF16) hisR ?_
  intro p e s m args below meth c s₁ Bd hml0 hP hK
  obtain ⟨rfl, hZ, hh⟩ := hP
  have hx := Bd.exec
  have hby := Bd.bytes
  have hml : c.maxLocals = 1 := hml0
  have hown : s.vm.findClass "java/lang/StringUTF16" = some m.cls := findClass_of_methodNamed Bd.named
  have hnm := (name_of_methodNamed Bd.named Bd.method).1
  have X0 : Stand p l e ({ frames := 1, cells := 1, slots := 6, locals := 12 } : Room) s m #[(.int (3 : Int32))] below meth c s₁ [] 0 0 := Stand.of_body Bd
  have e0 : s₁.heap = h0 := by rw [← hh, Bd.state]; rfl
  have N0 := Fr.nil n0
  change Go p.tables e below _ _
  refine own_on (B := s₁.setTop (mkF m 0 #[iv (3 : Int32)] [])) (fun tz kz => castTop (own_ef_22c m (3 : Int32)) kz) ?_
  refine own_on (B := s₁.setTop (mkF m 1 #[iv (3 : Int32)] [(.int (3 : Int32))])) (fun tz kz => ?_) ?_
  · show sT p e below s₁ (mkF m 0 #[iv (3 : Int32)] []) tz
    refine XS.iloadN X0.here hx rfl (hb hby own_d22_0) rfl ?_
    exact kz
  obtain ⟨_, _, ⟨T1, L1, k1, n1⟩, -, X1, ⟨Lc1, hQ1, l1, y1, z1⟩, st1⟩ := Jvm.LawKit.callS X0 hx (y := (⟨"java/lang/StringUTF16", "newBytesLength", "(I)I"⟩ : MethodName)) hown (mvT hZ (own_w hw 118 rfl)) (mvT hZ (own_w hw 119 rfl)) (mvT hZ (own_w hw 104 rfl)) (mvT hZ (own_w hw 120 rfl)) (by decide) (backOf (W := 0) (rm23c l Z a0 hw []   h0 n0 O0 ) hZ (own_w hw 120 rfl) (own_w hw 104 rfl) (by decide) (by decide)) (g := (mkF m 1 #[iv (3 : Int32)] [(.int (3 : Int32))])) rfl (by rw [hml]; rfl) (argsL := [(.int (3 : Int32))]) (rest := []) (lenOf own_pd0 rfl) rfl (by show 2 * 0 + _ ≤ _; exact Nat.le_of_eq rfl) (hb hby own_d22_1) (fun _ _ => ⟨rfl, e0, (by decide : 0 + 0 ≤ _), (by decide : 0 + 0 ≤ _)⟩)
  dsimp only [Pt.U, Pt.locs, Pt.cells, Pt.slots] at X1 l1 y1 z1 st1 hQ1
  subst l1 y1 z1
  obtain ⟨rfl, Nq1, e1⟩ := hQ1
  have N1 := Fr.app N0 Nq1
  refine own_on (B := T1.setTop (mkF m 4 #[iv (3 : Int32)] [(.int (6 : Int32))])) (fun tz kz => st1 _ kz) ?_
  obtain ⟨T2, h2, k2, X2, e2, E2, A2, st2⟩ := newP X1 hx hZ (own_w hw 21 rfl) e1 (g := (mkF m 4 #[iv (3 : Int32)] [(.int (6 : Int32))])) rfl (hb hby own_d22_4) rfl (by decide) (cap := 6) (by decide) (by decide) (by decide) (by decide)
  obtain ⟨b2, g2⟩ : ∃ z, z = h0.size := ⟨_, rfl⟩
  rw [← g2] at A2 st2
  have g_b2 : n0 ≤ b2 := Nat.le_trans (own_old O0) (Nat.le_of_eq g2.symm)
  have sz_b2 : h0.size ≤ b2 := Nat.le_trans (Keep.refl h0 []).1 (Nat.le_of_eq g2.symm)
  have O3 := O0.ext E2
  have K3 : Keep h0 h2 [] := (Keep.refl h0 []).ext E2
  have V2 : Arv Z h2 b2 k2 .byte (6 : Int32) [(.int (0 : Int32)), (.int (0 : Int32)), (.int (0 : Int32)), (.int (0 : Int32)), (.int (0 : Int32)), (.int (0 : Int32))] (.int (0 : Int32)) := (Arv.new A2 (by decide)).pad (pad_rep [] (.int (0 : Int32)) 6)
  refine own_on (B := T2.setTop (mkF m 6 #[iv (3 : Int32)] [(.ref b2)])) (fun tz kz => st2 _ kz) ?_
  obtain ⟨fs, hr, hrun, hended, hW, hsame⟩ := X2.leave (v := some (.ref b2)) (fun h => by rw [Bd.returns] at h; cases h)
  refine own_of ⟨_, _, ?_, hrun, hended, _, _, rfl, ?_, ⟨_, rfl⟩, hW, hsame.mono (by decide) (by decide)⟩
  · show sT p e below T2 (mkF m 6 #[iv (3 : Int32)] [(.ref b2)]) _
    exact own_retV X2 hx Bd.returns rfl rfl (hb hby own_d22_6) hr
  · show Q22c Z  h0 n0 _ T2.heap _
    rw [e2]
    exact ⟨b2, k2, rfl, N1, K3, sz_b2, V2⟩
theorem own_ef_21c (m : MethodId) (x0 : Addr) (x1 : Int32) (x2 : Int32) : entryFrame m #[(.ref x0), (.int x1), (.int x2)] 5 = mkF m 0 #[rv x0, iv x1, iv x2, .unset, .unset] [] := by first | (simp [entryFrame, mkF, argsToLocals, Value.category]; done) | rfl
def Q21c (Z : State) (u0 : Addr) (kx : ClassId) (x0 : Int32) (x1 : Int32) (x2 : Int32) (h0 : Heap) (n0 : Nat) (v : Option Value) (h : Heap) (L : List Loc) : Prop := ∃ (d : Addr) (kk : ClassId), v = some (.ref d) ∧ Fr n0 L ∧ Keep h0 h [] ∧ h0.size ≤ d ∧ Arv Z h d kk .byte (6 : Int32) [(.int (nar .byte ((x0 >>> ((0 : Int32) &&& 31)).toInt8.toInt32))), (.int (nar .byte ((x0 >>> ((8 : Int32) &&& 31)).toInt8.toInt32))), (.int (nar .byte ((x1 >>> ((0 : Int32) &&& 31)).toInt8.toInt32))), (.int (nar .byte ((x1 >>> ((8 : Int32) &&& 31)).toInt8.toInt32))), (.int (nar .byte ((x2 >>> ((0 : Int32) &&& 31)).toInt8.toInt32))), (.int (nar .byte ((x2 >>> ((8 : Int32) &&& 31)).toInt8.toInt32)))] (.int 0)
set_option maxRecDepth 65536 in
set_option maxHeartbeats 40000000 in
theorem rm21c (l : Launch) (Z : State) (a0 : Array Value) (hw : ∀ d ∈ tables_1, d.before a0 Z = true) (ws : List Jvm.Cond) (u0 : Addr) (kx : ClassId) (x0 : Int32) (x1 : Int32) (x2 : Int32) (h0 : Heap) (n0 : Nat) (O0 : Old Z n0 h0) (S_as : Sta Z Z.heap "java/lang/StringUTF16" "$assertionsDisabled" "Z" (.int 1)) (S_hi : Sta Z Z.heap "java/lang/StringUTF16" "HI_BYTE_SHIFT" "I" (.int 0)) (S_lo : Sta Z Z.heap "java/lang/StringUTF16" "LO_BYTE_SHIFT" "I" (.int 8)) (Vc : Arv Z h0 u0 kx .char (3 : Int32) [(.int x0), (.int x1), (.int x2)] (.int 0)) :
    MetFree l (⟨"java/lang/StringUTF16", "toBytes", "([CII)[B"⟩ : MethodName) (head1 (Jvm.Cond.code (⟨"java/lang/StringUTF16", "toBytes", "([CII)[B"⟩ : MethodName) jdk_52_method_14_code 5 (some (.array .byte)) :: ws) ({ frames := 2, cells := 1, slots := 6, locals := 24 } : Room)) (fun a U => a = #[(.ref u0), (.int (0 : Int32)), (.int (3 : Int32))] ∧ Z.Warmed39 U.vm ∧ U.heap = h0) (fun _ _ _ _ _ => True) (fun _ U o U' => ∃ v L, o = .returned v ∧ Q21c Z u0 kx x0 x1 x2 h0 n0 v U'.heap L ∧ FrameEnd U o U' L ({ frames := 2, cells := 1, slots := 6, locals := 24 } : Room).cells ({ frames := 2, cells := 1, slots := 6, locals := 24 } : Room).slots) := by
  refine MetFree.of_bodySF (plainFor_of_name own_pn_java_lang_StringUTF16) hisR ?_
  intro p e s m args below meth c s₁ Bd hml0 hP hK
  obtain ⟨rfl, hZ, hh⟩ := hP
  have hx := Bd.exec
  have hby := Bd.bytes
  have hml : c.maxLocals = 5 := hml0
  have hown : s.vm.findClass "java/lang/StringUTF16" = some m.cls := findClass_of_methodNamed Bd.named
  have hnm := (name_of_methodNamed Bd.named Bd.method).1
  have X0 : Stand p l e ({ frames := 2, cells := 1, slots := 6, locals := 24 } : Room) s m #[(.ref u0), (.int (0 : Int32)), (.int (3 : Int32))] below meth c s₁ [] 0 0 := Stand.of_body Bd
  have e0 : s₁.heap = h0 := by rw [← hh, Bd.state]; rfl
  have N0 := Fr.nil n0
  change Go p.tables e below _ _
  refine own_on (B := s₁.setTop (mkF m 0 #[rv u0, iv (0 : Int32), iv (3 : Int32), .unset, .unset] [])) (fun tz kz => castTop (own_ef_21c m u0 (0 : Int32) (3 : Int32)) kz) ?_
  refine own_on (B := s₁.setTop (mkF m 1 #[rv u0, iv (0 : Int32), iv (3 : Int32), .unset, .unset] [(.int (3 : Int32))])) (fun tz kz => ?_) ?_
  · show sT p e below s₁ (mkF m 0 #[rv u0, iv (0 : Int32), iv (3 : Int32), .unset, .unset] []) tz
    refine XS.iloadN X0.here hx rfl (hb hby own_d21_0) rfl ?_
    exact kz
  obtain ⟨_, _, ⟨T1, L1, k1, n1⟩, -, X1, ⟨Lc1, hQ1, l1, y1, z1⟩, st1⟩ := Jvm.LawKit.callS X0 hx (y := (⟨"java/lang/StringUTF16", "newBytesFor", "(I)[B"⟩ : MethodName)) hown (mvT hZ (own_w hw 115 rfl)) (mvT hZ (own_w hw 116 rfl)) (mvT hZ (own_w hw 104 rfl)) (mvT hZ (own_w hw 117 rfl)) (by decide) (backOf (W := 0) (rm22c l Z a0 hw []   h0 n0 O0 ) hZ (own_w hw 117 rfl) (own_w hw 104 rfl) (by decide) (by decide)) (g := (mkF m 1 #[rv u0, iv (0 : Int32), iv (3 : Int32), .unset, .unset] [(.int (3 : Int32))])) rfl (by rw [hml]; rfl) (argsL := [(.int (3 : Int32))]) (rest := []) (lenOf own_pd1 rfl) rfl (by show 2 * 0 + _ ≤ _; exact Nat.le_of_eq rfl) (hb hby own_d21_1) (fun _ _ => ⟨rfl, e0, (by decide : 0 + 1 ≤ _), (by decide : 0 + 6 ≤ _)⟩)
  dsimp only [Pt.U, Pt.locs, Pt.cells, Pt.slots] at X1 l1 y1 z1 st1 hQ1
  subst l1 y1 z1
  obtain ⟨d1, kd1, rfl, Nq1, Kq1, zq1, Vq1⟩ := hQ1
  have N1 := Fr.app N0 Nq1
  have ne_u0_d1 : u0 ≠ d1 := Nat.ne_of_lt (Nat.lt_of_lt_of_le (Vc).lt zq1)
  have g_d1 : n0 ≤ d1 := Nat.le_trans (own_old O0) zq1
  have sz_d1 : h0.size ≤ d1 := Nat.le_trans (Keep.refl h0 []).1 zq1
  have O2 := O0.keep Kq1 all0
  have K2 : Keep h0 T1.heap [] := (Keep.refl h0 []).trans Kq1 all0
  refine own_on (B := T1.setTop (mkF m 4 #[rv u0, iv (0 : Int32), iv (3 : Int32), .unset, .unset] [(.ref d1)])) (fun tz kz => st1 _ kz) ?_
  refine own_on (B := T1.setTop (mkF m 19 #[rv u0, iv (0 : Int32), iv (3 : Int32), rv d1, iv (0 : Int32)] [(.int (0 : Int32)), (.ref u0), (.int (0 : Int32)), (.ref d1)])) (fun tz kz => ?_) ?_
  · show sT p e below T1 (mkF m 4 #[rv u0, iv (0 : Int32), iv (3 : Int32), .unset, .unset] [(.ref d1)]) tz
    refine XS.astoreN X1.here hx rfl (hb hby own_d21_4) rfl rfl (l' := #[rv u0, iv (0 : Int32), iv (3 : Int32), rv d1, .unset]) rfl ?_
    show sT p e below T1 (mkF m 5 #[rv u0, iv (0 : Int32), iv (3 : Int32), rv d1, .unset] []) tz
    refine XS.iconst X1.here hx rfl (hb hby own_d21_5) ?_
    show sT p e below T1 (mkF m 6 #[rv u0, iv (0 : Int32), iv (3 : Int32), rv d1, .unset] [(.int (0 : Int32))]) tz
    refine XS.istore X1.here hx rfl (hb hby own_d21_6) rfl (l' := #[rv u0, iv (0 : Int32), iv (3 : Int32), rv d1, iv (0 : Int32)]) rfl ?_
    show sT p e below T1 (mkF m 8 #[rv u0, iv (0 : Int32), iv (3 : Int32), rv d1, iv (0 : Int32)] []) tz
    refine XS.iload X1.here hx rfl (hb hby own_d21_8) rfl ?_
    show sT p e below T1 (mkF m 10 #[rv u0, iv (0 : Int32), iv (3 : Int32), rv d1, iv (0 : Int32)] [(.int (0 : Int32))]) tz
    refine XS.iloadN X1.here hx rfl (hb hby own_d21_10) rfl ?_
    show sT p e below T1 (mkF m 11 #[rv u0, iv (0 : Int32), iv (3 : Int32), rv d1, iv (0 : Int32)] [(.int (3 : Int32)), (.int (0 : Int32))]) tz
    refine XS.icmpNo X1.here hx rfl (hb hby own_d21_11) rfl (tlt (by decide : (0 : Int32) < (3 : Int32))).2.1 ?_
    show sT p e below T1 (mkF m 14 #[rv u0, iv (0 : Int32), iv (3 : Int32), rv d1, iv (0 : Int32)] []) tz
    refine XS.aloadN X1.here hx rfl (hb hby own_d21_14) rfl rfl ?_
    show sT p e below T1 (mkF m 15 #[rv u0, iv (0 : Int32), iv (3 : Int32), rv d1, iv (0 : Int32)] [(.ref d1)]) tz
    refine XS.iload X1.here hx rfl (hb hby own_d21_15) rfl ?_
    show sT p e below T1 (mkF m 17 #[rv u0, iv (0 : Int32), iv (3 : Int32), rv d1, iv (0 : Int32)] [(.int (0 : Int32)), (.ref d1)]) tz
    refine XS.aloadN X1.here hx rfl (hb hby own_d21_17) rfl rfl ?_
    show sT p e below T1 (mkF m 18 #[rv u0, iv (0 : Int32), iv (3 : Int32), rv d1, iv (0 : Int32)] [(.ref u0), (.int (0 : Int32)), (.ref d1)]) tz
    refine XS.iloadN X1.here hx rfl (hb hby own_d21_18) rfl ?_
    exact kz
  have f_3 := (Vc.keep Kq1 nin0)
  obtain ⟨cl4, Ar4, q4, S4, M4, H4, G4⟩ := id f_3
  have hin5 : ¬ ((0 : Int32) < 0 ∨ cl4.slots.size ≤ ((0 : Int32)).toNatClampNeg) := inb_of S4 ⟨by decide, by decide⟩
  have hat5 : cl4.slots[((0 : Int32)).toNatClampNeg]? = some (.int x0) := Has.at H4 hin5 rfl
  refine own_on (B := T1.setTop (mkF m 20 #[rv u0, iv (0 : Int32), iv (3 : Int32), rv d1, iv (0 : Int32)] [(.int x0), (.int (0 : Int32)), (.ref d1)])) (fun tz kz => ?_) ?_
  · show sT p e below T1 (mkF m 19 #[rv u0, iv (0 : Int32), iv (3 : Int32), rv d1, iv (0 : Int32)] [(.int (0 : Int32)), (.ref u0), (.int (0 : Int32)), (.ref d1)]) tz
    refine X1.caload hx (j := (0 : Int32)) (v := (.int x0)) (Ar4.1) (State.isArrayOf_alike hZ.alike Ar4.2.1) Ar4.2.2 hin5 hat5 (g := (mkF m 19 #[rv u0, iv (0 : Int32), iv (3 : Int32), rv d1, iv (0 : Int32)] [(.int (0 : Int32)), (.ref u0), (.int (0 : Int32)), (.ref d1)])) rfl rfl (hb hby own_d21_19) _ ?_
    exact kz
  obtain ⟨_, _, ⟨T6, L6, k6, n6⟩, -, X6, ⟨Lc6, hQ6, l6, y6, z6⟩, st6⟩ := Jvm.LawKit.callS X1 hx (y := (⟨"java/lang/StringUTF16", "putChar", "([BII)V"⟩ : MethodName)) hown (mvT hZ (own_w hw 122 rfl)) (mvT hZ (own_w hw 123 rfl)) (mvT hZ (own_w hw 104 rfl)) (mvT hZ (own_w hw 124 rfl)) (by decide) (backOf (W := 0) (rm24a l Z a0 hw [] d1 x0 kd1 (6 : Int32) [(.int (0 : Int32)), (.int (0 : Int32)), (.int (0 : Int32)), (.int (0 : Int32)), (.int (0 : Int32)), (.int (0 : Int32))] T1.heap n0 O2 S_as S_hi S_lo Vq1 g_d1 (by decide) (Nat.le_of_ble_eq_true rfl)) hZ (own_w hw 124 rfl) (own_w hw 104 rfl) (by decide) (by decide)) (g := (mkF m 20 #[rv u0, iv (0 : Int32), iv (3 : Int32), rv d1, iv (0 : Int32)] [(.int x0), (.int (0 : Int32)), (.ref d1)])) rfl (by rw [hml]; rfl) (argsL := [(.ref d1), (.int (0 : Int32)), (.int x0)]) (rest := []) (lenOf own_pd2 rfl) rfl (by show 2 * 0 + _ ≤ _; exact Nat.le_of_eq rfl) (hb hby own_d21_20) (fun _ _ => ⟨rfl, rfl, (by decide : 1 + 0 ≤ _), (by decide : 6 + 0 ≤ _)⟩)
  dsimp only [Pt.U, Pt.locs, Pt.cells, Pt.slots] at X6 l6 y6 z6 st6 hQ6
  subst l6 y6 z6
  obtain ⟨rfl, Nq6, Kq6, Vq6⟩ := hQ6
  have N6 := Fr.app N1 Nq6
  have O7 := O2.keep Kq6 (allS g_d1 all0)
  have K7 : Keep h0 T6.heap [] := K2.trans Kq6 (allS (Or.inr sz_d1) all0)
  refine own_on (B := T6.setTop (mkF m 23 #[rv u0, iv (0 : Int32), iv (3 : Int32), rv d1, iv (0 : Int32)] [])) (fun tz kz => st6 _ kz) ?_
  have Vl6 : Arv Z T6.heap d1 kd1 .byte (6 : Int32) [(.int (nar .byte ((x0 >>> ((0 : Int32) &&& 31)).toInt8.toInt32))), (.int (nar .byte ((x0 >>> ((8 : Int32) &&& 31)).toInt8.toInt32))), (.int (0 : Int32)), (.int (0 : Int32)), (.int (0 : Int32)), (.int (0 : Int32))] (.int 0) := Vq6
  refine own_on (B := T6.setTop (mkF m 19 #[rv u0, iv (1 : Int32), iv (3 : Int32), rv d1, iv (1 : Int32)] [(.int (1 : Int32)), (.ref u0), (.int (1 : Int32)), (.ref d1)])) (fun tz kz => ?_) ?_
  · show sT p e below T6 (mkF m 23 #[rv u0, iv (0 : Int32), iv (3 : Int32), rv d1, iv (0 : Int32)] []) tz
    refine XS.iinc X6.here hx rfl (hb hby own_d21_23) rfl (l' := #[rv u0, iv (1 : Int32), iv (3 : Int32), rv d1, iv (0 : Int32)]) rfl ?_
    show sT p e below T6 (mkF m 26 #[rv u0, iv (1 : Int32), iv (3 : Int32), rv d1, iv (0 : Int32)] []) tz
    refine XS.iinc X6.here hx rfl (hb hby own_d21_26) rfl (l' := #[rv u0, iv (1 : Int32), iv (3 : Int32), rv d1, iv (1 : Int32)]) rfl ?_
    show sT p e below T6 (mkF m 29 #[rv u0, iv (1 : Int32), iv (3 : Int32), rv d1, iv (1 : Int32)] []) tz
    refine XS.goto X6.here hx rfl (pc0 := 29) (pc' := 8) rfl (hb hby own_d21_29) (by decide) (by decide) ?_
    show sT p e below T6 (mkF m 8 #[rv u0, iv (1 : Int32), iv (3 : Int32), rv d1, iv (1 : Int32)] []) tz
    refine XS.iload X6.here hx rfl (hb hby own_d21_8) rfl ?_
    show sT p e below T6 (mkF m 10 #[rv u0, iv (1 : Int32), iv (3 : Int32), rv d1, iv (1 : Int32)] [(.int (1 : Int32))]) tz
    refine XS.iloadN X6.here hx rfl (hb hby own_d21_10) rfl ?_
    show sT p e below T6 (mkF m 11 #[rv u0, iv (1 : Int32), iv (3 : Int32), rv d1, iv (1 : Int32)] [(.int (3 : Int32)), (.int (1 : Int32))]) tz
    refine XS.icmpNo X6.here hx rfl (hb hby own_d21_11) rfl (tlt (by decide : (1 : Int32) < (3 : Int32))).2.1 ?_
    show sT p e below T6 (mkF m 14 #[rv u0, iv (1 : Int32), iv (3 : Int32), rv d1, iv (1 : Int32)] []) tz
    refine XS.aloadN X6.here hx rfl (hb hby own_d21_14) rfl rfl ?_
    show sT p e below T6 (mkF m 15 #[rv u0, iv (1 : Int32), iv (3 : Int32), rv d1, iv (1 : Int32)] [(.ref d1)]) tz
    refine XS.iload X6.here hx rfl (hb hby own_d21_15) rfl ?_
    show sT p e below T6 (mkF m 17 #[rv u0, iv (1 : Int32), iv (3 : Int32), rv d1, iv (1 : Int32)] [(.int (1 : Int32)), (.ref d1)]) tz
    refine XS.aloadN X6.here hx rfl (hb hby own_d21_17) rfl rfl ?_
    show sT p e below T6 (mkF m 18 #[rv u0, iv (1 : Int32), iv (3 : Int32), rv d1, iv (1 : Int32)] [(.ref u0), (.int (1 : Int32)), (.ref d1)]) tz
    refine XS.iloadN X6.here hx rfl (hb hby own_d21_18) rfl ?_
    exact kz
  have f_8 := (f_3.keep Kq6 (ninS ne_u0_d1 nin0))
  obtain ⟨cl9, Ar9, q9, S9, M9, H9, G9⟩ := id f_8
  have hin10 : ¬ ((1 : Int32) < 0 ∨ cl9.slots.size ≤ ((1 : Int32)).toNatClampNeg) := inb_of S9 ⟨by decide, by decide⟩
  have hat10 : cl9.slots[((1 : Int32)).toNatClampNeg]? = some (.int x1) := Has.at H9 hin10 rfl
  refine own_on (B := T6.setTop (mkF m 20 #[rv u0, iv (1 : Int32), iv (3 : Int32), rv d1, iv (1 : Int32)] [(.int x1), (.int (1 : Int32)), (.ref d1)])) (fun tz kz => ?_) ?_
  · show sT p e below T6 (mkF m 19 #[rv u0, iv (1 : Int32), iv (3 : Int32), rv d1, iv (1 : Int32)] [(.int (1 : Int32)), (.ref u0), (.int (1 : Int32)), (.ref d1)]) tz
    refine X6.caload hx (j := (1 : Int32)) (v := (.int x1)) (Ar9.1) (State.isArrayOf_alike hZ.alike Ar9.2.1) Ar9.2.2 hin10 hat10 (g := (mkF m 19 #[rv u0, iv (1 : Int32), iv (3 : Int32), rv d1, iv (1 : Int32)] [(.int (1 : Int32)), (.ref u0), (.int (1 : Int32)), (.ref d1)])) rfl rfl (hb hby own_d21_19) _ ?_
    exact kz
  obtain ⟨_, _, ⟨T11, L11, k11, n11⟩, -, X11, ⟨Lc11, hQ11, l11, y11, z11⟩, st11⟩ := Jvm.LawKit.callS X6 hx (y := (⟨"java/lang/StringUTF16", "putChar", "([BII)V"⟩ : MethodName)) hown (mvT hZ (own_w hw 122 rfl)) (mvT hZ (own_w hw 123 rfl)) (mvT hZ (own_w hw 104 rfl)) (mvT hZ (own_w hw 124 rfl)) (by decide) (backOf (W := 0) (rm24b l Z a0 hw [] d1 x1 kd1 (6 : Int32) [(.int (nar .byte ((x0 >>> ((0 : Int32) &&& 31)).toInt8.toInt32))), (.int (nar .byte ((x0 >>> ((8 : Int32) &&& 31)).toInt8.toInt32))), (.int (0 : Int32)), (.int (0 : Int32)), (.int (0 : Int32)), (.int (0 : Int32))] T6.heap n0 O7 S_as S_hi S_lo Vl6 g_d1 (by decide) (Nat.le_of_ble_eq_true rfl)) hZ (own_w hw 124 rfl) (own_w hw 104 rfl) (by decide) (by decide)) (g := (mkF m 20 #[rv u0, iv (1 : Int32), iv (3 : Int32), rv d1, iv (1 : Int32)] [(.int x1), (.int (1 : Int32)), (.ref d1)])) rfl (by rw [hml]; rfl) (argsL := [(.ref d1), (.int (1 : Int32)), (.int x1)]) (rest := []) (lenOf own_pd2 rfl) rfl (by show 2 * 0 + _ ≤ _; exact Nat.le_of_eq rfl) (hb hby own_d21_20) (fun _ _ => ⟨rfl, rfl, (by decide : 1 + 0 ≤ _), (by decide : 6 + 0 ≤ _)⟩)
  dsimp only [Pt.U, Pt.locs, Pt.cells, Pt.slots] at X11 l11 y11 z11 st11 hQ11
  subst l11 y11 z11
  obtain ⟨rfl, Nq11, Kq11, Vq11⟩ := hQ11
  have N11 := Fr.app N6 Nq11
  have O12 := O7.keep Kq11 (allS g_d1 all0)
  have K12 : Keep h0 T11.heap [] := K7.trans Kq11 (allS (Or.inr sz_d1) all0)
  refine own_on (B := T11.setTop (mkF m 23 #[rv u0, iv (1 : Int32), iv (3 : Int32), rv d1, iv (1 : Int32)] [])) (fun tz kz => st11 _ kz) ?_
  have Vl11 : Arv Z T11.heap d1 kd1 .byte (6 : Int32) [(.int (nar .byte ((x0 >>> ((0 : Int32) &&& 31)).toInt8.toInt32))), (.int (nar .byte ((x0 >>> ((8 : Int32) &&& 31)).toInt8.toInt32))), (.int (nar .byte ((x1 >>> ((0 : Int32) &&& 31)).toInt8.toInt32))), (.int (nar .byte ((x1 >>> ((8 : Int32) &&& 31)).toInt8.toInt32))), (.int (0 : Int32)), (.int (0 : Int32))] (.int 0) := Vq11
  refine own_on (B := T11.setTop (mkF m 19 #[rv u0, iv (2 : Int32), iv (3 : Int32), rv d1, iv (2 : Int32)] [(.int (2 : Int32)), (.ref u0), (.int (2 : Int32)), (.ref d1)])) (fun tz kz => ?_) ?_
  · show sT p e below T11 (mkF m 23 #[rv u0, iv (1 : Int32), iv (3 : Int32), rv d1, iv (1 : Int32)] []) tz
    refine XS.iinc X11.here hx rfl (hb hby own_d21_23) rfl (l' := #[rv u0, iv (2 : Int32), iv (3 : Int32), rv d1, iv (1 : Int32)]) rfl ?_
    show sT p e below T11 (mkF m 26 #[rv u0, iv (2 : Int32), iv (3 : Int32), rv d1, iv (1 : Int32)] []) tz
    refine XS.iinc X11.here hx rfl (hb hby own_d21_26) rfl (l' := #[rv u0, iv (2 : Int32), iv (3 : Int32), rv d1, iv (2 : Int32)]) rfl ?_
    show sT p e below T11 (mkF m 29 #[rv u0, iv (2 : Int32), iv (3 : Int32), rv d1, iv (2 : Int32)] []) tz
    refine XS.goto X11.here hx rfl (pc0 := 29) (pc' := 8) rfl (hb hby own_d21_29) (by decide) (by decide) ?_
    show sT p e below T11 (mkF m 8 #[rv u0, iv (2 : Int32), iv (3 : Int32), rv d1, iv (2 : Int32)] []) tz
    refine XS.iload X11.here hx rfl (hb hby own_d21_8) rfl ?_
    show sT p e below T11 (mkF m 10 #[rv u0, iv (2 : Int32), iv (3 : Int32), rv d1, iv (2 : Int32)] [(.int (2 : Int32))]) tz
    refine XS.iloadN X11.here hx rfl (hb hby own_d21_10) rfl ?_
    show sT p e below T11 (mkF m 11 #[rv u0, iv (2 : Int32), iv (3 : Int32), rv d1, iv (2 : Int32)] [(.int (3 : Int32)), (.int (2 : Int32))]) tz
    refine XS.icmpNo X11.here hx rfl (hb hby own_d21_11) rfl (tlt (by decide : (2 : Int32) < (3 : Int32))).2.1 ?_
    show sT p e below T11 (mkF m 14 #[rv u0, iv (2 : Int32), iv (3 : Int32), rv d1, iv (2 : Int32)] []) tz
    refine XS.aloadN X11.here hx rfl (hb hby own_d21_14) rfl rfl ?_
    show sT p e below T11 (mkF m 15 #[rv u0, iv (2 : Int32), iv (3 : Int32), rv d1, iv (2 : Int32)] [(.ref d1)]) tz
    refine XS.iload X11.here hx rfl (hb hby own_d21_15) rfl ?_
    show sT p e below T11 (mkF m 17 #[rv u0, iv (2 : Int32), iv (3 : Int32), rv d1, iv (2 : Int32)] [(.int (2 : Int32)), (.ref d1)]) tz
    refine XS.aloadN X11.here hx rfl (hb hby own_d21_17) rfl rfl ?_
    show sT p e below T11 (mkF m 18 #[rv u0, iv (2 : Int32), iv (3 : Int32), rv d1, iv (2 : Int32)] [(.ref u0), (.int (2 : Int32)), (.ref d1)]) tz
    refine XS.iloadN X11.here hx rfl (hb hby own_d21_18) rfl ?_
    exact kz
  have f_13 := (f_8.keep Kq11 (ninS ne_u0_d1 nin0))
  obtain ⟨cl14, Ar14, q14, S14, M14, H14, G14⟩ := id f_13
  have hin15 : ¬ ((2 : Int32) < 0 ∨ cl14.slots.size ≤ ((2 : Int32)).toNatClampNeg) := inb_of S14 ⟨by decide, by decide⟩
  have hat15 : cl14.slots[((2 : Int32)).toNatClampNeg]? = some (.int x2) := Has.at H14 hin15 rfl
  refine own_on (B := T11.setTop (mkF m 20 #[rv u0, iv (2 : Int32), iv (3 : Int32), rv d1, iv (2 : Int32)] [(.int x2), (.int (2 : Int32)), (.ref d1)])) (fun tz kz => ?_) ?_
  · show sT p e below T11 (mkF m 19 #[rv u0, iv (2 : Int32), iv (3 : Int32), rv d1, iv (2 : Int32)] [(.int (2 : Int32)), (.ref u0), (.int (2 : Int32)), (.ref d1)]) tz
    refine X11.caload hx (j := (2 : Int32)) (v := (.int x2)) (Ar14.1) (State.isArrayOf_alike hZ.alike Ar14.2.1) Ar14.2.2 hin15 hat15 (g := (mkF m 19 #[rv u0, iv (2 : Int32), iv (3 : Int32), rv d1, iv (2 : Int32)] [(.int (2 : Int32)), (.ref u0), (.int (2 : Int32)), (.ref d1)])) rfl rfl (hb hby own_d21_19) _ ?_
    exact kz
  obtain ⟨_, _, ⟨T16, L16, k16, n16⟩, -, X16, ⟨Lc16, hQ16, l16, y16, z16⟩, st16⟩ := Jvm.LawKit.callS X11 hx (y := (⟨"java/lang/StringUTF16", "putChar", "([BII)V"⟩ : MethodName)) hown (mvT hZ (own_w hw 122 rfl)) (mvT hZ (own_w hw 123 rfl)) (mvT hZ (own_w hw 104 rfl)) (mvT hZ (own_w hw 124 rfl)) (by decide) (backOf (W := 0) (rm24c l Z a0 hw [] d1 x2 kd1 (6 : Int32) [(.int (nar .byte ((x0 >>> ((0 : Int32) &&& 31)).toInt8.toInt32))), (.int (nar .byte ((x0 >>> ((8 : Int32) &&& 31)).toInt8.toInt32))), (.int (nar .byte ((x1 >>> ((0 : Int32) &&& 31)).toInt8.toInt32))), (.int (nar .byte ((x1 >>> ((8 : Int32) &&& 31)).toInt8.toInt32))), (.int (0 : Int32)), (.int (0 : Int32))] T11.heap n0 O12 S_as S_hi S_lo Vl11 g_d1 (by decide) (Nat.le_of_ble_eq_true rfl)) hZ (own_w hw 124 rfl) (own_w hw 104 rfl) (by decide) (by decide)) (g := (mkF m 20 #[rv u0, iv (2 : Int32), iv (3 : Int32), rv d1, iv (2 : Int32)] [(.int x2), (.int (2 : Int32)), (.ref d1)])) rfl (by rw [hml]; rfl) (argsL := [(.ref d1), (.int (2 : Int32)), (.int x2)]) (rest := []) (lenOf own_pd2 rfl) rfl (by show 2 * 0 + _ ≤ _; exact Nat.le_of_eq rfl) (hb hby own_d21_20) (fun _ _ => ⟨rfl, rfl, (by decide : 1 + 0 ≤ _), (by decide : 6 + 0 ≤ _)⟩)
  dsimp only [Pt.U, Pt.locs, Pt.cells, Pt.slots] at X16 l16 y16 z16 st16 hQ16
  subst l16 y16 z16
  obtain ⟨rfl, Nq16, Kq16, Vq16⟩ := hQ16
  have N16 := Fr.app N11 Nq16
  have O17 := O12.keep Kq16 (allS g_d1 all0)
  have K17 : Keep h0 T16.heap [] := K12.trans Kq16 (allS (Or.inr sz_d1) all0)
  refine own_on (B := T16.setTop (mkF m 23 #[rv u0, iv (2 : Int32), iv (3 : Int32), rv d1, iv (2 : Int32)] [])) (fun tz kz => st16 _ kz) ?_
  have Vl16 : Arv Z T16.heap d1 kd1 .byte (6 : Int32) [(.int (nar .byte ((x0 >>> ((0 : Int32) &&& 31)).toInt8.toInt32))), (.int (nar .byte ((x0 >>> ((8 : Int32) &&& 31)).toInt8.toInt32))), (.int (nar .byte ((x1 >>> ((0 : Int32) &&& 31)).toInt8.toInt32))), (.int (nar .byte ((x1 >>> ((8 : Int32) &&& 31)).toInt8.toInt32))), (.int (nar .byte ((x2 >>> ((0 : Int32) &&& 31)).toInt8.toInt32))), (.int (nar .byte ((x2 >>> ((8 : Int32) &&& 31)).toInt8.toInt32)))] (.int 0) := Vq16
  refine own_on (B := T16.setTop (mkF m 33 #[rv u0, iv (3 : Int32), iv (3 : Int32), rv d1, iv (3 : Int32)] [(.ref d1)])) (fun tz kz => ?_) ?_
  · show sT p e below T16 (mkF m 23 #[rv u0, iv (2 : Int32), iv (3 : Int32), rv d1, iv (2 : Int32)] []) tz
    refine XS.iinc X16.here hx rfl (hb hby own_d21_23) rfl (l' := #[rv u0, iv (3 : Int32), iv (3 : Int32), rv d1, iv (2 : Int32)]) rfl ?_
    show sT p e below T16 (mkF m 26 #[rv u0, iv (3 : Int32), iv (3 : Int32), rv d1, iv (2 : Int32)] []) tz
    refine XS.iinc X16.here hx rfl (hb hby own_d21_26) rfl (l' := #[rv u0, iv (3 : Int32), iv (3 : Int32), rv d1, iv (3 : Int32)]) rfl ?_
    show sT p e below T16 (mkF m 29 #[rv u0, iv (3 : Int32), iv (3 : Int32), rv d1, iv (3 : Int32)] []) tz
    refine XS.goto X16.here hx rfl (pc0 := 29) (pc' := 8) rfl (hb hby own_d21_29) (by decide) (by decide) ?_
    show sT p e below T16 (mkF m 8 #[rv u0, iv (3 : Int32), iv (3 : Int32), rv d1, iv (3 : Int32)] []) tz
    refine XS.iload X16.here hx rfl (hb hby own_d21_8) rfl ?_
    show sT p e below T16 (mkF m 10 #[rv u0, iv (3 : Int32), iv (3 : Int32), rv d1, iv (3 : Int32)] [(.int (3 : Int32))]) tz
    refine XS.iloadN X16.here hx rfl (hb hby own_d21_10) rfl ?_
    show sT p e below T16 (mkF m 11 #[rv u0, iv (3 : Int32), iv (3 : Int32), rv d1, iv (3 : Int32)] [(.int (3 : Int32)), (.int (3 : Int32))]) tz
    refine XS.icmpYes X16.here hx rfl (pc0 := 11) (pc' := 32) rfl (hb hby own_d21_11) rfl (flt Int32.lt_irrefl).2.1 (by decide) (by decide) ?_
    show sT p e below T16 (mkF m 32 #[rv u0, iv (3 : Int32), iv (3 : Int32), rv d1, iv (3 : Int32)] []) tz
    refine XS.aloadN X16.here hx rfl (hb hby own_d21_32) rfl rfl ?_
    exact kz
  obtain ⟨fs, hr, hrun, hended, hW, hsame⟩ := X16.leave (v := some (.ref d1)) (fun h => by rw [Bd.returns] at h; cases h)
  refine own_of ⟨_, _, ?_, hrun, hended, _, _, rfl, ?_, ⟨_, rfl⟩, hW, hsame.mono (by decide) (by decide)⟩
  · show sT p e below T16 (mkF m 33 #[rv u0, iv (3 : Int32), iv (3 : Int32), rv d1, iv (3 : Int32)] [(.ref d1)]) _
    exact own_retV X16 hx Bd.returns rfl rfl (hb hby own_d21_33) hr
  · show Q21c Z u0 kx x0 x1 x2 h0 n0 _ T16.heap _
    exact ⟨d1, kd1, rfl, N16, K17, sz_d1, Vl16⟩
theorem own_ef_19c (m : MethodId) (x0 : Addr) (x1 : Int32) (x2 : Addr) (x3 : Int32) (x4 : Int32) : entryFrame m #[(.ref x0), (.int x1), (.ref x2), (.int x3), (.int x4)] 7 = mkF m 0 #[rv x0, iv x1, rv x2, iv x3, iv x4, .unset, .unset] [] := by first | (simp [entryFrame, mkF, argsToLocals, Value.category]; done) | rfl
def Q19c (Z : State) (u0 : Addr) (u2 : Addr) (kx : ClassId) (x0 : Int32) (x1 : Int32) (x2 : Int32) (h0 : Heap) (n0 : Nat) (v : Option Value) (h : Heap) (L : List Loc) : Prop := v = some (.int (if (255 : Int32) < x0 then (0 : Int32) else (if (255 : Int32) < x1 then (1 : Int32) else (if (255 : Int32) < x2 then (2 : Int32) else (3 : Int32))))) ∧ Fr n0 L ∧ Keep h0 h [u2] ∧ OwnArz Z h u2 .byte (3 : Int32)
set_option maxRecDepth 65536 in
set_option maxHeartbeats 40000000 in
theorem rm19c (l : Launch) (Z : State) (a0 : Array Value) (hw : ∀ d ∈ tables_1, d.before a0 Z = true) (ws : List Jvm.Cond) (u0 : Addr) (u2 : Addr) (kx : ClassId) (x0 : Int32) (x1 : Int32) (x2 : Int32) (h0 : Heap) (n0 : Nat) (O0 : Old Z n0 h0) (Vc : Arv Z h0 u0 kx .char (3 : Int32) [(.int x0), (.int x1), (.int x2)] (.int 0)) (Vb : OwnArz Z h0 u2 .byte (3 : Int32)) (g_u2 : n0 ≤ u2) (n02 : u0 ≠ u2) :
    MetFree l (⟨"java/lang/StringUTF16", "compress", "([CI[BII)I"⟩ : MethodName) (head1 (Jvm.Cond.code (⟨"java/lang/StringUTF16", "compress", "([CI[BII)I"⟩ : MethodName) jdk_52_method_21_code 7 (some .int) :: ws) ({ frames := 0, cells := 0, slots := 0, locals := 0 } : Room)) (fun a U => a = #[(.ref u0), (.int (0 : Int32)), (.ref u2), (.int (0 : Int32)), (.int (3 : Int32))] ∧ Z.Warmed39 U.vm ∧ U.heap = h0) (fun _ _ _ _ _ => True) (fun _ U o U' => ∃ v L, o = .returned v ∧ Q19c Z u0 u2 kx x0 x1 x2 h0 n0 v U'.heap L ∧ FrameEnd U o U' L ({ frames := 0, cells := 0, slots := 0, locals := 0 } : Room).cells ({ frames := 0, cells := 0, slots := 0, locals := 0 } : Room).slots) := by
  refine MetFree.of_bodySF (plainFor_of_name own_pn_java_lang_StringUTF16) hisR ?_
  intro p e s m args below meth c s₁ Bd hml0 hP hK
  obtain ⟨rfl, hZ, hh⟩ := hP
  have hx := Bd.exec
  have hby := Bd.bytes
  have hml : c.maxLocals = 7 := hml0
  have hown : s.vm.findClass "java/lang/StringUTF16" = some m.cls := findClass_of_methodNamed Bd.named
  have hnm := (name_of_methodNamed Bd.named Bd.method).1
  have X0 : Stand p l e ({ frames := 0, cells := 0, slots := 0, locals := 0 } : Room) s m #[(.ref u0), (.int (0 : Int32)), (.ref u2), (.int (0 : Int32)), (.int (3 : Int32))] below meth c s₁ [] 0 0 := Stand.of_body Bd
  have e0 : s₁.heap = h0 := by rw [← hh, Bd.state]; rfl
  have N0 := Fr.nil n0
  change Go p.tables e below _ _
  refine own_on (B := s₁.setTop (mkF m 0 #[rv u0, iv (0 : Int32), rv u2, iv (0 : Int32), iv (3 : Int32), .unset, .unset] [])) (fun tz kz => castTop (own_ef_19c m u0 (0 : Int32) u2 (0 : Int32) (3 : Int32)) kz) ?_
  refine own_on (B := s₁.setTop (mkF m 12 #[rv u0, iv (0 : Int32), rv u2, iv (0 : Int32), iv (3 : Int32), iv (0 : Int32), .unset] [(.int (0 : Int32)), (.ref u0)])) (fun tz kz => ?_) ?_
  · show sT p e below s₁ (mkF m 0 #[rv u0, iv (0 : Int32), rv u2, iv (0 : Int32), iv (3 : Int32), .unset, .unset] []) tz
    refine XS.iconst X0.here hx rfl (hb hby own_d19_0) ?_
    show sT p e below s₁ (mkF m 1 #[rv u0, iv (0 : Int32), rv u2, iv (0 : Int32), iv (3 : Int32), .unset, .unset] [(.int (0 : Int32))]) tz
    refine XS.istore X0.here hx rfl (hb hby own_d19_1) rfl (l' := #[rv u0, iv (0 : Int32), rv u2, iv (0 : Int32), iv (3 : Int32), iv (0 : Int32), .unset]) rfl ?_
    show sT p e below s₁ (mkF m 3 #[rv u0, iv (0 : Int32), rv u2, iv (0 : Int32), iv (3 : Int32), iv (0 : Int32), .unset] []) tz
    refine XS.iload X0.here hx rfl (hb hby own_d19_3) rfl ?_
    show sT p e below s₁ (mkF m 5 #[rv u0, iv (0 : Int32), rv u2, iv (0 : Int32), iv (3 : Int32), iv (0 : Int32), .unset] [(.int (0 : Int32))]) tz
    refine XS.iload X0.here hx rfl (hb hby own_d19_5) rfl ?_
    show sT p e below s₁ (mkF m 7 #[rv u0, iv (0 : Int32), rv u2, iv (0 : Int32), iv (3 : Int32), iv (0 : Int32), .unset] [(.int (3 : Int32)), (.int (0 : Int32))]) tz
    refine XS.icmpNo X0.here hx rfl (hb hby own_d19_7) rfl (tlt (by decide : (0 : Int32) < (3 : Int32))).2.1 ?_
    show sT p e below s₁ (mkF m 10 #[rv u0, iv (0 : Int32), rv u2, iv (0 : Int32), iv (3 : Int32), iv (0 : Int32), .unset] []) tz
    refine XS.aloadN X0.here hx rfl (hb hby own_d19_10) rfl rfl ?_
    show sT p e below s₁ (mkF m 11 #[rv u0, iv (0 : Int32), rv u2, iv (0 : Int32), iv (3 : Int32), iv (0 : Int32), .unset] [(.ref u0)]) tz
    refine XS.iloadN X0.here hx rfl (hb hby own_d19_11) rfl ?_
    exact kz
  obtain ⟨cl1, Ar1, q1, S1, M1, H1, G1⟩ := id Vc
  have hin2 : ¬ ((0 : Int32) < 0 ∨ cl1.slots.size ≤ ((0 : Int32)).toNatClampNeg) := inb_of S1 ⟨by decide, by decide⟩
  have hat2 : cl1.slots[((0 : Int32)).toNatClampNeg]? = some (.int x0) := Has.at H1 hin2 rfl
  refine own_on (B := s₁.setTop (mkF m 20 #[rv u0, iv (0 : Int32), rv u2, iv (0 : Int32), iv (3 : Int32), iv (0 : Int32), iv x0] [(.int (255 : Int32)), (.int x0)])) (fun tz kz => ?_) ?_
  · show sT p e below s₁ (mkF m 12 #[rv u0, iv (0 : Int32), rv u2, iv (0 : Int32), iv (3 : Int32), iv (0 : Int32), .unset] [(.int (0 : Int32)), (.ref u0)]) tz
    refine X0.caload hx (j := (0 : Int32)) (v := (.int x0)) (by rw [e0]; exact Ar1.1) (State.isArrayOf_alike hZ.alike Ar1.2.1) Ar1.2.2 hin2 hat2 (g := (mkF m 12 #[rv u0, iv (0 : Int32), rv u2, iv (0 : Int32), iv (3 : Int32), iv (0 : Int32), .unset] [(.int (0 : Int32)), (.ref u0)])) rfl rfl (hb hby own_d19_12) _ ?_
    show sT p e below s₁ (mkF m 13 #[rv u0, iv (0 : Int32), rv u2, iv (0 : Int32), iv (3 : Int32), iv (0 : Int32), .unset] [(.int x0)]) tz
    refine XS.istore X0.here hx rfl (hb hby own_d19_13) rfl (l' := #[rv u0, iv (0 : Int32), rv u2, iv (0 : Int32), iv (3 : Int32), iv (0 : Int32), iv x0]) rfl ?_
    show sT p e below s₁ (mkF m 15 #[rv u0, iv (0 : Int32), rv u2, iv (0 : Int32), iv (3 : Int32), iv (0 : Int32), iv x0] []) tz
    refine XS.iload X0.here hx rfl (hb hby own_d19_15) rfl ?_
    show sT p e below s₁ (mkF m 17 #[rv u0, iv (0 : Int32), rv u2, iv (0 : Int32), iv (3 : Int32), iv (0 : Int32), iv x0] [(.int x0)]) tz
    refine XS.sipush X0.here hx rfl (hb hby own_d19_17) ?_
    exact kz
  by_cases hs0 : (255 : Int32) < x0
  · refine own_on (B := s₁.setTop (mkF m 25 #[rv u0, iv (0 : Int32), rv u2, iv (0 : Int32), iv (3 : Int32), iv (0 : Int32), iv x0] [(.int (0 : Int32))])) (fun tz kz => ?_) ?_
    · show sT p e below s₁ (mkF m 20 #[rv u0, iv (0 : Int32), rv u2, iv (0 : Int32), iv (3 : Int32), iv (0 : Int32), iv x0] [(.int (255 : Int32)), (.int x0)]) tz
      refine XS.icmpNo X0.here hx rfl (hb hby own_d19_20) rfl (tlt hs0).2.2.2 ?_
      show sT p e below s₁ (mkF m 23 #[rv u0, iv (0 : Int32), rv u2, iv (0 : Int32), iv (3 : Int32), iv (0 : Int32), iv x0] []) tz
      refine XS.iload X0.here hx rfl (hb hby own_d19_23) rfl ?_
      exact kz
    obtain ⟨fs, hr, hrun, hended, hW, hsame⟩ := X0.leave (v := some (.int (0 : Int32))) (fun h => by rw [Bd.returns] at h; cases h)
    refine own_of ⟨_, _, ?_, hrun, hended, _, _, rfl, ?_, ⟨_, rfl⟩, hW, hsame.mono (by decide) (by decide)⟩
    · show sT p e below s₁ (mkF m 25 #[rv u0, iv (0 : Int32), rv u2, iv (0 : Int32), iv (3 : Int32), iv (0 : Int32), iv x0] [(.int (0 : Int32))]) _
      exact own_retI X0 hx Bd.returns (hb hby own_d19_25) hr
    · show Q19c Z u0 u2 kx x0 x1 x2 h0 n0 _ s₁.heap _
      rw [e0]
      exact ⟨by rw [if_pos hs0], N0, (Keep.refl h0 [u2]), Vb⟩
  · refine own_on (B := s₁.setTop (mkF m 31 #[rv u0, iv (0 : Int32), rv u2, iv (0 : Int32), iv (3 : Int32), iv (0 : Int32), iv x0] [(.int (x0.toInt8.toInt32)), (.int (0 : Int32)), (.ref u2)])) (fun tz kz => ?_) ?_
    · show sT p e below s₁ (mkF m 20 #[rv u0, iv (0 : Int32), rv u2, iv (0 : Int32), iv (3 : Int32), iv (0 : Int32), iv x0] [(.int (255 : Int32)), (.int x0)]) tz
      refine XS.icmpYes X0.here hx rfl (pc0 := 20) (pc' := 26) rfl (hb hby own_d19_20) rfl (flt hs0).2.2.2 (by decide) (by decide) ?_
      show sT p e below s₁ (mkF m 26 #[rv u0, iv (0 : Int32), rv u2, iv (0 : Int32), iv (3 : Int32), iv (0 : Int32), iv x0] []) tz
      refine XS.aloadN X0.here hx rfl (hb hby own_d19_26) rfl rfl ?_
      show sT p e below s₁ (mkF m 27 #[rv u0, iv (0 : Int32), rv u2, iv (0 : Int32), iv (3 : Int32), iv (0 : Int32), iv x0] [(.ref u2)]) tz
      refine XS.iloadN X0.here hx rfl (hb hby own_d19_27) rfl ?_
      show sT p e below s₁ (mkF m 28 #[rv u0, iv (0 : Int32), rv u2, iv (0 : Int32), iv (3 : Int32), iv (0 : Int32), iv x0] [(.int (0 : Int32)), (.ref u2)]) tz
      refine XS.iload X0.here hx rfl (hb hby own_d19_28) rfl ?_
      show sT p e below s₁ (mkF m 30 #[rv u0, iv (0 : Int32), rv u2, iv (0 : Int32), iv (3 : Int32), iv (0 : Int32), iv x0] [(.int x0), (.int (0 : Int32)), (.ref u2)]) tz
      refine XS.i2b X0.here hx rfl (hb hby own_d19_30) rfl ?_
      exact kz
    obtain ⟨cl3, Ar3, S3, M3⟩ := id Vb
    have hin3 : ¬ ((0 : Int32) < 0 ∨ cl3.slots.size ≤ ((0 : Int32)).toNatClampNeg) := inb_of S3 ⟨by decide, by decide⟩
    obtain ⟨T3, h3, X3, e3, W3, st3⟩ := stB X0 hx hZ e0 Ar3 (j := (0 : Int32)) hin3 (g := (mkF m 31 #[rv u0, iv (0 : Int32), rv u2, iv (0 : Int32), iv (3 : Int32), iv (0 : Int32), iv x0] [(.int (x0.toInt8.toInt32)), (.int (0 : Int32)), (.ref u2)])) rfl rfl (hb hby own_d19_31)
    have V3 := OwnArz.set Ar3 S3 M3 W3
    have N3 := Fr.snoc X3 N0 g_u2
    have O4 := O0.wr W3 g_u2
    have K4 : Keep h0 h3 [u2] := (Keep.refl h0 [u2]).wr W3 (Or.inl (List.mem_of_getElem? (i := 0) rfl))
    refine own_on (B := T3.setTop (mkF m 32 #[rv u0, iv (0 : Int32), rv u2, iv (0 : Int32), iv (3 : Int32), iv (0 : Int32), iv x0] [])) (fun tz kz => st3 _ kz) ?_
    refine own_on (B := T3.setTop (mkF m 12 #[rv u0, iv (1 : Int32), rv u2, iv (1 : Int32), iv (3 : Int32), iv (1 : Int32), iv x0] [(.int (1 : Int32)), (.ref u0)])) (fun tz kz => ?_) ?_
    · show sT p e below T3 (mkF m 32 #[rv u0, iv (0 : Int32), rv u2, iv (0 : Int32), iv (3 : Int32), iv (0 : Int32), iv x0] []) tz
      refine XS.iinc X3.here hx rfl (hb hby own_d19_32) rfl (l' := #[rv u0, iv (1 : Int32), rv u2, iv (0 : Int32), iv (3 : Int32), iv (0 : Int32), iv x0]) rfl ?_
      show sT p e below T3 (mkF m 35 #[rv u0, iv (1 : Int32), rv u2, iv (0 : Int32), iv (3 : Int32), iv (0 : Int32), iv x0] []) tz
      refine XS.iinc X3.here hx rfl (hb hby own_d19_35) rfl (l' := #[rv u0, iv (1 : Int32), rv u2, iv (1 : Int32), iv (3 : Int32), iv (0 : Int32), iv x0]) rfl ?_
      show sT p e below T3 (mkF m 38 #[rv u0, iv (1 : Int32), rv u2, iv (1 : Int32), iv (3 : Int32), iv (0 : Int32), iv x0] []) tz
      refine XS.iinc X3.here hx rfl (hb hby own_d19_38) rfl (l' := #[rv u0, iv (1 : Int32), rv u2, iv (1 : Int32), iv (3 : Int32), iv (1 : Int32), iv x0]) rfl ?_
      show sT p e below T3 (mkF m 41 #[rv u0, iv (1 : Int32), rv u2, iv (1 : Int32), iv (3 : Int32), iv (1 : Int32), iv x0] []) tz
      refine XS.goto X3.here hx rfl (pc0 := 41) (pc' := 3) rfl (hb hby own_d19_41) (by decide) (by decide) ?_
      show sT p e below T3 (mkF m 3 #[rv u0, iv (1 : Int32), rv u2, iv (1 : Int32), iv (3 : Int32), iv (1 : Int32), iv x0] []) tz
      refine XS.iload X3.here hx rfl (hb hby own_d19_3) rfl ?_
      show sT p e below T3 (mkF m 5 #[rv u0, iv (1 : Int32), rv u2, iv (1 : Int32), iv (3 : Int32), iv (1 : Int32), iv x0] [(.int (1 : Int32))]) tz
      refine XS.iload X3.here hx rfl (hb hby own_d19_5) rfl ?_
      show sT p e below T3 (mkF m 7 #[rv u0, iv (1 : Int32), rv u2, iv (1 : Int32), iv (3 : Int32), iv (1 : Int32), iv x0] [(.int (3 : Int32)), (.int (1 : Int32))]) tz
      refine XS.icmpNo X3.here hx rfl (hb hby own_d19_7) rfl (tlt (by decide : (1 : Int32) < (3 : Int32))).2.1 ?_
      show sT p e below T3 (mkF m 10 #[rv u0, iv (1 : Int32), rv u2, iv (1 : Int32), iv (3 : Int32), iv (1 : Int32), iv x0] []) tz
      refine XS.aloadN X3.here hx rfl (hb hby own_d19_10) rfl rfl ?_
      show sT p e below T3 (mkF m 11 #[rv u0, iv (1 : Int32), rv u2, iv (1 : Int32), iv (3 : Int32), iv (1 : Int32), iv x0] [(.ref u0)]) tz
      refine XS.iloadN X3.here hx rfl (hb hby own_d19_11) rfl ?_
      exact kz
    have f_5 := (Vc.other W3 n02)
    obtain ⟨cl6, Ar6, q6, S6, M6, H6, G6⟩ := id f_5
    have hin7 : ¬ ((1 : Int32) < 0 ∨ cl6.slots.size ≤ ((1 : Int32)).toNatClampNeg) := inb_of S6 ⟨by decide, by decide⟩
    have hat7 : cl6.slots[((1 : Int32)).toNatClampNeg]? = some (.int x1) := Has.at H6 hin7 rfl
    refine own_on (B := T3.setTop (mkF m 20 #[rv u0, iv (1 : Int32), rv u2, iv (1 : Int32), iv (3 : Int32), iv (1 : Int32), iv x1] [(.int (255 : Int32)), (.int x1)])) (fun tz kz => ?_) ?_
    · show sT p e below T3 (mkF m 12 #[rv u0, iv (1 : Int32), rv u2, iv (1 : Int32), iv (3 : Int32), iv (1 : Int32), iv x0] [(.int (1 : Int32)), (.ref u0)]) tz
      refine X3.caload hx (j := (1 : Int32)) (v := (.int x1)) (by rw [e3]; exact Ar6.1) (State.isArrayOf_alike hZ.alike Ar6.2.1) Ar6.2.2 hin7 hat7 (g := (mkF m 12 #[rv u0, iv (1 : Int32), rv u2, iv (1 : Int32), iv (3 : Int32), iv (1 : Int32), iv x0] [(.int (1 : Int32)), (.ref u0)])) rfl rfl (hb hby own_d19_12) _ ?_
      show sT p e below T3 (mkF m 13 #[rv u0, iv (1 : Int32), rv u2, iv (1 : Int32), iv (3 : Int32), iv (1 : Int32), iv x0] [(.int x1)]) tz
      refine XS.istore X3.here hx rfl (hb hby own_d19_13) rfl (l' := #[rv u0, iv (1 : Int32), rv u2, iv (1 : Int32), iv (3 : Int32), iv (1 : Int32), iv x1]) rfl ?_
      show sT p e below T3 (mkF m 15 #[rv u0, iv (1 : Int32), rv u2, iv (1 : Int32), iv (3 : Int32), iv (1 : Int32), iv x1] []) tz
      refine XS.iload X3.here hx rfl (hb hby own_d19_15) rfl ?_
      show sT p e below T3 (mkF m 17 #[rv u0, iv (1 : Int32), rv u2, iv (1 : Int32), iv (3 : Int32), iv (1 : Int32), iv x1] [(.int x1)]) tz
      refine XS.sipush X3.here hx rfl (hb hby own_d19_17) ?_
      exact kz
    by_cases hs1 : (255 : Int32) < x1
    · refine own_on (B := T3.setTop (mkF m 25 #[rv u0, iv (1 : Int32), rv u2, iv (1 : Int32), iv (3 : Int32), iv (1 : Int32), iv x1] [(.int (1 : Int32))])) (fun tz kz => ?_) ?_
      · show sT p e below T3 (mkF m 20 #[rv u0, iv (1 : Int32), rv u2, iv (1 : Int32), iv (3 : Int32), iv (1 : Int32), iv x1] [(.int (255 : Int32)), (.int x1)]) tz
        refine XS.icmpNo X3.here hx rfl (hb hby own_d19_20) rfl (tlt hs1).2.2.2 ?_
        show sT p e below T3 (mkF m 23 #[rv u0, iv (1 : Int32), rv u2, iv (1 : Int32), iv (3 : Int32), iv (1 : Int32), iv x1] []) tz
        refine XS.iload X3.here hx rfl (hb hby own_d19_23) rfl ?_
        exact kz
      obtain ⟨fs, hr, hrun, hended, hW, hsame⟩ := X3.leave (v := some (.int (1 : Int32))) (fun h => by rw [Bd.returns] at h; cases h)
      refine own_of ⟨_, _, ?_, hrun, hended, _, _, rfl, ?_, ⟨_, rfl⟩, hW, hsame.mono (by decide) (by decide)⟩
      · show sT p e below T3 (mkF m 25 #[rv u0, iv (1 : Int32), rv u2, iv (1 : Int32), iv (3 : Int32), iv (1 : Int32), iv x1] [(.int (1 : Int32))]) _
        exact own_retI X3 hx Bd.returns (hb hby own_d19_25) hr
      · show Q19c Z u0 u2 kx x0 x1 x2 h0 n0 _ T3.heap _
        rw [e3]
        exact ⟨by rw [if_neg hs0, if_pos hs1], N3, K4, V3⟩
    · refine own_on (B := T3.setTop (mkF m 31 #[rv u0, iv (1 : Int32), rv u2, iv (1 : Int32), iv (3 : Int32), iv (1 : Int32), iv x1] [(.int (x1.toInt8.toInt32)), (.int (1 : Int32)), (.ref u2)])) (fun tz kz => ?_) ?_
      · show sT p e below T3 (mkF m 20 #[rv u0, iv (1 : Int32), rv u2, iv (1 : Int32), iv (3 : Int32), iv (1 : Int32), iv x1] [(.int (255 : Int32)), (.int x1)]) tz
        refine XS.icmpYes X3.here hx rfl (pc0 := 20) (pc' := 26) rfl (hb hby own_d19_20) rfl (flt hs1).2.2.2 (by decide) (by decide) ?_
        show sT p e below T3 (mkF m 26 #[rv u0, iv (1 : Int32), rv u2, iv (1 : Int32), iv (3 : Int32), iv (1 : Int32), iv x1] []) tz
        refine XS.aloadN X3.here hx rfl (hb hby own_d19_26) rfl rfl ?_
        show sT p e below T3 (mkF m 27 #[rv u0, iv (1 : Int32), rv u2, iv (1 : Int32), iv (3 : Int32), iv (1 : Int32), iv x1] [(.ref u2)]) tz
        refine XS.iloadN X3.here hx rfl (hb hby own_d19_27) rfl ?_
        show sT p e below T3 (mkF m 28 #[rv u0, iv (1 : Int32), rv u2, iv (1 : Int32), iv (3 : Int32), iv (1 : Int32), iv x1] [(.int (1 : Int32)), (.ref u2)]) tz
        refine XS.iload X3.here hx rfl (hb hby own_d19_28) rfl ?_
        show sT p e below T3 (mkF m 30 #[rv u0, iv (1 : Int32), rv u2, iv (1 : Int32), iv (3 : Int32), iv (1 : Int32), iv x1] [(.int x1), (.int (1 : Int32)), (.ref u2)]) tz
        refine XS.i2b X3.here hx rfl (hb hby own_d19_30) rfl ?_
        exact kz
      obtain ⟨cl8, Ar8, S8, M8⟩ := id V3
      have hin8 : ¬ ((1 : Int32) < 0 ∨ cl8.slots.size ≤ ((1 : Int32)).toNatClampNeg) := inb_of S8 ⟨by decide, by decide⟩
      obtain ⟨T8, h8, X8, e8, W8, st8⟩ := stB X3 hx hZ e3 Ar8 (j := (1 : Int32)) hin8 (g := (mkF m 31 #[rv u0, iv (1 : Int32), rv u2, iv (1 : Int32), iv (3 : Int32), iv (1 : Int32), iv x1] [(.int (x1.toInt8.toInt32)), (.int (1 : Int32)), (.ref u2)])) rfl rfl (hb hby own_d19_31)
      have V8 := OwnArz.set Ar8 S8 M8 W8
      have N8 := Fr.snoc X8 N3 g_u2
      have O9 := O4.wr W8 g_u2
      have K9 : Keep h0 h8 [u2] := K4.wr W8 (Or.inl (List.mem_of_getElem? (i := 0) rfl))
      refine own_on (B := T8.setTop (mkF m 32 #[rv u0, iv (1 : Int32), rv u2, iv (1 : Int32), iv (3 : Int32), iv (1 : Int32), iv x1] [])) (fun tz kz => st8 _ kz) ?_
      refine own_on (B := T8.setTop (mkF m 12 #[rv u0, iv (2 : Int32), rv u2, iv (2 : Int32), iv (3 : Int32), iv (2 : Int32), iv x1] [(.int (2 : Int32)), (.ref u0)])) (fun tz kz => ?_) ?_
      · show sT p e below T8 (mkF m 32 #[rv u0, iv (1 : Int32), rv u2, iv (1 : Int32), iv (3 : Int32), iv (1 : Int32), iv x1] []) tz
        refine XS.iinc X8.here hx rfl (hb hby own_d19_32) rfl (l' := #[rv u0, iv (2 : Int32), rv u2, iv (1 : Int32), iv (3 : Int32), iv (1 : Int32), iv x1]) rfl ?_
        show sT p e below T8 (mkF m 35 #[rv u0, iv (2 : Int32), rv u2, iv (1 : Int32), iv (3 : Int32), iv (1 : Int32), iv x1] []) tz
        refine XS.iinc X8.here hx rfl (hb hby own_d19_35) rfl (l' := #[rv u0, iv (2 : Int32), rv u2, iv (2 : Int32), iv (3 : Int32), iv (1 : Int32), iv x1]) rfl ?_
        show sT p e below T8 (mkF m 38 #[rv u0, iv (2 : Int32), rv u2, iv (2 : Int32), iv (3 : Int32), iv (1 : Int32), iv x1] []) tz
        refine XS.iinc X8.here hx rfl (hb hby own_d19_38) rfl (l' := #[rv u0, iv (2 : Int32), rv u2, iv (2 : Int32), iv (3 : Int32), iv (2 : Int32), iv x1]) rfl ?_
        show sT p e below T8 (mkF m 41 #[rv u0, iv (2 : Int32), rv u2, iv (2 : Int32), iv (3 : Int32), iv (2 : Int32), iv x1] []) tz
        refine XS.goto X8.here hx rfl (pc0 := 41) (pc' := 3) rfl (hb hby own_d19_41) (by decide) (by decide) ?_
        show sT p e below T8 (mkF m 3 #[rv u0, iv (2 : Int32), rv u2, iv (2 : Int32), iv (3 : Int32), iv (2 : Int32), iv x1] []) tz
        refine XS.iload X8.here hx rfl (hb hby own_d19_3) rfl ?_
        show sT p e below T8 (mkF m 5 #[rv u0, iv (2 : Int32), rv u2, iv (2 : Int32), iv (3 : Int32), iv (2 : Int32), iv x1] [(.int (2 : Int32))]) tz
        refine XS.iload X8.here hx rfl (hb hby own_d19_5) rfl ?_
        show sT p e below T8 (mkF m 7 #[rv u0, iv (2 : Int32), rv u2, iv (2 : Int32), iv (3 : Int32), iv (2 : Int32), iv x1] [(.int (3 : Int32)), (.int (2 : Int32))]) tz
        refine XS.icmpNo X8.here hx rfl (hb hby own_d19_7) rfl (tlt (by decide : (2 : Int32) < (3 : Int32))).2.1 ?_
        show sT p e below T8 (mkF m 10 #[rv u0, iv (2 : Int32), rv u2, iv (2 : Int32), iv (3 : Int32), iv (2 : Int32), iv x1] []) tz
        refine XS.aloadN X8.here hx rfl (hb hby own_d19_10) rfl rfl ?_
        show sT p e below T8 (mkF m 11 #[rv u0, iv (2 : Int32), rv u2, iv (2 : Int32), iv (3 : Int32), iv (2 : Int32), iv x1] [(.ref u0)]) tz
        refine XS.iloadN X8.here hx rfl (hb hby own_d19_11) rfl ?_
        exact kz
      have f_10 := (f_5.other W8 n02)
      obtain ⟨cl11, Ar11, q11, S11, M11, H11, G11⟩ := id f_10
      have hin12 : ¬ ((2 : Int32) < 0 ∨ cl11.slots.size ≤ ((2 : Int32)).toNatClampNeg) := inb_of S11 ⟨by decide, by decide⟩
      have hat12 : cl11.slots[((2 : Int32)).toNatClampNeg]? = some (.int x2) := Has.at H11 hin12 rfl
      refine own_on (B := T8.setTop (mkF m 20 #[rv u0, iv (2 : Int32), rv u2, iv (2 : Int32), iv (3 : Int32), iv (2 : Int32), iv x2] [(.int (255 : Int32)), (.int x2)])) (fun tz kz => ?_) ?_
      · show sT p e below T8 (mkF m 12 #[rv u0, iv (2 : Int32), rv u2, iv (2 : Int32), iv (3 : Int32), iv (2 : Int32), iv x1] [(.int (2 : Int32)), (.ref u0)]) tz
        refine X8.caload hx (j := (2 : Int32)) (v := (.int x2)) (by rw [e8]; exact Ar11.1) (State.isArrayOf_alike hZ.alike Ar11.2.1) Ar11.2.2 hin12 hat12 (g := (mkF m 12 #[rv u0, iv (2 : Int32), rv u2, iv (2 : Int32), iv (3 : Int32), iv (2 : Int32), iv x1] [(.int (2 : Int32)), (.ref u0)])) rfl rfl (hb hby own_d19_12) _ ?_
        show sT p e below T8 (mkF m 13 #[rv u0, iv (2 : Int32), rv u2, iv (2 : Int32), iv (3 : Int32), iv (2 : Int32), iv x1] [(.int x2)]) tz
        refine XS.istore X8.here hx rfl (hb hby own_d19_13) rfl (l' := #[rv u0, iv (2 : Int32), rv u2, iv (2 : Int32), iv (3 : Int32), iv (2 : Int32), iv x2]) rfl ?_
        show sT p e below T8 (mkF m 15 #[rv u0, iv (2 : Int32), rv u2, iv (2 : Int32), iv (3 : Int32), iv (2 : Int32), iv x2] []) tz
        refine XS.iload X8.here hx rfl (hb hby own_d19_15) rfl ?_
        show sT p e below T8 (mkF m 17 #[rv u0, iv (2 : Int32), rv u2, iv (2 : Int32), iv (3 : Int32), iv (2 : Int32), iv x2] [(.int x2)]) tz
        refine XS.sipush X8.here hx rfl (hb hby own_d19_17) ?_
        exact kz
      by_cases hs2 : (255 : Int32) < x2
      · refine own_on (B := T8.setTop (mkF m 25 #[rv u0, iv (2 : Int32), rv u2, iv (2 : Int32), iv (3 : Int32), iv (2 : Int32), iv x2] [(.int (2 : Int32))])) (fun tz kz => ?_) ?_
        · show sT p e below T8 (mkF m 20 #[rv u0, iv (2 : Int32), rv u2, iv (2 : Int32), iv (3 : Int32), iv (2 : Int32), iv x2] [(.int (255 : Int32)), (.int x2)]) tz
          refine XS.icmpNo X8.here hx rfl (hb hby own_d19_20) rfl (tlt hs2).2.2.2 ?_
          show sT p e below T8 (mkF m 23 #[rv u0, iv (2 : Int32), rv u2, iv (2 : Int32), iv (3 : Int32), iv (2 : Int32), iv x2] []) tz
          refine XS.iload X8.here hx rfl (hb hby own_d19_23) rfl ?_
          exact kz
        obtain ⟨fs, hr, hrun, hended, hW, hsame⟩ := X8.leave (v := some (.int (2 : Int32))) (fun h => by rw [Bd.returns] at h; cases h)
        refine own_of ⟨_, _, ?_, hrun, hended, _, _, rfl, ?_, ⟨_, rfl⟩, hW, hsame.mono (by decide) (by decide)⟩
        · show sT p e below T8 (mkF m 25 #[rv u0, iv (2 : Int32), rv u2, iv (2 : Int32), iv (3 : Int32), iv (2 : Int32), iv x2] [(.int (2 : Int32))]) _
          exact own_retI X8 hx Bd.returns (hb hby own_d19_25) hr
        · show Q19c Z u0 u2 kx x0 x1 x2 h0 n0 _ T8.heap _
          rw [e8]
          exact ⟨by rw [if_neg hs0, if_neg hs1, if_pos hs2], N8, K9, V8⟩
      · refine own_on (B := T8.setTop (mkF m 31 #[rv u0, iv (2 : Int32), rv u2, iv (2 : Int32), iv (3 : Int32), iv (2 : Int32), iv x2] [(.int (x2.toInt8.toInt32)), (.int (2 : Int32)), (.ref u2)])) (fun tz kz => ?_) ?_
        · show sT p e below T8 (mkF m 20 #[rv u0, iv (2 : Int32), rv u2, iv (2 : Int32), iv (3 : Int32), iv (2 : Int32), iv x2] [(.int (255 : Int32)), (.int x2)]) tz
          refine XS.icmpYes X8.here hx rfl (pc0 := 20) (pc' := 26) rfl (hb hby own_d19_20) rfl (flt hs2).2.2.2 (by decide) (by decide) ?_
          show sT p e below T8 (mkF m 26 #[rv u0, iv (2 : Int32), rv u2, iv (2 : Int32), iv (3 : Int32), iv (2 : Int32), iv x2] []) tz
          refine XS.aloadN X8.here hx rfl (hb hby own_d19_26) rfl rfl ?_
          show sT p e below T8 (mkF m 27 #[rv u0, iv (2 : Int32), rv u2, iv (2 : Int32), iv (3 : Int32), iv (2 : Int32), iv x2] [(.ref u2)]) tz
          refine XS.iloadN X8.here hx rfl (hb hby own_d19_27) rfl ?_
          show sT p e below T8 (mkF m 28 #[rv u0, iv (2 : Int32), rv u2, iv (2 : Int32), iv (3 : Int32), iv (2 : Int32), iv x2] [(.int (2 : Int32)), (.ref u2)]) tz
          refine XS.iload X8.here hx rfl (hb hby own_d19_28) rfl ?_
          show sT p e below T8 (mkF m 30 #[rv u0, iv (2 : Int32), rv u2, iv (2 : Int32), iv (3 : Int32), iv (2 : Int32), iv x2] [(.int x2), (.int (2 : Int32)), (.ref u2)]) tz
          refine XS.i2b X8.here hx rfl (hb hby own_d19_30) rfl ?_
          exact kz
        obtain ⟨cl13, Ar13, S13, M13⟩ := id V8
        have hin13 : ¬ ((2 : Int32) < 0 ∨ cl13.slots.size ≤ ((2 : Int32)).toNatClampNeg) := inb_of S13 ⟨by decide, by decide⟩
        obtain ⟨T13, h13, X13, e13, W13, st13⟩ := stB X8 hx hZ e8 Ar13 (j := (2 : Int32)) hin13 (g := (mkF m 31 #[rv u0, iv (2 : Int32), rv u2, iv (2 : Int32), iv (3 : Int32), iv (2 : Int32), iv x2] [(.int (x2.toInt8.toInt32)), (.int (2 : Int32)), (.ref u2)])) rfl rfl (hb hby own_d19_31)
        have V13 := OwnArz.set Ar13 S13 M13 W13
        have N13 := Fr.snoc X13 N8 g_u2
        have O14 := O9.wr W13 g_u2
        have K14 : Keep h0 h13 [u2] := K9.wr W13 (Or.inl (List.mem_of_getElem? (i := 0) rfl))
        refine own_on (B := T13.setTop (mkF m 32 #[rv u0, iv (2 : Int32), rv u2, iv (2 : Int32), iv (3 : Int32), iv (2 : Int32), iv x2] [])) (fun tz kz => st13 _ kz) ?_
        refine own_on (B := T13.setTop (mkF m 46 #[rv u0, iv (3 : Int32), rv u2, iv (3 : Int32), iv (3 : Int32), iv (3 : Int32), iv x2] [(.int (3 : Int32))])) (fun tz kz => ?_) ?_
        · show sT p e below T13 (mkF m 32 #[rv u0, iv (2 : Int32), rv u2, iv (2 : Int32), iv (3 : Int32), iv (2 : Int32), iv x2] []) tz
          refine XS.iinc X13.here hx rfl (hb hby own_d19_32) rfl (l' := #[rv u0, iv (3 : Int32), rv u2, iv (2 : Int32), iv (3 : Int32), iv (2 : Int32), iv x2]) rfl ?_
          show sT p e below T13 (mkF m 35 #[rv u0, iv (3 : Int32), rv u2, iv (2 : Int32), iv (3 : Int32), iv (2 : Int32), iv x2] []) tz
          refine XS.iinc X13.here hx rfl (hb hby own_d19_35) rfl (l' := #[rv u0, iv (3 : Int32), rv u2, iv (3 : Int32), iv (3 : Int32), iv (2 : Int32), iv x2]) rfl ?_
          show sT p e below T13 (mkF m 38 #[rv u0, iv (3 : Int32), rv u2, iv (3 : Int32), iv (3 : Int32), iv (2 : Int32), iv x2] []) tz
          refine XS.iinc X13.here hx rfl (hb hby own_d19_38) rfl (l' := #[rv u0, iv (3 : Int32), rv u2, iv (3 : Int32), iv (3 : Int32), iv (3 : Int32), iv x2]) rfl ?_
          show sT p e below T13 (mkF m 41 #[rv u0, iv (3 : Int32), rv u2, iv (3 : Int32), iv (3 : Int32), iv (3 : Int32), iv x2] []) tz
          refine XS.goto X13.here hx rfl (pc0 := 41) (pc' := 3) rfl (hb hby own_d19_41) (by decide) (by decide) ?_
          show sT p e below T13 (mkF m 3 #[rv u0, iv (3 : Int32), rv u2, iv (3 : Int32), iv (3 : Int32), iv (3 : Int32), iv x2] []) tz
          refine XS.iload X13.here hx rfl (hb hby own_d19_3) rfl ?_
          show sT p e below T13 (mkF m 5 #[rv u0, iv (3 : Int32), rv u2, iv (3 : Int32), iv (3 : Int32), iv (3 : Int32), iv x2] [(.int (3 : Int32))]) tz
          refine XS.iload X13.here hx rfl (hb hby own_d19_5) rfl ?_
          show sT p e below T13 (mkF m 7 #[rv u0, iv (3 : Int32), rv u2, iv (3 : Int32), iv (3 : Int32), iv (3 : Int32), iv x2] [(.int (3 : Int32)), (.int (3 : Int32))]) tz
          refine XS.icmpYes X13.here hx rfl (pc0 := 7) (pc' := 44) rfl (hb hby own_d19_7) rfl (flt Int32.lt_irrefl).2.1 (by decide) (by decide) ?_
          show sT p e below T13 (mkF m 44 #[rv u0, iv (3 : Int32), rv u2, iv (3 : Int32), iv (3 : Int32), iv (3 : Int32), iv x2] []) tz
          refine XS.iload X13.here hx rfl (hb hby own_d19_44) rfl ?_
          exact kz
        obtain ⟨fs, hr, hrun, hended, hW, hsame⟩ := X13.leave (v := some (.int (3 : Int32))) (fun h => by rw [Bd.returns] at h; cases h)
        refine own_of ⟨_, _, ?_, hrun, hended, _, _, rfl, ?_, ⟨_, rfl⟩, hW, hsame.mono (by decide) (by decide)⟩
        · show sT p e below T13 (mkF m 46 #[rv u0, iv (3 : Int32), rv u2, iv (3 : Int32), iv (3 : Int32), iv (3 : Int32), iv x2] [(.int (3 : Int32))]) _
          exact own_retI X13 hx Bd.returns (hb hby own_d19_46) hr
        · show Q19c Z u0 u2 kx x0 x1 x2 h0 n0 _ T13.heap _
          rw [e13]
          exact ⟨by rw [if_neg hs0, if_neg hs1, if_neg hs2], N13, K14, V13⟩
theorem own_ef_18c (m : MethodId) (x0 : Addr) (x1 : Int32) (x2 : Int32) : entryFrame m #[(.ref x0), (.int x1), (.int x2)] 6 = mkF m 0 #[rv x0, iv x1, iv x2, .unset, .unset, .unset] [] := by first | (simp [entryFrame, mkF, argsToLocals, Value.category]; done) | rfl
def Q18c (Z : State) (u0 : Addr) (kx : ClassId) (x0 : Int32) (x1 : Int32) (x2 : Int32) (h0 : Heap) (n0 : Nat) (v : Option Value) (h : Heap) (L : List Loc) : Prop := ∃ (d : Addr) (ln cd : Int32), v = some (.ref d) ∧ Fr n0 L ∧ Keep h0 h [] ∧ h0.size ≤ d ∧ OwnArz Z h d .byte ln ∧ OwnLC (3 : Int32) ln cd
set_option maxRecDepth 65536 in
set_option maxHeartbeats 40000000 in
theorem rm18c (l : Launch) (Z : State) (a0 : Array Value) (hw : ∀ d ∈ tables_1, d.before a0 Z = true) (ws : List Jvm.Cond) (u0 : Addr) (kx : ClassId) (x0 : Int32) (x1 : Int32) (x2 : Int32) (h0 : Heap) (n0 : Nat) (O0 : Old Z n0 h0) (S_as : Sta Z Z.heap "java/lang/StringUTF16" "$assertionsDisabled" "Z" (.int 1)) (S_hi : Sta Z Z.heap "java/lang/StringUTF16" "HI_BYTE_SHIFT" "I" (.int 0)) (S_lo : Sta Z Z.heap "java/lang/StringUTF16" "LO_BYTE_SHIFT" "I" (.int 8)) (Vc : Arv Z h0 u0 kx .char (3 : Int32) [(.int x0), (.int x1), (.int x2)] (.int 0)) (l0 : ¬ x0 < 0) (u0_ : ¬ (65535 : Int32) < x0) (l1 : ¬ x1 < 0) (u1_ : ¬ (65535 : Int32) < x1) (l2 : ¬ x2 < 0) (u2_ : ¬ (65535 : Int32) < x2) :
    MetFree l (⟨"java/lang/StringUTF16", "compress", "([CII)[B"⟩ : MethodName) (head1 (Jvm.Cond.code (⟨"java/lang/StringUTF16", "compress", "([CII)[B"⟩ : MethodName) jdk_52_method_16_code 6 (some (.array .byte)) :: ws) ({ frames := 3, cells := 2, slots := 9, locals := 40 } : Room)) (fun a U => a = #[(.ref u0), (.int (0 : Int32)), (.int (3 : Int32))] ∧ Z.Warmed39 U.vm ∧ U.heap = h0) (fun _ _ _ _ _ => True) (fun _ U o U' => ∃ v L, o = .returned v ∧ Q18c Z u0 kx x0 x1 x2 h0 n0 v U'.heap L ∧ FrameEnd U o U' L ({ frames := 3, cells := 2, slots := 9, locals := 40 } : Room).cells ({ frames := 3, cells := 2, slots := 9, locals := 40 } : Room).slots) := by
  refine MetFree.of_bodySF (plainFor_of_name own_pn_java_lang_StringUTF16) hisR ?_
  intro p e s m args below meth c s₁ Bd hml0 hP hK
  obtain ⟨rfl, hZ, hh⟩ := hP
  have hx := Bd.exec
  have hby := Bd.bytes
  have hml : c.maxLocals = 6 := hml0
  have hown : s.vm.findClass "java/lang/StringUTF16" = some m.cls := findClass_of_methodNamed Bd.named
  have hnm := (name_of_methodNamed Bd.named Bd.method).1
  have X0 : Stand p l e ({ frames := 3, cells := 2, slots := 9, locals := 40 } : Room) s m #[(.ref u0), (.int (0 : Int32)), (.int (3 : Int32))] below meth c s₁ [] 0 0 := Stand.of_body Bd
  have e0 : s₁.heap = h0 := by rw [← hh, Bd.state]; rfl
  have N0 := Fr.nil n0
  change Go p.tables e below _ _
  refine own_on (B := s₁.setTop (mkF m 0 #[rv u0, iv (0 : Int32), iv (3 : Int32), .unset, .unset, .unset] [])) (fun tz kz => castTop (own_ef_18c m u0 (0 : Int32) (3 : Int32)) kz) ?_
  refine own_on (B := s₁.setTop (mkF m 1 #[rv u0, iv (0 : Int32), iv (3 : Int32), .unset, .unset, .unset] [(.int (3 : Int32))])) (fun tz kz => ?_) ?_
  · show sT p e below s₁ (mkF m 0 #[rv u0, iv (0 : Int32), iv (3 : Int32), .unset, .unset, .unset] []) tz
    refine XS.iloadN X0.here hx rfl (hb hby own_d18_0) rfl ?_
    exact kz
  obtain ⟨T1, h1, k1, X1, e1, E1, A1, st1⟩ := newP X0 hx hZ (own_w hw 21 rfl) e0 (g := (mkF m 1 #[rv u0, iv (0 : Int32), iv (3 : Int32), .unset, .unset, .unset] [(.int (3 : Int32))])) rfl (hb hby own_d18_1) rfl (by decide) (cap := 3) (by decide) (by decide) (by decide) (by decide)
  obtain ⟨b1, g1⟩ : ∃ z, z = h0.size := ⟨_, rfl⟩
  rw [← g1] at A1 st1
  have ne_u0_b1 : u0 ≠ b1 := Nat.ne_of_lt (Nat.lt_of_lt_of_le (Vc).lt (Nat.le_of_eq g1.symm))
  have g_b1 : n0 ≤ b1 := Nat.le_trans (own_old O0) (Nat.le_of_eq g1.symm)
  have sz_b1 : h0.size ≤ b1 := Nat.le_trans (Keep.refl h0 []).1 (Nat.le_of_eq g1.symm)
  have O2 := O0.ext E1
  have K2 : Keep h0 h1 [] := (Keep.refl h0 []).ext E1
  have V1 : Arv Z h1 b1 k1 .byte (3 : Int32) [] (.int (0 : Int32)) := Arv.new A1 (by decide)
  refine own_on (B := T1.setTop (mkF m 3 #[rv u0, iv (0 : Int32), iv (3 : Int32), .unset, .unset, .unset] [(.ref b1)])) (fun tz kz => st1 _ kz) ?_
  have V3 := OwnArz.of V1
  have f_4 := (Vc.ext E1)
  refine own_on (B := T1.setTop (mkF m 9 #[rv u0, iv (0 : Int32), iv (3 : Int32), rv b1, .unset, .unset] [(.int (3 : Int32)), (.int (0 : Int32)), (.ref b1), (.int (0 : Int32)), (.ref u0)])) (fun tz kz => ?_) ?_
  · show sT p e below T1 (mkF m 3 #[rv u0, iv (0 : Int32), iv (3 : Int32), .unset, .unset, .unset] [(.ref b1)]) tz
    refine XS.astoreN X1.here hx rfl (hb hby own_d18_3) rfl rfl (l' := #[rv u0, iv (0 : Int32), iv (3 : Int32), rv b1, .unset, .unset]) rfl ?_
    show sT p e below T1 (mkF m 4 #[rv u0, iv (0 : Int32), iv (3 : Int32), rv b1, .unset, .unset] []) tz
    refine XS.aloadN X1.here hx rfl (hb hby own_d18_4) rfl rfl ?_
    show sT p e below T1 (mkF m 5 #[rv u0, iv (0 : Int32), iv (3 : Int32), rv b1, .unset, .unset] [(.ref u0)]) tz
    refine XS.iloadN X1.here hx rfl (hb hby own_d18_5) rfl ?_
    show sT p e below T1 (mkF m 6 #[rv u0, iv (0 : Int32), iv (3 : Int32), rv b1, .unset, .unset] [(.int (0 : Int32)), (.ref u0)]) tz
    refine XS.aloadN X1.here hx rfl (hb hby own_d18_6) rfl rfl ?_
    show sT p e below T1 (mkF m 7 #[rv u0, iv (0 : Int32), iv (3 : Int32), rv b1, .unset, .unset] [(.ref b1), (.int (0 : Int32)), (.ref u0)]) tz
    refine XS.iconst X1.here hx rfl (hb hby own_d18_7) ?_
    show sT p e below T1 (mkF m 8 #[rv u0, iv (0 : Int32), iv (3 : Int32), rv b1, .unset, .unset] [(.int (0 : Int32)), (.ref b1), (.int (0 : Int32)), (.ref u0)]) tz
    refine XS.iloadN X1.here hx rfl (hb hby own_d18_8) rfl ?_
    exact kz
  obtain ⟨_, _, ⟨T5, L5, k5, n5⟩, -, X5, ⟨Lc5, hQ5, l5, y5, z5⟩, st5⟩ := Jvm.LawKit.callS X1 hx (y := (⟨"java/lang/StringUTF16", "compress", "([CI[BII)I"⟩ : MethodName)) hown (mvT hZ (own_w hw 106 rfl)) (mvT hZ (own_w hw 107 rfl)) (mvT hZ (own_w hw 104 rfl)) (mvT hZ (own_w hw 108 rfl)) (by decide) (backOf (W := 0) (rm19c l Z a0 hw [] u0 b1 kx x0 x1 x2 h1 n0 O2 f_4 V3 g_b1 ne_u0_b1) hZ (own_w hw 108 rfl) (own_w hw 104 rfl) (by decide) (by decide)) (g := (mkF m 9 #[rv u0, iv (0 : Int32), iv (3 : Int32), rv b1, .unset, .unset] [(.int (3 : Int32)), (.int (0 : Int32)), (.ref b1), (.int (0 : Int32)), (.ref u0)])) rfl (by rw [hml]; rfl) (argsL := [(.ref u0), (.int (0 : Int32)), (.ref b1), (.int (0 : Int32)), (.int (3 : Int32))]) (rest := []) (lenOf own_pd3 rfl) rfl (by show 2 * 0 + _ ≤ _; exact Nat.le_of_eq rfl) (hb hby own_d18_9) (fun _ _ => ⟨rfl, e1, (by decide : 1 + 0 ≤ _), (by decide : 3 + 0 ≤ _)⟩)
  dsimp only [Pt.U, Pt.locs, Pt.cells, Pt.slots] at X5 l5 y5 z5 st5 hQ5
  subst l5 y5 z5
  obtain ⟨rfl, Nq5, Kq5, Vq5⟩ := hQ5
  have N5 := Fr.app N0 Nq5
  have O6 := O2.keep Kq5 (allS g_b1 all0)
  have K6 : Keep h0 T5.heap [] := K2.trans Kq5 (allS (Or.inr sz_b1) all0)
  refine own_on (B := T5.setTop (mkF m 12 #[rv u0, iv (0 : Int32), iv (3 : Int32), rv b1, .unset, .unset] [(.int (if (255 : Int32) < x0 then (0 : Int32) else (if (255 : Int32) < x1 then (1 : Int32) else (if (255 : Int32) < x2 then (2 : Int32) else (3 : Int32)))))])) (fun tz kz => st5 _ kz) ?_
  by_cases hs0 : (255 : Int32) < x0
  · rw [if_pos hs0]
    have f_7 := (f_4.keep Kq5 (ninS ne_u0_b1 nin0))
    refine own_on (B := T5.setTop (mkF m 23 #[rv u0, iv (0 : Int32), iv (3 : Int32), rv b1, iv (0 : Int32), .unset] [(.int (3 : Int32)), (.int (0 : Int32)), (.ref u0)])) (fun tz kz => ?_) ?_
    · show sT p e below T5 (mkF m 12 #[rv u0, iv (0 : Int32), iv (3 : Int32), rv b1, .unset, .unset] [(.int (0 : Int32))]) tz
      refine XS.istore X5.here hx rfl (hb hby own_d18_12) rfl (l' := #[rv u0, iv (0 : Int32), iv (3 : Int32), rv b1, iv (0 : Int32), .unset]) rfl ?_
      show sT p e below T5 (mkF m 14 #[rv u0, iv (0 : Int32), iv (3 : Int32), rv b1, iv (0 : Int32), .unset] []) tz
      refine XS.iload X5.here hx rfl (hb hby own_d18_14) rfl ?_
      show sT p e below T5 (mkF m 16 #[rv u0, iv (0 : Int32), iv (3 : Int32), rv b1, iv (0 : Int32), .unset] [(.int (0 : Int32))]) tz
      refine XS.iloadN X5.here hx rfl (hb hby own_d18_16) rfl ?_
      show sT p e below T5 (mkF m 17 #[rv u0, iv (0 : Int32), iv (3 : Int32), rv b1, iv (0 : Int32), .unset] [(.int (3 : Int32)), (.int (0 : Int32))]) tz
      refine XS.icmpNo X5.here hx rfl (hb hby own_d18_17) rfl (feq (by decide : ¬ ((0 : Int32) = (3 : Int32)))).1 ?_
      show sT p e below T5 (mkF m 20 #[rv u0, iv (0 : Int32), iv (3 : Int32), rv b1, iv (0 : Int32), .unset] []) tz
      refine XS.aloadN X5.here hx rfl (hb hby own_d18_20) rfl rfl ?_
      show sT p e below T5 (mkF m 21 #[rv u0, iv (0 : Int32), iv (3 : Int32), rv b1, iv (0 : Int32), .unset] [(.ref u0)]) tz
      refine XS.iloadN X5.here hx rfl (hb hby own_d18_21) rfl ?_
      show sT p e below T5 (mkF m 22 #[rv u0, iv (0 : Int32), iv (3 : Int32), rv b1, iv (0 : Int32), .unset] [(.int (0 : Int32)), (.ref u0)]) tz
      refine XS.iloadN X5.here hx rfl (hb hby own_d18_22) rfl ?_
      exact kz
    obtain ⟨_, _, ⟨T8, L8, k8, n8⟩, -, X8, ⟨Lc8, hQ8, l8, y8, z8⟩, st8⟩ := Jvm.LawKit.callS X5 hx (y := (⟨"java/lang/StringUTF16", "toBytes", "([CII)[B"⟩ : MethodName)) hown (mvT hZ (own_w hw 112 rfl)) (mvT hZ (own_w hw 113 rfl)) (mvT hZ (own_w hw 104 rfl)) (mvT hZ (own_w hw 114 rfl)) (by decide) (backOf (W := 0) (rm21c l Z a0 hw [] u0 kx x0 x1 x2 T5.heap n0 O6 S_as S_hi S_lo f_7) hZ (own_w hw 114 rfl) (own_w hw 104 rfl) (by decide) (by decide)) (g := (mkF m 23 #[rv u0, iv (0 : Int32), iv (3 : Int32), rv b1, iv (0 : Int32), .unset] [(.int (3 : Int32)), (.int (0 : Int32)), (.ref u0)])) rfl (by rw [hml]; rfl) (argsL := [(.ref u0), (.int (0 : Int32)), (.int (3 : Int32))]) (rest := []) (lenOf own_pd4 rfl) rfl (by show 2 * 0 + _ ≤ _; exact Nat.le_of_eq rfl) (hb hby own_d18_23) (fun _ _ => ⟨rfl, rfl, (by decide : 1 + 1 ≤ _), (by decide : 3 + 6 ≤ _)⟩)
    dsimp only [Pt.U, Pt.locs, Pt.cells, Pt.slots] at X8 l8 y8 z8 st8 hQ8
    subst l8 y8 z8
    obtain ⟨d8, kd8, rfl, Nq8, Kq8, zq8, Vq8⟩ := hQ8
    have N8 := Fr.app N5 Nq8
    have ne_u0_d8 : u0 ≠ d8 := Nat.ne_of_lt (Nat.lt_of_lt_of_le (f_7).lt zq8)
    have ne_b1_d8 : b1 ≠ d8 := Nat.ne_of_lt (Nat.lt_of_lt_of_le (Vq5).lt zq8)
    have g_d8 : n0 ≤ d8 := Nat.le_trans (own_old O6) zq8
    have sz_d8 : h0.size ≤ d8 := Nat.le_trans K6.1 zq8
    have O9 := O6.keep Kq8 all0
    have K9 : Keep h0 T8.heap [] := K6.trans Kq8 all0
    refine own_on (B := T8.setTop (mkF m 26 #[rv u0, iv (0 : Int32), iv (3 : Int32), rv b1, iv (0 : Int32), .unset] [(.ref d8)])) (fun tz kz => st8 _ kz) ?_
    refine own_on (B := T8.setTop (mkF m 32 #[rv u0, iv (0 : Int32), iv (3 : Int32), rv b1, iv (0 : Int32), rv d8] [(.int (0 : Int32)), (.ref d8)])) (fun tz kz => ?_) ?_
    · show sT p e below T8 (mkF m 26 #[rv u0, iv (0 : Int32), iv (3 : Int32), rv b1, iv (0 : Int32), .unset] [(.ref d8)]) tz
      refine XS.astore X8.here hx rfl (hb hby own_d18_26) rfl rfl (l' := #[rv u0, iv (0 : Int32), iv (3 : Int32), rv b1, iv (0 : Int32), rv d8]) rfl ?_
      show sT p e below T8 (mkF m 28 #[rv u0, iv (0 : Int32), iv (3 : Int32), rv b1, iv (0 : Int32), rv d8] []) tz
      refine XS.aload X8.here hx rfl (hb hby own_d18_28) rfl rfl ?_
      show sT p e below T8 (mkF m 30 #[rv u0, iv (0 : Int32), iv (3 : Int32), rv b1, iv (0 : Int32), rv d8] [(.ref d8)]) tz
      refine XS.iload X8.here hx rfl (hb hby own_d18_30) rfl ?_
      exact kz
    obtain ⟨_, _, ⟨T10, L10, k10, n10⟩, -, X10, ⟨Lc10, hQ10, l10, y10, z10⟩, st10⟩ := Jvm.LawKit.callS X8 hx (y := (⟨"java/lang/StringUTF16", "getChar", "([BI)C"⟩ : MethodName)) hown (mvT hZ (own_w hw 128 rfl)) (mvT hZ (own_w hw 129 rfl)) (mvT hZ (own_w hw 104 rfl)) (mvT hZ (own_w hw 130 rfl)) (by decide) (backOf (W := 0) (rm25a l Z a0 hw [] d8 kd8 (6 : Int32) [(.int (nar .byte ((x0 >>> ((0 : Int32) &&& 31)).toInt8.toInt32))), (.int (nar .byte ((x0 >>> ((8 : Int32) &&& 31)).toInt8.toInt32))), (.int (nar .byte ((x1 >>> ((0 : Int32) &&& 31)).toInt8.toInt32))), (.int (nar .byte ((x1 >>> ((8 : Int32) &&& 31)).toInt8.toInt32))), (.int (nar .byte ((x2 >>> ((0 : Int32) &&& 31)).toInt8.toInt32))), (.int (nar .byte ((x2 >>> ((8 : Int32) &&& 31)).toInt8.toInt32)))] (nar .byte ((x0 >>> ((0 : Int32) &&& 31)).toInt8.toInt32)) (nar .byte ((x0 >>> ((8 : Int32) &&& 31)).toInt8.toInt32)) x0 T8.heap n0 O9 S_as S_hi S_lo Vq8 (by decide) rfl rfl (own_chr x0 l0 u0_) (own_narC x0 l0 u0_)) hZ (own_w hw 130 rfl) (own_w hw 104 rfl) (by decide) (by decide)) (g := (mkF m 32 #[rv u0, iv (0 : Int32), iv (3 : Int32), rv b1, iv (0 : Int32), rv d8] [(.int (0 : Int32)), (.ref d8)])) rfl (by rw [hml]; rfl) (argsL := [(.ref d8), (.int (0 : Int32))]) (rest := []) (lenOf own_pd5 rfl) rfl (by show 2 * 0 + _ ≤ _; exact Nat.le_of_eq rfl) (hb hby own_d18_32) (fun _ _ => ⟨rfl, rfl, (by decide : 2 + 0 ≤ _), (by decide : 9 + 0 ≤ _)⟩)
    dsimp only [Pt.U, Pt.locs, Pt.cells, Pt.slots] at X10 l10 y10 z10 st10 hQ10
    subst l10 y10 z10
    obtain ⟨rfl, Nq10, e10⟩ := hQ10
    have N10 := Fr.app N8 Nq10
    refine own_on (B := T10.setTop (mkF m 35 #[rv u0, iv (0 : Int32), iv (3 : Int32), rv b1, iv (0 : Int32), rv d8] [(.int x0)])) (fun tz kz => st10 _ kz) ?_
    refine own_on (B := T10.setTop (mkF m 56 #[rv u0, iv (0 : Int32), iv (3 : Int32), rv b1, iv (0 : Int32), rv d8] [(.ref d8)])) (fun tz kz => ?_) ?_
    · show sT p e below T10 (mkF m 35 #[rv u0, iv (0 : Int32), iv (3 : Int32), rv b1, iv (0 : Int32), rv d8] [(.int x0)]) tz
      refine XS.sipush X10.here hx rfl (hb hby own_d18_35) ?_
      show sT p e below T10 (mkF m 38 #[rv u0, iv (0 : Int32), iv (3 : Int32), rv b1, iv (0 : Int32), rv d8] [(.int (255 : Int32)), (.int x0)]) tz
      refine XS.icmpYes X10.here hx rfl (pc0 := 38) (pc' := 54) rfl (hb hby own_d18_38) rfl (tlt hs0).2.2.1 (by decide) (by decide) ?_
      show sT p e below T10 (mkF m 54 #[rv u0, iv (0 : Int32), iv (3 : Int32), rv b1, iv (0 : Int32), rv d8] []) tz
      refine XS.aload X10.here hx rfl (hb hby own_d18_54) rfl rfl ?_
      exact kz
    obtain ⟨fs, hr, hrun, hended, hW, hsame⟩ := X10.leave (v := some (.ref d8)) (fun h => by rw [Bd.returns] at h; cases h)
    refine own_of ⟨_, _, ?_, hrun, hended, _, _, rfl, ?_, ⟨_, rfl⟩, hW, hsame.mono (by decide) (by decide)⟩
    · show sT p e below T10 (mkF m 56 #[rv u0, iv (0 : Int32), iv (3 : Int32), rv b1, iv (0 : Int32), rv d8] [(.ref d8)]) _
      exact own_retV X10 hx Bd.returns rfl rfl (hb hby own_d18_56) hr
    · show Q18c Z u0 kx x0 x1 x2 h0 n0 _ T10.heap _
      rw [e10]
      exact ⟨d8, (6 : Int32), 1, rfl, N10, K9, sz_d8, OwnArz.of Vq8, Or.inr ⟨rfl, rfl⟩⟩
  · by_cases hs1 : (255 : Int32) < x1
    · rw [if_neg hs0, if_pos hs1]
      have f_11 := (f_4.keep Kq5 (ninS ne_u0_b1 nin0))
      refine own_on (B := T5.setTop (mkF m 23 #[rv u0, iv (0 : Int32), iv (3 : Int32), rv b1, iv (1 : Int32), .unset] [(.int (3 : Int32)), (.int (0 : Int32)), (.ref u0)])) (fun tz kz => ?_) ?_
      · show sT p e below T5 (mkF m 12 #[rv u0, iv (0 : Int32), iv (3 : Int32), rv b1, .unset, .unset] [(.int (1 : Int32))]) tz
        refine XS.istore X5.here hx rfl (hb hby own_d18_12) rfl (l' := #[rv u0, iv (0 : Int32), iv (3 : Int32), rv b1, iv (1 : Int32), .unset]) rfl ?_
        show sT p e below T5 (mkF m 14 #[rv u0, iv (0 : Int32), iv (3 : Int32), rv b1, iv (1 : Int32), .unset] []) tz
        refine XS.iload X5.here hx rfl (hb hby own_d18_14) rfl ?_
        show sT p e below T5 (mkF m 16 #[rv u0, iv (0 : Int32), iv (3 : Int32), rv b1, iv (1 : Int32), .unset] [(.int (1 : Int32))]) tz
        refine XS.iloadN X5.here hx rfl (hb hby own_d18_16) rfl ?_
        show sT p e below T5 (mkF m 17 #[rv u0, iv (0 : Int32), iv (3 : Int32), rv b1, iv (1 : Int32), .unset] [(.int (3 : Int32)), (.int (1 : Int32))]) tz
        refine XS.icmpNo X5.here hx rfl (hb hby own_d18_17) rfl (feq (by decide : ¬ ((1 : Int32) = (3 : Int32)))).1 ?_
        show sT p e below T5 (mkF m 20 #[rv u0, iv (0 : Int32), iv (3 : Int32), rv b1, iv (1 : Int32), .unset] []) tz
        refine XS.aloadN X5.here hx rfl (hb hby own_d18_20) rfl rfl ?_
        show sT p e below T5 (mkF m 21 #[rv u0, iv (0 : Int32), iv (3 : Int32), rv b1, iv (1 : Int32), .unset] [(.ref u0)]) tz
        refine XS.iloadN X5.here hx rfl (hb hby own_d18_21) rfl ?_
        show sT p e below T5 (mkF m 22 #[rv u0, iv (0 : Int32), iv (3 : Int32), rv b1, iv (1 : Int32), .unset] [(.int (0 : Int32)), (.ref u0)]) tz
        refine XS.iloadN X5.here hx rfl (hb hby own_d18_22) rfl ?_
        exact kz
      obtain ⟨_, _, ⟨T12, L12, k12, n12⟩, -, X12, ⟨Lc12, hQ12, l12, y12, z12⟩, st12⟩ := Jvm.LawKit.callS X5 hx (y := (⟨"java/lang/StringUTF16", "toBytes", "([CII)[B"⟩ : MethodName)) hown (mvT hZ (own_w hw 112 rfl)) (mvT hZ (own_w hw 113 rfl)) (mvT hZ (own_w hw 104 rfl)) (mvT hZ (own_w hw 114 rfl)) (by decide) (backOf (W := 0) (rm21c l Z a0 hw [] u0 kx x0 x1 x2 T5.heap n0 O6 S_as S_hi S_lo f_11) hZ (own_w hw 114 rfl) (own_w hw 104 rfl) (by decide) (by decide)) (g := (mkF m 23 #[rv u0, iv (0 : Int32), iv (3 : Int32), rv b1, iv (1 : Int32), .unset] [(.int (3 : Int32)), (.int (0 : Int32)), (.ref u0)])) rfl (by rw [hml]; rfl) (argsL := [(.ref u0), (.int (0 : Int32)), (.int (3 : Int32))]) (rest := []) (lenOf own_pd4 rfl) rfl (by show 2 * 0 + _ ≤ _; exact Nat.le_of_eq rfl) (hb hby own_d18_23) (fun _ _ => ⟨rfl, rfl, (by decide : 1 + 1 ≤ _), (by decide : 3 + 6 ≤ _)⟩)
      dsimp only [Pt.U, Pt.locs, Pt.cells, Pt.slots] at X12 l12 y12 z12 st12 hQ12
      subst l12 y12 z12
      obtain ⟨d12, kd12, rfl, Nq12, Kq12, zq12, Vq12⟩ := hQ12
      have N12 := Fr.app N5 Nq12
      have ne_u0_d12 : u0 ≠ d12 := Nat.ne_of_lt (Nat.lt_of_lt_of_le (f_11).lt zq12)
      have ne_b1_d12 : b1 ≠ d12 := Nat.ne_of_lt (Nat.lt_of_lt_of_le (Vq5).lt zq12)
      have g_d12 : n0 ≤ d12 := Nat.le_trans (own_old O6) zq12
      have sz_d12 : h0.size ≤ d12 := Nat.le_trans K6.1 zq12
      have O13 := O6.keep Kq12 all0
      have K13 : Keep h0 T12.heap [] := K6.trans Kq12 all0
      refine own_on (B := T12.setTop (mkF m 26 #[rv u0, iv (0 : Int32), iv (3 : Int32), rv b1, iv (1 : Int32), .unset] [(.ref d12)])) (fun tz kz => st12 _ kz) ?_
      refine own_on (B := T12.setTop (mkF m 32 #[rv u0, iv (0 : Int32), iv (3 : Int32), rv b1, iv (1 : Int32), rv d12] [(.int (1 : Int32)), (.ref d12)])) (fun tz kz => ?_) ?_
      · show sT p e below T12 (mkF m 26 #[rv u0, iv (0 : Int32), iv (3 : Int32), rv b1, iv (1 : Int32), .unset] [(.ref d12)]) tz
        refine XS.astore X12.here hx rfl (hb hby own_d18_26) rfl rfl (l' := #[rv u0, iv (0 : Int32), iv (3 : Int32), rv b1, iv (1 : Int32), rv d12]) rfl ?_
        show sT p e below T12 (mkF m 28 #[rv u0, iv (0 : Int32), iv (3 : Int32), rv b1, iv (1 : Int32), rv d12] []) tz
        refine XS.aload X12.here hx rfl (hb hby own_d18_28) rfl rfl ?_
        show sT p e below T12 (mkF m 30 #[rv u0, iv (0 : Int32), iv (3 : Int32), rv b1, iv (1 : Int32), rv d12] [(.ref d12)]) tz
        refine XS.iload X12.here hx rfl (hb hby own_d18_30) rfl ?_
        exact kz
      obtain ⟨_, _, ⟨T14, L14, k14, n14⟩, -, X14, ⟨Lc14, hQ14, l14, y14, z14⟩, st14⟩ := Jvm.LawKit.callS X12 hx (y := (⟨"java/lang/StringUTF16", "getChar", "([BI)C"⟩ : MethodName)) hown (mvT hZ (own_w hw 128 rfl)) (mvT hZ (own_w hw 129 rfl)) (mvT hZ (own_w hw 104 rfl)) (mvT hZ (own_w hw 130 rfl)) (by decide) (backOf (W := 0) (rm25b l Z a0 hw [] d12 kd12 (6 : Int32) [(.int (nar .byte ((x0 >>> ((0 : Int32) &&& 31)).toInt8.toInt32))), (.int (nar .byte ((x0 >>> ((8 : Int32) &&& 31)).toInt8.toInt32))), (.int (nar .byte ((x1 >>> ((0 : Int32) &&& 31)).toInt8.toInt32))), (.int (nar .byte ((x1 >>> ((8 : Int32) &&& 31)).toInt8.toInt32))), (.int (nar .byte ((x2 >>> ((0 : Int32) &&& 31)).toInt8.toInt32))), (.int (nar .byte ((x2 >>> ((8 : Int32) &&& 31)).toInt8.toInt32)))] (nar .byte ((x1 >>> ((0 : Int32) &&& 31)).toInt8.toInt32)) (nar .byte ((x1 >>> ((8 : Int32) &&& 31)).toInt8.toInt32)) x1 T12.heap n0 O13 S_as S_hi S_lo Vq12 (by decide) rfl rfl (own_chr x1 l1 u1_) (own_narC x1 l1 u1_)) hZ (own_w hw 130 rfl) (own_w hw 104 rfl) (by decide) (by decide)) (g := (mkF m 32 #[rv u0, iv (0 : Int32), iv (3 : Int32), rv b1, iv (1 : Int32), rv d12] [(.int (1 : Int32)), (.ref d12)])) rfl (by rw [hml]; rfl) (argsL := [(.ref d12), (.int (1 : Int32))]) (rest := []) (lenOf own_pd5 rfl) rfl (by show 2 * 0 + _ ≤ _; exact Nat.le_of_eq rfl) (hb hby own_d18_32) (fun _ _ => ⟨rfl, rfl, (by decide : 2 + 0 ≤ _), (by decide : 9 + 0 ≤ _)⟩)
      dsimp only [Pt.U, Pt.locs, Pt.cells, Pt.slots] at X14 l14 y14 z14 st14 hQ14
      subst l14 y14 z14
      obtain ⟨rfl, Nq14, e14⟩ := hQ14
      have N14 := Fr.app N12 Nq14
      refine own_on (B := T14.setTop (mkF m 35 #[rv u0, iv (0 : Int32), iv (3 : Int32), rv b1, iv (1 : Int32), rv d12] [(.int x1)])) (fun tz kz => st14 _ kz) ?_
      refine own_on (B := T14.setTop (mkF m 56 #[rv u0, iv (0 : Int32), iv (3 : Int32), rv b1, iv (1 : Int32), rv d12] [(.ref d12)])) (fun tz kz => ?_) ?_
      · show sT p e below T14 (mkF m 35 #[rv u0, iv (0 : Int32), iv (3 : Int32), rv b1, iv (1 : Int32), rv d12] [(.int x1)]) tz
        refine XS.sipush X14.here hx rfl (hb hby own_d18_35) ?_
        show sT p e below T14 (mkF m 38 #[rv u0, iv (0 : Int32), iv (3 : Int32), rv b1, iv (1 : Int32), rv d12] [(.int (255 : Int32)), (.int x1)]) tz
        refine XS.icmpYes X14.here hx rfl (pc0 := 38) (pc' := 54) rfl (hb hby own_d18_38) rfl (tlt hs1).2.2.1 (by decide) (by decide) ?_
        show sT p e below T14 (mkF m 54 #[rv u0, iv (0 : Int32), iv (3 : Int32), rv b1, iv (1 : Int32), rv d12] []) tz
        refine XS.aload X14.here hx rfl (hb hby own_d18_54) rfl rfl ?_
        exact kz
      obtain ⟨fs, hr, hrun, hended, hW, hsame⟩ := X14.leave (v := some (.ref d12)) (fun h => by rw [Bd.returns] at h; cases h)
      refine own_of ⟨_, _, ?_, hrun, hended, _, _, rfl, ?_, ⟨_, rfl⟩, hW, hsame.mono (by decide) (by decide)⟩
      · show sT p e below T14 (mkF m 56 #[rv u0, iv (0 : Int32), iv (3 : Int32), rv b1, iv (1 : Int32), rv d12] [(.ref d12)]) _
        exact own_retV X14 hx Bd.returns rfl rfl (hb hby own_d18_56) hr
      · show Q18c Z u0 kx x0 x1 x2 h0 n0 _ T14.heap _
        rw [e14]
        exact ⟨d12, (6 : Int32), 1, rfl, N14, K13, sz_d12, OwnArz.of Vq12, Or.inr ⟨rfl, rfl⟩⟩
    · by_cases hs2 : (255 : Int32) < x2
      · rw [if_neg hs0, if_neg hs1, if_pos hs2]
        have f_15 := (f_4.keep Kq5 (ninS ne_u0_b1 nin0))
        refine own_on (B := T5.setTop (mkF m 23 #[rv u0, iv (0 : Int32), iv (3 : Int32), rv b1, iv (2 : Int32), .unset] [(.int (3 : Int32)), (.int (0 : Int32)), (.ref u0)])) (fun tz kz => ?_) ?_
        · show sT p e below T5 (mkF m 12 #[rv u0, iv (0 : Int32), iv (3 : Int32), rv b1, .unset, .unset] [(.int (2 : Int32))]) tz
          refine XS.istore X5.here hx rfl (hb hby own_d18_12) rfl (l' := #[rv u0, iv (0 : Int32), iv (3 : Int32), rv b1, iv (2 : Int32), .unset]) rfl ?_
          show sT p e below T5 (mkF m 14 #[rv u0, iv (0 : Int32), iv (3 : Int32), rv b1, iv (2 : Int32), .unset] []) tz
          refine XS.iload X5.here hx rfl (hb hby own_d18_14) rfl ?_
          show sT p e below T5 (mkF m 16 #[rv u0, iv (0 : Int32), iv (3 : Int32), rv b1, iv (2 : Int32), .unset] [(.int (2 : Int32))]) tz
          refine XS.iloadN X5.here hx rfl (hb hby own_d18_16) rfl ?_
          show sT p e below T5 (mkF m 17 #[rv u0, iv (0 : Int32), iv (3 : Int32), rv b1, iv (2 : Int32), .unset] [(.int (3 : Int32)), (.int (2 : Int32))]) tz
          refine XS.icmpNo X5.here hx rfl (hb hby own_d18_17) rfl (feq (by decide : ¬ ((2 : Int32) = (3 : Int32)))).1 ?_
          show sT p e below T5 (mkF m 20 #[rv u0, iv (0 : Int32), iv (3 : Int32), rv b1, iv (2 : Int32), .unset] []) tz
          refine XS.aloadN X5.here hx rfl (hb hby own_d18_20) rfl rfl ?_
          show sT p e below T5 (mkF m 21 #[rv u0, iv (0 : Int32), iv (3 : Int32), rv b1, iv (2 : Int32), .unset] [(.ref u0)]) tz
          refine XS.iloadN X5.here hx rfl (hb hby own_d18_21) rfl ?_
          show sT p e below T5 (mkF m 22 #[rv u0, iv (0 : Int32), iv (3 : Int32), rv b1, iv (2 : Int32), .unset] [(.int (0 : Int32)), (.ref u0)]) tz
          refine XS.iloadN X5.here hx rfl (hb hby own_d18_22) rfl ?_
          exact kz
        obtain ⟨_, _, ⟨T16, L16, k16, n16⟩, -, X16, ⟨Lc16, hQ16, l16, y16, z16⟩, st16⟩ := Jvm.LawKit.callS X5 hx (y := (⟨"java/lang/StringUTF16", "toBytes", "([CII)[B"⟩ : MethodName)) hown (mvT hZ (own_w hw 112 rfl)) (mvT hZ (own_w hw 113 rfl)) (mvT hZ (own_w hw 104 rfl)) (mvT hZ (own_w hw 114 rfl)) (by decide) (backOf (W := 0) (rm21c l Z a0 hw [] u0 kx x0 x1 x2 T5.heap n0 O6 S_as S_hi S_lo f_15) hZ (own_w hw 114 rfl) (own_w hw 104 rfl) (by decide) (by decide)) (g := (mkF m 23 #[rv u0, iv (0 : Int32), iv (3 : Int32), rv b1, iv (2 : Int32), .unset] [(.int (3 : Int32)), (.int (0 : Int32)), (.ref u0)])) rfl (by rw [hml]; rfl) (argsL := [(.ref u0), (.int (0 : Int32)), (.int (3 : Int32))]) (rest := []) (lenOf own_pd4 rfl) rfl (by show 2 * 0 + _ ≤ _; exact Nat.le_of_eq rfl) (hb hby own_d18_23) (fun _ _ => ⟨rfl, rfl, (by decide : 1 + 1 ≤ _), (by decide : 3 + 6 ≤ _)⟩)
        dsimp only [Pt.U, Pt.locs, Pt.cells, Pt.slots] at X16 l16 y16 z16 st16 hQ16
        subst l16 y16 z16
        obtain ⟨d16, kd16, rfl, Nq16, Kq16, zq16, Vq16⟩ := hQ16
        have N16 := Fr.app N5 Nq16
        have ne_u0_d16 : u0 ≠ d16 := Nat.ne_of_lt (Nat.lt_of_lt_of_le (f_15).lt zq16)
        have ne_b1_d16 : b1 ≠ d16 := Nat.ne_of_lt (Nat.lt_of_lt_of_le (Vq5).lt zq16)
        have g_d16 : n0 ≤ d16 := Nat.le_trans (own_old O6) zq16
        have sz_d16 : h0.size ≤ d16 := Nat.le_trans K6.1 zq16
        have O17 := O6.keep Kq16 all0
        have K17 : Keep h0 T16.heap [] := K6.trans Kq16 all0
        refine own_on (B := T16.setTop (mkF m 26 #[rv u0, iv (0 : Int32), iv (3 : Int32), rv b1, iv (2 : Int32), .unset] [(.ref d16)])) (fun tz kz => st16 _ kz) ?_
        refine own_on (B := T16.setTop (mkF m 32 #[rv u0, iv (0 : Int32), iv (3 : Int32), rv b1, iv (2 : Int32), rv d16] [(.int (2 : Int32)), (.ref d16)])) (fun tz kz => ?_) ?_
        · show sT p e below T16 (mkF m 26 #[rv u0, iv (0 : Int32), iv (3 : Int32), rv b1, iv (2 : Int32), .unset] [(.ref d16)]) tz
          refine XS.astore X16.here hx rfl (hb hby own_d18_26) rfl rfl (l' := #[rv u0, iv (0 : Int32), iv (3 : Int32), rv b1, iv (2 : Int32), rv d16]) rfl ?_
          show sT p e below T16 (mkF m 28 #[rv u0, iv (0 : Int32), iv (3 : Int32), rv b1, iv (2 : Int32), rv d16] []) tz
          refine XS.aload X16.here hx rfl (hb hby own_d18_28) rfl rfl ?_
          show sT p e below T16 (mkF m 30 #[rv u0, iv (0 : Int32), iv (3 : Int32), rv b1, iv (2 : Int32), rv d16] [(.ref d16)]) tz
          refine XS.iload X16.here hx rfl (hb hby own_d18_30) rfl ?_
          exact kz
        obtain ⟨_, _, ⟨T18, L18, k18, n18⟩, -, X18, ⟨Lc18, hQ18, l18, y18, z18⟩, st18⟩ := Jvm.LawKit.callS X16 hx (y := (⟨"java/lang/StringUTF16", "getChar", "([BI)C"⟩ : MethodName)) hown (mvT hZ (own_w hw 128 rfl)) (mvT hZ (own_w hw 129 rfl)) (mvT hZ (own_w hw 104 rfl)) (mvT hZ (own_w hw 130 rfl)) (by decide) (backOf (W := 0) (rm25c l Z a0 hw [] d16 kd16 (6 : Int32) [(.int (nar .byte ((x0 >>> ((0 : Int32) &&& 31)).toInt8.toInt32))), (.int (nar .byte ((x0 >>> ((8 : Int32) &&& 31)).toInt8.toInt32))), (.int (nar .byte ((x1 >>> ((0 : Int32) &&& 31)).toInt8.toInt32))), (.int (nar .byte ((x1 >>> ((8 : Int32) &&& 31)).toInt8.toInt32))), (.int (nar .byte ((x2 >>> ((0 : Int32) &&& 31)).toInt8.toInt32))), (.int (nar .byte ((x2 >>> ((8 : Int32) &&& 31)).toInt8.toInt32)))] (nar .byte ((x2 >>> ((0 : Int32) &&& 31)).toInt8.toInt32)) (nar .byte ((x2 >>> ((8 : Int32) &&& 31)).toInt8.toInt32)) x2 T16.heap n0 O17 S_as S_hi S_lo Vq16 (by decide) rfl rfl (own_chr x2 l2 u2_) (own_narC x2 l2 u2_)) hZ (own_w hw 130 rfl) (own_w hw 104 rfl) (by decide) (by decide)) (g := (mkF m 32 #[rv u0, iv (0 : Int32), iv (3 : Int32), rv b1, iv (2 : Int32), rv d16] [(.int (2 : Int32)), (.ref d16)])) rfl (by rw [hml]; rfl) (argsL := [(.ref d16), (.int (2 : Int32))]) (rest := []) (lenOf own_pd5 rfl) rfl (by show 2 * 0 + _ ≤ _; exact Nat.le_of_eq rfl) (hb hby own_d18_32) (fun _ _ => ⟨rfl, rfl, (by decide : 2 + 0 ≤ _), (by decide : 9 + 0 ≤ _)⟩)
        dsimp only [Pt.U, Pt.locs, Pt.cells, Pt.slots] at X18 l18 y18 z18 st18 hQ18
        subst l18 y18 z18
        obtain ⟨rfl, Nq18, e18⟩ := hQ18
        have N18 := Fr.app N16 Nq18
        refine own_on (B := T18.setTop (mkF m 35 #[rv u0, iv (0 : Int32), iv (3 : Int32), rv b1, iv (2 : Int32), rv d16] [(.int x2)])) (fun tz kz => st18 _ kz) ?_
        refine own_on (B := T18.setTop (mkF m 56 #[rv u0, iv (0 : Int32), iv (3 : Int32), rv b1, iv (2 : Int32), rv d16] [(.ref d16)])) (fun tz kz => ?_) ?_
        · show sT p e below T18 (mkF m 35 #[rv u0, iv (0 : Int32), iv (3 : Int32), rv b1, iv (2 : Int32), rv d16] [(.int x2)]) tz
          refine XS.sipush X18.here hx rfl (hb hby own_d18_35) ?_
          show sT p e below T18 (mkF m 38 #[rv u0, iv (0 : Int32), iv (3 : Int32), rv b1, iv (2 : Int32), rv d16] [(.int (255 : Int32)), (.int x2)]) tz
          refine XS.icmpYes X18.here hx rfl (pc0 := 38) (pc' := 54) rfl (hb hby own_d18_38) rfl (tlt hs2).2.2.1 (by decide) (by decide) ?_
          show sT p e below T18 (mkF m 54 #[rv u0, iv (0 : Int32), iv (3 : Int32), rv b1, iv (2 : Int32), rv d16] []) tz
          refine XS.aload X18.here hx rfl (hb hby own_d18_54) rfl rfl ?_
          exact kz
        obtain ⟨fs, hr, hrun, hended, hW, hsame⟩ := X18.leave (v := some (.ref d16)) (fun h => by rw [Bd.returns] at h; cases h)
        refine own_of ⟨_, _, ?_, hrun, hended, _, _, rfl, ?_, ⟨_, rfl⟩, hW, hsame.mono (by decide) (by decide)⟩
        · show sT p e below T18 (mkF m 56 #[rv u0, iv (0 : Int32), iv (3 : Int32), rv b1, iv (2 : Int32), rv d16] [(.ref d16)]) _
          exact own_retV X18 hx Bd.returns rfl rfl (hb hby own_d18_56) hr
        · show Q18c Z u0 kx x0 x1 x2 h0 n0 _ T18.heap _
          rw [e18]
          exact ⟨d16, (6 : Int32), 1, rfl, N18, K17, sz_d16, OwnArz.of Vq16, Or.inr ⟨rfl, rfl⟩⟩
      · rw [if_neg hs0, if_neg hs1, if_neg hs2]
        refine own_on (B := T5.setTop (mkF m 58 #[rv u0, iv (0 : Int32), iv (3 : Int32), rv b1, iv (3 : Int32), .unset] [(.ref b1)])) (fun tz kz => ?_) ?_
        · show sT p e below T5 (mkF m 12 #[rv u0, iv (0 : Int32), iv (3 : Int32), rv b1, .unset, .unset] [(.int (3 : Int32))]) tz
          refine XS.istore X5.here hx rfl (hb hby own_d18_12) rfl (l' := #[rv u0, iv (0 : Int32), iv (3 : Int32), rv b1, iv (3 : Int32), .unset]) rfl ?_
          show sT p e below T5 (mkF m 14 #[rv u0, iv (0 : Int32), iv (3 : Int32), rv b1, iv (3 : Int32), .unset] []) tz
          refine XS.iload X5.here hx rfl (hb hby own_d18_14) rfl ?_
          show sT p e below T5 (mkF m 16 #[rv u0, iv (0 : Int32), iv (3 : Int32), rv b1, iv (3 : Int32), .unset] [(.int (3 : Int32))]) tz
          refine XS.iloadN X5.here hx rfl (hb hby own_d18_16) rfl ?_
          show sT p e below T5 (mkF m 17 #[rv u0, iv (0 : Int32), iv (3 : Int32), rv b1, iv (3 : Int32), .unset] [(.int (3 : Int32)), (.int (3 : Int32))]) tz
          refine XS.icmpYes X5.here hx rfl (pc0 := 17) (pc' := 57) rfl (hb hby own_d18_17) rfl (teq rfl).1 (by decide) (by decide) ?_
          show sT p e below T5 (mkF m 57 #[rv u0, iv (0 : Int32), iv (3 : Int32), rv b1, iv (3 : Int32), .unset] []) tz
          refine XS.aloadN X5.here hx rfl (hb hby own_d18_57) rfl rfl ?_
          exact kz
        obtain ⟨fs, hr, hrun, hended, hW, hsame⟩ := X5.leave (v := some (.ref b1)) (fun h => by rw [Bd.returns] at h; cases h)
        refine own_of ⟨_, _, ?_, hrun, hended, _, _, rfl, ?_, ⟨_, rfl⟩, hW, hsame.mono (by decide) (by decide)⟩
        · show sT p e below T5 (mkF m 58 #[rv u0, iv (0 : Int32), iv (3 : Int32), rv b1, iv (3 : Int32), .unset] [(.ref b1)]) _
          exact own_retV X5 hx Bd.returns rfl rfl (hb hby own_d18_58) hr
        · show Q18c Z u0 kx x0 x1 x2 h0 n0 _ T5.heap _
          exact ⟨b1, (3 : Int32), 0, rfl, N5, K6, sz_b1, Vq5, Or.inl ⟨rfl, rfl⟩⟩
theorem own_ef_23d (m : MethodId) (x0 : Int32) : entryFrame m #[(.int x0)] 1 = mkF m 0 #[iv x0] [] := by first | (simp [entryFrame, mkF, argsToLocals, Value.category]; done) | rfl
def Q23d (Z : State)  (h0 : Heap) (n0 : Nat) (v : Option Value) (h : Heap) (L : List Loc) : Prop := v = some (.int (8 : Int32)) ∧ Fr n0 L ∧ h = h0
set_option maxRecDepth 65536 in
set_option maxHeartbeats 40000000 in
theorem rm23d (l : Launch) (Z : State) (a0 : Array Value) (hw : ∀ d ∈ tables_1, d.before a0 Z = true) (ws : List Jvm.Cond)  (h0 : Heap) (n0 : Nat) (O0 : Old Z n0 h0) :
    MetFree l (⟨"java/lang/StringUTF16", "newBytesLength", "(I)I"⟩ : MethodName) (head1 (Jvm.Cond.code (⟨"java/lang/StringUTF16", "newBytesLength", "(I)I"⟩ : MethodName) jdk_52_method_3_code 1 (some .int) :: ws) ({ frames := 0, cells := 0, slots := 0, locals := 0 } : Room)) (fun a U => a = #[(.int (4 : Int32))] ∧ Z.Warmed39 U.vm ∧ U.heap = h0) (fun _ _ _ _ _ => True) (fun _ U o U' => ∃ v L, o = .returned v ∧ Q23d Z  h0 n0 v U'.heap L ∧ FrameEnd U o U' L ({ frames := 0, cells := 0, slots := 0, locals := 0 } : Room).cells ({ frames := 0, cells := 0, slots := 0, locals := 0 } : Room).slots) := by
  refine MetFree.of_bodySF (plainFor_of_name own_pn_java_lang_StringUTF16) hisR ?_
  intro p e s m args below meth c s₁ Bd hml0 hP hK
  obtain ⟨rfl, hZ, hh⟩ := hP
  have hx := Bd.exec
  have hby := Bd.bytes
  have hml : c.maxLocals = 1 := hml0
  have hown : s.vm.findClass "java/lang/StringUTF16" = some m.cls := findClass_of_methodNamed Bd.named
  have hnm := (name_of_methodNamed Bd.named Bd.method).1
  have X0 : Stand p l e ({ frames := 0, cells := 0, slots := 0, locals := 0 } : Room) s m #[(.int (4 : Int32))] below meth c s₁ [] 0 0 := Stand.of_body Bd
  have e0 : s₁.heap = h0 := by rw [← hh, Bd.state]; rfl
  have N0 := Fr.nil n0
  change Go p.tables e below _ _
  refine own_on (B := s₁.setTop (mkF m 0 #[iv (4 : Int32)] [])) (fun tz kz => castTop (own_ef_23d m (4 : Int32)) kz) ?_
  refine own_on (B := s₁.setTop (mkF m 58 #[iv (4 : Int32)] [(.int (8 : Int32))])) (fun tz kz => ?_) ?_
  · show sT p e below s₁ (mkF m 0 #[iv (4 : Int32)] []) tz
    refine XS.iloadN X0.here hx rfl (hb hby own_d23_0) rfl ?_
    show sT p e below s₁ (mkF m 1 #[iv (4 : Int32)] [(.int (4 : Int32))]) tz
    refine XS.ifYes X0.here hx rfl (pc0 := 1) (pc' := 12) rfl (hb hby own_d23_1) rfl ((if0 _ _).trans (flt (by decide : ¬ ((4 : Int32) < (0 : Int32)))).2.1) (by decide) (by decide) ?_
    show sT p e below s₁ (mkF m 12 #[iv (4 : Int32)] []) tz
    refine XS.iloadN X0.here hx rfl (hb hby own_d23_12) rfl ?_
    show sT p e below s₁ (mkF m 13 #[iv (4 : Int32)] [(.int (4 : Int32))]) tz
    refine X0.ldcInt hx hown (mvT hZ (own_w hw 121 rfl)) (g := (mkF m 13 #[iv (4 : Int32)] [(.int (4 : Int32))])) rfl (hb hby own_d23_13) _ ?_
    show sT p e below s₁ (mkF m 15 #[iv (4 : Int32)] [(.int (1073741823 : Int32)), (.int (4 : Int32))]) tz
    refine XS.icmpYes X0.here hx rfl (pc0 := 15) (pc' := 55) rfl (hb hby own_d23_15) rfl (tlt (by decide : (4 : Int32) < (1073741823 : Int32))).1 (by decide) (by decide) ?_
    show sT p e below s₁ (mkF m 55 #[iv (4 : Int32)] []) tz
    refine XS.iloadN X0.here hx rfl (hb hby own_d23_55) rfl ?_
    show sT p e below s₁ (mkF m 56 #[iv (4 : Int32)] [(.int (4 : Int32))]) tz
    refine XS.iconst X0.here hx rfl (hb hby own_d23_56) ?_
    show sT p e below s₁ (mkF m 57 #[iv (4 : Int32)] [(.int (1 : Int32)), (.int (4 : Int32))]) tz
    refine XS.ishl X0.here hx rfl (hb hby own_d23_57) rfl ?_
    exact kz
  obtain ⟨fs, hr, hrun, hended, hW, hsame⟩ := X0.leave (v := some (.int (8 : Int32))) (fun h => by rw [Bd.returns] at h; cases h)
  refine own_of ⟨_, _, ?_, hrun, hended, _, _, rfl, ?_, ⟨_, rfl⟩, hW, hsame.mono (by decide) (by decide)⟩
  · show sT p e below s₁ (mkF m 58 #[iv (4 : Int32)] [(.int (8 : Int32))]) _
    exact own_retI X0 hx Bd.returns (hb hby own_d23_58) hr
  · show Q23d Z  h0 n0 _ s₁.heap _
    rw [e0]
    exact ⟨rfl, N0, rfl⟩
theorem own_ef_22d (m : MethodId) (x0 : Int32) : entryFrame m #[(.int x0)] 1 = mkF m 0 #[iv x0] [] := by first | (simp [entryFrame, mkF, argsToLocals, Value.category]; done) | rfl
def Q22d (Z : State)  (h0 : Heap) (n0 : Nat) (v : Option Value) (h : Heap) (L : List Loc) : Prop := ∃ (d : Addr) (kk : ClassId), v = some (.ref d) ∧ Fr n0 L ∧ Keep h0 h [] ∧ h0.size ≤ d ∧ Arv Z h d kk .byte (8 : Int32) [(.int (0 : Int32)), (.int (0 : Int32)), (.int (0 : Int32)), (.int (0 : Int32)), (.int (0 : Int32)), (.int (0 : Int32)), (.int (0 : Int32)), (.int (0 : Int32))] (.int 0)
set_option maxRecDepth 65536 in
set_option maxHeartbeats 40000000 in
theorem rm22d (l : Launch) (Z : State) (a0 : Array Value) (hw : ∀ d ∈ tables_1, d.before a0 Z = true) (ws : List Jvm.Cond)  (h0 : Heap) (n0 : Nat) (O0 : Old Z n0 h0) :
    MetFree l (⟨"java/lang/StringUTF16", "newBytesFor", "(I)[B"⟩ : MethodName) (head1 (Jvm.Cond.code (⟨"java/lang/StringUTF16", "newBytesFor", "(I)[B"⟩ : MethodName) jdk_52_method_2_code 1 (some (.array .byte)) :: ws) ({ frames := 1, cells := 1, slots := 8, locals := 12 } : Room)) (fun a U => a = #[(.int (4 : Int32))] ∧ Z.Warmed39 U.vm ∧ U.heap = h0) (fun _ _ _ _ _ => True) (fun _ U o U' => ∃ v L, o = .returned v ∧ Q22d Z  h0 n0 v U'.heap L ∧ FrameEnd U o U' L ({ frames := 1, cells := 1, slots := 8, locals := 12 } : Room).cells ({ frames := 1, cells := 1, slots := 8, locals := 12 } : Room).slots) := by
  refine MetFree.of_bodySF (plainFor_of_name own_pn_java_lang_StringUTF16) hisR ?_
  intro p e s m args below meth c s₁ Bd hml0 hP hK
  obtain ⟨rfl, hZ, hh⟩ := hP
  have hx := Bd.exec
  have hby := Bd.bytes
  have hml : c.maxLocals = 1 := hml0
  have hown : s.vm.findClass "java/lang/StringUTF16" = some m.cls := findClass_of_methodNamed Bd.named
  have hnm := (name_of_methodNamed Bd.named Bd.method).1
  have X0 : Stand p l e ({ frames := 1, cells := 1, slots := 8, locals := 12 } : Room) s m #[(.int (4 : Int32))] below meth c s₁ [] 0 0 := Stand.of_body Bd
  have e0 : s₁.heap = h0 := by rw [← hh, Bd.state]; rfl
  have N0 := Fr.nil n0
  change Go p.tables e below _ _
  refine own_on (B := s₁.setTop (mkF m 0 #[iv (4 : Int32)] [])) (fun tz kz => castTop (own_ef_22d m (4 : Int32)) kz) ?_
  refine own_on (B := s₁.setTop (mkF m 1 #[iv (4 : Int32)] [(.int (4 : Int32))])) (fun tz kz => ?_) ?_
  · show sT p e below s₁ (mkF m 0 #[iv (4 : Int32)] []) tz
    refine XS.iloadN X0.here hx rfl (hb hby own_d22_0) rfl ?_
    exact kz
  obtain ⟨_, _, ⟨T1, L1, k1, n1⟩, -, X1, ⟨Lc1, hQ1, l1, y1, z1⟩, st1⟩ := Jvm.LawKit.callS X0 hx (y := (⟨"java/lang/StringUTF16", "newBytesLength", "(I)I"⟩ : MethodName)) hown (mvT hZ (own_w hw 118 rfl)) (mvT hZ (own_w hw 119 rfl)) (mvT hZ (own_w hw 104 rfl)) (mvT hZ (own_w hw 120 rfl)) (by decide) (backOf (W := 0) (rm23d l Z a0 hw []   h0 n0 O0 ) hZ (own_w hw 120 rfl) (own_w hw 104 rfl) (by decide) (by decide)) (g := (mkF m 1 #[iv (4 : Int32)] [(.int (4 : Int32))])) rfl (by rw [hml]; rfl) (argsL := [(.int (4 : Int32))]) (rest := []) (lenOf own_pd0 rfl) rfl (by show 2 * 0 + _ ≤ _; exact Nat.le_of_eq rfl) (hb hby own_d22_1) (fun _ _ => ⟨rfl, e0, (by decide : 0 + 0 ≤ _), (by decide : 0 + 0 ≤ _)⟩)
  dsimp only [Pt.U, Pt.locs, Pt.cells, Pt.slots] at X1 l1 y1 z1 st1 hQ1
  subst l1 y1 z1
  obtain ⟨rfl, Nq1, e1⟩ := hQ1
  have N1 := Fr.app N0 Nq1
  refine own_on (B := T1.setTop (mkF m 4 #[iv (4 : Int32)] [(.int (8 : Int32))])) (fun tz kz => st1 _ kz) ?_
  obtain ⟨T2, h2, k2, X2, e2, E2, A2, st2⟩ := newP X1 hx hZ (own_w hw 21 rfl) e1 (g := (mkF m 4 #[iv (4 : Int32)] [(.int (8 : Int32))])) rfl (hb hby own_d22_4) rfl (by decide) (cap := 8) (by decide) (by decide) (by decide) (by decide)
  obtain ⟨b2, g2⟩ : ∃ z, z = h0.size := ⟨_, rfl⟩
  rw [← g2] at A2 st2
  have g_b2 : n0 ≤ b2 := Nat.le_trans (own_old O0) (Nat.le_of_eq g2.symm)
  have sz_b2 : h0.size ≤ b2 := Nat.le_trans (Keep.refl h0 []).1 (Nat.le_of_eq g2.symm)
  have O3 := O0.ext E2
  have K3 : Keep h0 h2 [] := (Keep.refl h0 []).ext E2
  have V2 : Arv Z h2 b2 k2 .byte (8 : Int32) [(.int (0 : Int32)), (.int (0 : Int32)), (.int (0 : Int32)), (.int (0 : Int32)), (.int (0 : Int32)), (.int (0 : Int32)), (.int (0 : Int32)), (.int (0 : Int32))] (.int (0 : Int32)) := (Arv.new A2 (by decide)).pad (pad_rep [] (.int (0 : Int32)) 8)
  refine own_on (B := T2.setTop (mkF m 6 #[iv (4 : Int32)] [(.ref b2)])) (fun tz kz => st2 _ kz) ?_
  obtain ⟨fs, hr, hrun, hended, hW, hsame⟩ := X2.leave (v := some (.ref b2)) (fun h => by rw [Bd.returns] at h; cases h)
  refine own_of ⟨_, _, ?_, hrun, hended, _, _, rfl, ?_, ⟨_, rfl⟩, hW, hsame.mono (by decide) (by decide)⟩
  · show sT p e below T2 (mkF m 6 #[iv (4 : Int32)] [(.ref b2)]) _
    exact own_retV X2 hx Bd.returns rfl rfl (hb hby own_d22_6) hr
  · show Q22d Z  h0 n0 _ T2.heap _
    rw [e2]
    exact ⟨b2, k2, rfl, N1, K3, sz_b2, V2⟩
theorem own_ef_21d (m : MethodId) (x0 : Addr) (x1 : Int32) (x2 : Int32) : entryFrame m #[(.ref x0), (.int x1), (.int x2)] 5 = mkF m 0 #[rv x0, iv x1, iv x2, .unset, .unset] [] := by first | (simp [entryFrame, mkF, argsToLocals, Value.category]; done) | rfl
def Q21d (Z : State) (u0 : Addr) (kx : ClassId) (x0 : Int32) (x1 : Int32) (x2 : Int32) (x3 : Int32) (h0 : Heap) (n0 : Nat) (v : Option Value) (h : Heap) (L : List Loc) : Prop := ∃ (d : Addr) (kk : ClassId), v = some (.ref d) ∧ Fr n0 L ∧ Keep h0 h [] ∧ h0.size ≤ d ∧ Arv Z h d kk .byte (8 : Int32) [(.int (nar .byte ((x0 >>> ((0 : Int32) &&& 31)).toInt8.toInt32))), (.int (nar .byte ((x0 >>> ((8 : Int32) &&& 31)).toInt8.toInt32))), (.int (nar .byte ((x1 >>> ((0 : Int32) &&& 31)).toInt8.toInt32))), (.int (nar .byte ((x1 >>> ((8 : Int32) &&& 31)).toInt8.toInt32))), (.int (nar .byte ((x2 >>> ((0 : Int32) &&& 31)).toInt8.toInt32))), (.int (nar .byte ((x2 >>> ((8 : Int32) &&& 31)).toInt8.toInt32))), (.int (nar .byte ((x3 >>> ((0 : Int32) &&& 31)).toInt8.toInt32))), (.int (nar .byte ((x3 >>> ((8 : Int32) &&& 31)).toInt8.toInt32)))] (.int 0)
set_option maxRecDepth 65536 in
set_option maxHeartbeats 40000000 in
theorem rm21d (l : Launch) (Z : State) (a0 : Array Value) (hw : ∀ d ∈ tables_1, d.before a0 Z = true) (ws : List Jvm.Cond) (u0 : Addr) (kx : ClassId) (x0 : Int32) (x1 : Int32) (x2 : Int32) (x3 : Int32) (h0 : Heap) (n0 : Nat) (O0 : Old Z n0 h0) (S_as : Sta Z Z.heap "java/lang/StringUTF16" "$assertionsDisabled" "Z" (.int 1)) (S_hi : Sta Z Z.heap "java/lang/StringUTF16" "HI_BYTE_SHIFT" "I" (.int 0)) (S_lo : Sta Z Z.heap "java/lang/StringUTF16" "LO_BYTE_SHIFT" "I" (.int 8)) (Vc : Arv Z h0 u0 kx .char (4 : Int32) [(.int x0), (.int x1), (.int x2), (.int x3)] (.int 0)) :
    MetFree l (⟨"java/lang/StringUTF16", "toBytes", "([CII)[B"⟩ : MethodName) (head1 (Jvm.Cond.code (⟨"java/lang/StringUTF16", "toBytes", "([CII)[B"⟩ : MethodName) jdk_52_method_14_code 5 (some (.array .byte)) :: ws) ({ frames := 2, cells := 1, slots := 8, locals := 24 } : Room)) (fun a U => a = #[(.ref u0), (.int (0 : Int32)), (.int (4 : Int32))] ∧ Z.Warmed39 U.vm ∧ U.heap = h0) (fun _ _ _ _ _ => True) (fun _ U o U' => ∃ v L, o = .returned v ∧ Q21d Z u0 kx x0 x1 x2 x3 h0 n0 v U'.heap L ∧ FrameEnd U o U' L ({ frames := 2, cells := 1, slots := 8, locals := 24 } : Room).cells ({ frames := 2, cells := 1, slots := 8, locals := 24 } : Room).slots) := by
  refine MetFree.of_bodySF (plainFor_of_name own_pn_java_lang_StringUTF16) hisR ?_
  intro p e s m args below meth c s₁ Bd hml0 hP hK
  obtain ⟨rfl, hZ, hh⟩ := hP
  have hx := Bd.exec
  have hby := Bd.bytes
  have hml : c.maxLocals = 5 := hml0
  have hown : s.vm.findClass "java/lang/StringUTF16" = some m.cls := findClass_of_methodNamed Bd.named
  have hnm := (name_of_methodNamed Bd.named Bd.method).1
  have X0 : Stand p l e ({ frames := 2, cells := 1, slots := 8, locals := 24 } : Room) s m #[(.ref u0), (.int (0 : Int32)), (.int (4 : Int32))] below meth c s₁ [] 0 0 := Stand.of_body Bd
  have e0 : s₁.heap = h0 := by rw [← hh, Bd.state]; rfl
  have N0 := Fr.nil n0
  change Go p.tables e below _ _
  refine own_on (B := s₁.setTop (mkF m 0 #[rv u0, iv (0 : Int32), iv (4 : Int32), .unset, .unset] [])) (fun tz kz => castTop (own_ef_21d m u0 (0 : Int32) (4 : Int32)) kz) ?_
  refine own_on (B := s₁.setTop (mkF m 1 #[rv u0, iv (0 : Int32), iv (4 : Int32), .unset, .unset] [(.int (4 : Int32))])) (fun tz kz => ?_) ?_
  · show sT p e below s₁ (mkF m 0 #[rv u0, iv (0 : Int32), iv (4 : Int32), .unset, .unset] []) tz
    refine XS.iloadN X0.here hx rfl (hb hby own_d21_0) rfl ?_
    exact kz
  obtain ⟨_, _, ⟨T1, L1, k1, n1⟩, -, X1, ⟨Lc1, hQ1, l1, y1, z1⟩, st1⟩ := Jvm.LawKit.callS X0 hx (y := (⟨"java/lang/StringUTF16", "newBytesFor", "(I)[B"⟩ : MethodName)) hown (mvT hZ (own_w hw 115 rfl)) (mvT hZ (own_w hw 116 rfl)) (mvT hZ (own_w hw 104 rfl)) (mvT hZ (own_w hw 117 rfl)) (by decide) (backOf (W := 0) (rm22d l Z a0 hw []   h0 n0 O0 ) hZ (own_w hw 117 rfl) (own_w hw 104 rfl) (by decide) (by decide)) (g := (mkF m 1 #[rv u0, iv (0 : Int32), iv (4 : Int32), .unset, .unset] [(.int (4 : Int32))])) rfl (by rw [hml]; rfl) (argsL := [(.int (4 : Int32))]) (rest := []) (lenOf own_pd1 rfl) rfl (by show 2 * 0 + _ ≤ _; exact Nat.le_of_eq rfl) (hb hby own_d21_1) (fun _ _ => ⟨rfl, e0, (by decide : 0 + 1 ≤ _), (by decide : 0 + 8 ≤ _)⟩)
  dsimp only [Pt.U, Pt.locs, Pt.cells, Pt.slots] at X1 l1 y1 z1 st1 hQ1
  subst l1 y1 z1
  obtain ⟨d1, kd1, rfl, Nq1, Kq1, zq1, Vq1⟩ := hQ1
  have N1 := Fr.app N0 Nq1
  have ne_u0_d1 : u0 ≠ d1 := Nat.ne_of_lt (Nat.lt_of_lt_of_le (Vc).lt zq1)
  have g_d1 : n0 ≤ d1 := Nat.le_trans (own_old O0) zq1
  have sz_d1 : h0.size ≤ d1 := Nat.le_trans (Keep.refl h0 []).1 zq1
  have O2 := O0.keep Kq1 all0
  have K2 : Keep h0 T1.heap [] := (Keep.refl h0 []).trans Kq1 all0
  refine own_on (B := T1.setTop (mkF m 4 #[rv u0, iv (0 : Int32), iv (4 : Int32), .unset, .unset] [(.ref d1)])) (fun tz kz => st1 _ kz) ?_
  refine own_on (B := T1.setTop (mkF m 19 #[rv u0, iv (0 : Int32), iv (4 : Int32), rv d1, iv (0 : Int32)] [(.int (0 : Int32)), (.ref u0), (.int (0 : Int32)), (.ref d1)])) (fun tz kz => ?_) ?_
  · show sT p e below T1 (mkF m 4 #[rv u0, iv (0 : Int32), iv (4 : Int32), .unset, .unset] [(.ref d1)]) tz
    refine XS.astoreN X1.here hx rfl (hb hby own_d21_4) rfl rfl (l' := #[rv u0, iv (0 : Int32), iv (4 : Int32), rv d1, .unset]) rfl ?_
    show sT p e below T1 (mkF m 5 #[rv u0, iv (0 : Int32), iv (4 : Int32), rv d1, .unset] []) tz
    refine XS.iconst X1.here hx rfl (hb hby own_d21_5) ?_
    show sT p e below T1 (mkF m 6 #[rv u0, iv (0 : Int32), iv (4 : Int32), rv d1, .unset] [(.int (0 : Int32))]) tz
    refine XS.istore X1.here hx rfl (hb hby own_d21_6) rfl (l' := #[rv u0, iv (0 : Int32), iv (4 : Int32), rv d1, iv (0 : Int32)]) rfl ?_
    show sT p e below T1 (mkF m 8 #[rv u0, iv (0 : Int32), iv (4 : Int32), rv d1, iv (0 : Int32)] []) tz
    refine XS.iload X1.here hx rfl (hb hby own_d21_8) rfl ?_
    show sT p e below T1 (mkF m 10 #[rv u0, iv (0 : Int32), iv (4 : Int32), rv d1, iv (0 : Int32)] [(.int (0 : Int32))]) tz
    refine XS.iloadN X1.here hx rfl (hb hby own_d21_10) rfl ?_
    show sT p e below T1 (mkF m 11 #[rv u0, iv (0 : Int32), iv (4 : Int32), rv d1, iv (0 : Int32)] [(.int (4 : Int32)), (.int (0 : Int32))]) tz
    refine XS.icmpNo X1.here hx rfl (hb hby own_d21_11) rfl (tlt (by decide : (0 : Int32) < (4 : Int32))).2.1 ?_
    show sT p e below T1 (mkF m 14 #[rv u0, iv (0 : Int32), iv (4 : Int32), rv d1, iv (0 : Int32)] []) tz
    refine XS.aloadN X1.here hx rfl (hb hby own_d21_14) rfl rfl ?_
    show sT p e below T1 (mkF m 15 #[rv u0, iv (0 : Int32), iv (4 : Int32), rv d1, iv (0 : Int32)] [(.ref d1)]) tz
    refine XS.iload X1.here hx rfl (hb hby own_d21_15) rfl ?_
    show sT p e below T1 (mkF m 17 #[rv u0, iv (0 : Int32), iv (4 : Int32), rv d1, iv (0 : Int32)] [(.int (0 : Int32)), (.ref d1)]) tz
    refine XS.aloadN X1.here hx rfl (hb hby own_d21_17) rfl rfl ?_
    show sT p e below T1 (mkF m 18 #[rv u0, iv (0 : Int32), iv (4 : Int32), rv d1, iv (0 : Int32)] [(.ref u0), (.int (0 : Int32)), (.ref d1)]) tz
    refine XS.iloadN X1.here hx rfl (hb hby own_d21_18) rfl ?_
    exact kz
  have f_3 := (Vc.keep Kq1 nin0)
  obtain ⟨cl4, Ar4, q4, S4, M4, H4, G4⟩ := id f_3
  have hin5 : ¬ ((0 : Int32) < 0 ∨ cl4.slots.size ≤ ((0 : Int32)).toNatClampNeg) := inb_of S4 ⟨by decide, by decide⟩
  have hat5 : cl4.slots[((0 : Int32)).toNatClampNeg]? = some (.int x0) := Has.at H4 hin5 rfl
  refine own_on (B := T1.setTop (mkF m 20 #[rv u0, iv (0 : Int32), iv (4 : Int32), rv d1, iv (0 : Int32)] [(.int x0), (.int (0 : Int32)), (.ref d1)])) (fun tz kz => ?_) ?_
  · show sT p e below T1 (mkF m 19 #[rv u0, iv (0 : Int32), iv (4 : Int32), rv d1, iv (0 : Int32)] [(.int (0 : Int32)), (.ref u0), (.int (0 : Int32)), (.ref d1)]) tz
    refine X1.caload hx (j := (0 : Int32)) (v := (.int x0)) (Ar4.1) (State.isArrayOf_alike hZ.alike Ar4.2.1) Ar4.2.2 hin5 hat5 (g := (mkF m 19 #[rv u0, iv (0 : Int32), iv (4 : Int32), rv d1, iv (0 : Int32)] [(.int (0 : Int32)), (.ref u0), (.int (0 : Int32)), (.ref d1)])) rfl rfl (hb hby own_d21_19) _ ?_
    exact kz
  obtain ⟨_, _, ⟨T6, L6, k6, n6⟩, -, X6, ⟨Lc6, hQ6, l6, y6, z6⟩, st6⟩ := Jvm.LawKit.callS X1 hx (y := (⟨"java/lang/StringUTF16", "putChar", "([BII)V"⟩ : MethodName)) hown (mvT hZ (own_w hw 122 rfl)) (mvT hZ (own_w hw 123 rfl)) (mvT hZ (own_w hw 104 rfl)) (mvT hZ (own_w hw 124 rfl)) (by decide) (backOf (W := 0) (rm24a l Z a0 hw [] d1 x0 kd1 (8 : Int32) [(.int (0 : Int32)), (.int (0 : Int32)), (.int (0 : Int32)), (.int (0 : Int32)), (.int (0 : Int32)), (.int (0 : Int32)), (.int (0 : Int32)), (.int (0 : Int32))] T1.heap n0 O2 S_as S_hi S_lo Vq1 g_d1 (by decide) (Nat.le_of_ble_eq_true rfl)) hZ (own_w hw 124 rfl) (own_w hw 104 rfl) (by decide) (by decide)) (g := (mkF m 20 #[rv u0, iv (0 : Int32), iv (4 : Int32), rv d1, iv (0 : Int32)] [(.int x0), (.int (0 : Int32)), (.ref d1)])) rfl (by rw [hml]; rfl) (argsL := [(.ref d1), (.int (0 : Int32)), (.int x0)]) (rest := []) (lenOf own_pd2 rfl) rfl (by show 2 * 0 + _ ≤ _; exact Nat.le_of_eq rfl) (hb hby own_d21_20) (fun _ _ => ⟨rfl, rfl, (by decide : 1 + 0 ≤ _), (by decide : 8 + 0 ≤ _)⟩)
  dsimp only [Pt.U, Pt.locs, Pt.cells, Pt.slots] at X6 l6 y6 z6 st6 hQ6
  subst l6 y6 z6
  obtain ⟨rfl, Nq6, Kq6, Vq6⟩ := hQ6
  have N6 := Fr.app N1 Nq6
  have O7 := O2.keep Kq6 (allS g_d1 all0)
  have K7 : Keep h0 T6.heap [] := K2.trans Kq6 (allS (Or.inr sz_d1) all0)
  refine own_on (B := T6.setTop (mkF m 23 #[rv u0, iv (0 : Int32), iv (4 : Int32), rv d1, iv (0 : Int32)] [])) (fun tz kz => st6 _ kz) ?_
  have Vl6 : Arv Z T6.heap d1 kd1 .byte (8 : Int32) [(.int (nar .byte ((x0 >>> ((0 : Int32) &&& 31)).toInt8.toInt32))), (.int (nar .byte ((x0 >>> ((8 : Int32) &&& 31)).toInt8.toInt32))), (.int (0 : Int32)), (.int (0 : Int32)), (.int (0 : Int32)), (.int (0 : Int32)), (.int (0 : Int32)), (.int (0 : Int32))] (.int 0) := Vq6
  refine own_on (B := T6.setTop (mkF m 19 #[rv u0, iv (1 : Int32), iv (4 : Int32), rv d1, iv (1 : Int32)] [(.int (1 : Int32)), (.ref u0), (.int (1 : Int32)), (.ref d1)])) (fun tz kz => ?_) ?_
  · show sT p e below T6 (mkF m 23 #[rv u0, iv (0 : Int32), iv (4 : Int32), rv d1, iv (0 : Int32)] []) tz
    refine XS.iinc X6.here hx rfl (hb hby own_d21_23) rfl (l' := #[rv u0, iv (1 : Int32), iv (4 : Int32), rv d1, iv (0 : Int32)]) rfl ?_
    show sT p e below T6 (mkF m 26 #[rv u0, iv (1 : Int32), iv (4 : Int32), rv d1, iv (0 : Int32)] []) tz
    refine XS.iinc X6.here hx rfl (hb hby own_d21_26) rfl (l' := #[rv u0, iv (1 : Int32), iv (4 : Int32), rv d1, iv (1 : Int32)]) rfl ?_
    show sT p e below T6 (mkF m 29 #[rv u0, iv (1 : Int32), iv (4 : Int32), rv d1, iv (1 : Int32)] []) tz
    refine XS.goto X6.here hx rfl (pc0 := 29) (pc' := 8) rfl (hb hby own_d21_29) (by decide) (by decide) ?_
    show sT p e below T6 (mkF m 8 #[rv u0, iv (1 : Int32), iv (4 : Int32), rv d1, iv (1 : Int32)] []) tz
    refine XS.iload X6.here hx rfl (hb hby own_d21_8) rfl ?_
    show sT p e below T6 (mkF m 10 #[rv u0, iv (1 : Int32), iv (4 : Int32), rv d1, iv (1 : Int32)] [(.int (1 : Int32))]) tz
    refine XS.iloadN X6.here hx rfl (hb hby own_d21_10) rfl ?_
    show sT p e below T6 (mkF m 11 #[rv u0, iv (1 : Int32), iv (4 : Int32), rv d1, iv (1 : Int32)] [(.int (4 : Int32)), (.int (1 : Int32))]) tz
    refine XS.icmpNo X6.here hx rfl (hb hby own_d21_11) rfl (tlt (by decide : (1 : Int32) < (4 : Int32))).2.1 ?_
    show sT p e below T6 (mkF m 14 #[rv u0, iv (1 : Int32), iv (4 : Int32), rv d1, iv (1 : Int32)] []) tz
    refine XS.aloadN X6.here hx rfl (hb hby own_d21_14) rfl rfl ?_
    show sT p e below T6 (mkF m 15 #[rv u0, iv (1 : Int32), iv (4 : Int32), rv d1, iv (1 : Int32)] [(.ref d1)]) tz
    refine XS.iload X6.here hx rfl (hb hby own_d21_15) rfl ?_
    show sT p e below T6 (mkF m 17 #[rv u0, iv (1 : Int32), iv (4 : Int32), rv d1, iv (1 : Int32)] [(.int (1 : Int32)), (.ref d1)]) tz
    refine XS.aloadN X6.here hx rfl (hb hby own_d21_17) rfl rfl ?_
    show sT p e below T6 (mkF m 18 #[rv u0, iv (1 : Int32), iv (4 : Int32), rv d1, iv (1 : Int32)] [(.ref u0), (.int (1 : Int32)), (.ref d1)]) tz
    refine XS.iloadN X6.here hx rfl (hb hby own_d21_18) rfl ?_
    exact kz
  have f_8 := (f_3.keep Kq6 (ninS ne_u0_d1 nin0))
  obtain ⟨cl9, Ar9, q9, S9, M9, H9, G9⟩ := id f_8
  have hin10 : ¬ ((1 : Int32) < 0 ∨ cl9.slots.size ≤ ((1 : Int32)).toNatClampNeg) := inb_of S9 ⟨by decide, by decide⟩
  have hat10 : cl9.slots[((1 : Int32)).toNatClampNeg]? = some (.int x1) := Has.at H9 hin10 rfl
  refine own_on (B := T6.setTop (mkF m 20 #[rv u0, iv (1 : Int32), iv (4 : Int32), rv d1, iv (1 : Int32)] [(.int x1), (.int (1 : Int32)), (.ref d1)])) (fun tz kz => ?_) ?_
  · show sT p e below T6 (mkF m 19 #[rv u0, iv (1 : Int32), iv (4 : Int32), rv d1, iv (1 : Int32)] [(.int (1 : Int32)), (.ref u0), (.int (1 : Int32)), (.ref d1)]) tz
    refine X6.caload hx (j := (1 : Int32)) (v := (.int x1)) (Ar9.1) (State.isArrayOf_alike hZ.alike Ar9.2.1) Ar9.2.2 hin10 hat10 (g := (mkF m 19 #[rv u0, iv (1 : Int32), iv (4 : Int32), rv d1, iv (1 : Int32)] [(.int (1 : Int32)), (.ref u0), (.int (1 : Int32)), (.ref d1)])) rfl rfl (hb hby own_d21_19) _ ?_
    exact kz
  obtain ⟨_, _, ⟨T11, L11, k11, n11⟩, -, X11, ⟨Lc11, hQ11, l11, y11, z11⟩, st11⟩ := Jvm.LawKit.callS X6 hx (y := (⟨"java/lang/StringUTF16", "putChar", "([BII)V"⟩ : MethodName)) hown (mvT hZ (own_w hw 122 rfl)) (mvT hZ (own_w hw 123 rfl)) (mvT hZ (own_w hw 104 rfl)) (mvT hZ (own_w hw 124 rfl)) (by decide) (backOf (W := 0) (rm24b l Z a0 hw [] d1 x1 kd1 (8 : Int32) [(.int (nar .byte ((x0 >>> ((0 : Int32) &&& 31)).toInt8.toInt32))), (.int (nar .byte ((x0 >>> ((8 : Int32) &&& 31)).toInt8.toInt32))), (.int (0 : Int32)), (.int (0 : Int32)), (.int (0 : Int32)), (.int (0 : Int32)), (.int (0 : Int32)), (.int (0 : Int32))] T6.heap n0 O7 S_as S_hi S_lo Vl6 g_d1 (by decide) (Nat.le_of_ble_eq_true rfl)) hZ (own_w hw 124 rfl) (own_w hw 104 rfl) (by decide) (by decide)) (g := (mkF m 20 #[rv u0, iv (1 : Int32), iv (4 : Int32), rv d1, iv (1 : Int32)] [(.int x1), (.int (1 : Int32)), (.ref d1)])) rfl (by rw [hml]; rfl) (argsL := [(.ref d1), (.int (1 : Int32)), (.int x1)]) (rest := []) (lenOf own_pd2 rfl) rfl (by show 2 * 0 + _ ≤ _; exact Nat.le_of_eq rfl) (hb hby own_d21_20) (fun _ _ => ⟨rfl, rfl, (by decide : 1 + 0 ≤ _), (by decide : 8 + 0 ≤ _)⟩)
  dsimp only [Pt.U, Pt.locs, Pt.cells, Pt.slots] at X11 l11 y11 z11 st11 hQ11
  subst l11 y11 z11
  obtain ⟨rfl, Nq11, Kq11, Vq11⟩ := hQ11
  have N11 := Fr.app N6 Nq11
  have O12 := O7.keep Kq11 (allS g_d1 all0)
  have K12 : Keep h0 T11.heap [] := K7.trans Kq11 (allS (Or.inr sz_d1) all0)
  refine own_on (B := T11.setTop (mkF m 23 #[rv u0, iv (1 : Int32), iv (4 : Int32), rv d1, iv (1 : Int32)] [])) (fun tz kz => st11 _ kz) ?_
  have Vl11 : Arv Z T11.heap d1 kd1 .byte (8 : Int32) [(.int (nar .byte ((x0 >>> ((0 : Int32) &&& 31)).toInt8.toInt32))), (.int (nar .byte ((x0 >>> ((8 : Int32) &&& 31)).toInt8.toInt32))), (.int (nar .byte ((x1 >>> ((0 : Int32) &&& 31)).toInt8.toInt32))), (.int (nar .byte ((x1 >>> ((8 : Int32) &&& 31)).toInt8.toInt32))), (.int (0 : Int32)), (.int (0 : Int32)), (.int (0 : Int32)), (.int (0 : Int32))] (.int 0) := Vq11
  refine own_on (B := T11.setTop (mkF m 19 #[rv u0, iv (2 : Int32), iv (4 : Int32), rv d1, iv (2 : Int32)] [(.int (2 : Int32)), (.ref u0), (.int (2 : Int32)), (.ref d1)])) (fun tz kz => ?_) ?_
  · show sT p e below T11 (mkF m 23 #[rv u0, iv (1 : Int32), iv (4 : Int32), rv d1, iv (1 : Int32)] []) tz
    refine XS.iinc X11.here hx rfl (hb hby own_d21_23) rfl (l' := #[rv u0, iv (2 : Int32), iv (4 : Int32), rv d1, iv (1 : Int32)]) rfl ?_
    show sT p e below T11 (mkF m 26 #[rv u0, iv (2 : Int32), iv (4 : Int32), rv d1, iv (1 : Int32)] []) tz
    refine XS.iinc X11.here hx rfl (hb hby own_d21_26) rfl (l' := #[rv u0, iv (2 : Int32), iv (4 : Int32), rv d1, iv (2 : Int32)]) rfl ?_
    show sT p e below T11 (mkF m 29 #[rv u0, iv (2 : Int32), iv (4 : Int32), rv d1, iv (2 : Int32)] []) tz
    refine XS.goto X11.here hx rfl (pc0 := 29) (pc' := 8) rfl (hb hby own_d21_29) (by decide) (by decide) ?_
    show sT p e below T11 (mkF m 8 #[rv u0, iv (2 : Int32), iv (4 : Int32), rv d1, iv (2 : Int32)] []) tz
    refine XS.iload X11.here hx rfl (hb hby own_d21_8) rfl ?_
    show sT p e below T11 (mkF m 10 #[rv u0, iv (2 : Int32), iv (4 : Int32), rv d1, iv (2 : Int32)] [(.int (2 : Int32))]) tz
    refine XS.iloadN X11.here hx rfl (hb hby own_d21_10) rfl ?_
    show sT p e below T11 (mkF m 11 #[rv u0, iv (2 : Int32), iv (4 : Int32), rv d1, iv (2 : Int32)] [(.int (4 : Int32)), (.int (2 : Int32))]) tz
    refine XS.icmpNo X11.here hx rfl (hb hby own_d21_11) rfl (tlt (by decide : (2 : Int32) < (4 : Int32))).2.1 ?_
    show sT p e below T11 (mkF m 14 #[rv u0, iv (2 : Int32), iv (4 : Int32), rv d1, iv (2 : Int32)] []) tz
    refine XS.aloadN X11.here hx rfl (hb hby own_d21_14) rfl rfl ?_
    show sT p e below T11 (mkF m 15 #[rv u0, iv (2 : Int32), iv (4 : Int32), rv d1, iv (2 : Int32)] [(.ref d1)]) tz
    refine XS.iload X11.here hx rfl (hb hby own_d21_15) rfl ?_
    show sT p e below T11 (mkF m 17 #[rv u0, iv (2 : Int32), iv (4 : Int32), rv d1, iv (2 : Int32)] [(.int (2 : Int32)), (.ref d1)]) tz
    refine XS.aloadN X11.here hx rfl (hb hby own_d21_17) rfl rfl ?_
    show sT p e below T11 (mkF m 18 #[rv u0, iv (2 : Int32), iv (4 : Int32), rv d1, iv (2 : Int32)] [(.ref u0), (.int (2 : Int32)), (.ref d1)]) tz
    refine XS.iloadN X11.here hx rfl (hb hby own_d21_18) rfl ?_
    exact kz
  have f_13 := (f_8.keep Kq11 (ninS ne_u0_d1 nin0))
  obtain ⟨cl14, Ar14, q14, S14, M14, H14, G14⟩ := id f_13
  have hin15 : ¬ ((2 : Int32) < 0 ∨ cl14.slots.size ≤ ((2 : Int32)).toNatClampNeg) := inb_of S14 ⟨by decide, by decide⟩
  have hat15 : cl14.slots[((2 : Int32)).toNatClampNeg]? = some (.int x2) := Has.at H14 hin15 rfl
  refine own_on (B := T11.setTop (mkF m 20 #[rv u0, iv (2 : Int32), iv (4 : Int32), rv d1, iv (2 : Int32)] [(.int x2), (.int (2 : Int32)), (.ref d1)])) (fun tz kz => ?_) ?_
  · show sT p e below T11 (mkF m 19 #[rv u0, iv (2 : Int32), iv (4 : Int32), rv d1, iv (2 : Int32)] [(.int (2 : Int32)), (.ref u0), (.int (2 : Int32)), (.ref d1)]) tz
    refine X11.caload hx (j := (2 : Int32)) (v := (.int x2)) (Ar14.1) (State.isArrayOf_alike hZ.alike Ar14.2.1) Ar14.2.2 hin15 hat15 (g := (mkF m 19 #[rv u0, iv (2 : Int32), iv (4 : Int32), rv d1, iv (2 : Int32)] [(.int (2 : Int32)), (.ref u0), (.int (2 : Int32)), (.ref d1)])) rfl rfl (hb hby own_d21_19) _ ?_
    exact kz
  obtain ⟨_, _, ⟨T16, L16, k16, n16⟩, -, X16, ⟨Lc16, hQ16, l16, y16, z16⟩, st16⟩ := Jvm.LawKit.callS X11 hx (y := (⟨"java/lang/StringUTF16", "putChar", "([BII)V"⟩ : MethodName)) hown (mvT hZ (own_w hw 122 rfl)) (mvT hZ (own_w hw 123 rfl)) (mvT hZ (own_w hw 104 rfl)) (mvT hZ (own_w hw 124 rfl)) (by decide) (backOf (W := 0) (rm24c l Z a0 hw [] d1 x2 kd1 (8 : Int32) [(.int (nar .byte ((x0 >>> ((0 : Int32) &&& 31)).toInt8.toInt32))), (.int (nar .byte ((x0 >>> ((8 : Int32) &&& 31)).toInt8.toInt32))), (.int (nar .byte ((x1 >>> ((0 : Int32) &&& 31)).toInt8.toInt32))), (.int (nar .byte ((x1 >>> ((8 : Int32) &&& 31)).toInt8.toInt32))), (.int (0 : Int32)), (.int (0 : Int32)), (.int (0 : Int32)), (.int (0 : Int32))] T11.heap n0 O12 S_as S_hi S_lo Vl11 g_d1 (by decide) (Nat.le_of_ble_eq_true rfl)) hZ (own_w hw 124 rfl) (own_w hw 104 rfl) (by decide) (by decide)) (g := (mkF m 20 #[rv u0, iv (2 : Int32), iv (4 : Int32), rv d1, iv (2 : Int32)] [(.int x2), (.int (2 : Int32)), (.ref d1)])) rfl (by rw [hml]; rfl) (argsL := [(.ref d1), (.int (2 : Int32)), (.int x2)]) (rest := []) (lenOf own_pd2 rfl) rfl (by show 2 * 0 + _ ≤ _; exact Nat.le_of_eq rfl) (hb hby own_d21_20) (fun _ _ => ⟨rfl, rfl, (by decide : 1 + 0 ≤ _), (by decide : 8 + 0 ≤ _)⟩)
  dsimp only [Pt.U, Pt.locs, Pt.cells, Pt.slots] at X16 l16 y16 z16 st16 hQ16
  subst l16 y16 z16
  obtain ⟨rfl, Nq16, Kq16, Vq16⟩ := hQ16
  have N16 := Fr.app N11 Nq16
  have O17 := O12.keep Kq16 (allS g_d1 all0)
  have K17 : Keep h0 T16.heap [] := K12.trans Kq16 (allS (Or.inr sz_d1) all0)
  refine own_on (B := T16.setTop (mkF m 23 #[rv u0, iv (2 : Int32), iv (4 : Int32), rv d1, iv (2 : Int32)] [])) (fun tz kz => st16 _ kz) ?_
  have Vl16 : Arv Z T16.heap d1 kd1 .byte (8 : Int32) [(.int (nar .byte ((x0 >>> ((0 : Int32) &&& 31)).toInt8.toInt32))), (.int (nar .byte ((x0 >>> ((8 : Int32) &&& 31)).toInt8.toInt32))), (.int (nar .byte ((x1 >>> ((0 : Int32) &&& 31)).toInt8.toInt32))), (.int (nar .byte ((x1 >>> ((8 : Int32) &&& 31)).toInt8.toInt32))), (.int (nar .byte ((x2 >>> ((0 : Int32) &&& 31)).toInt8.toInt32))), (.int (nar .byte ((x2 >>> ((8 : Int32) &&& 31)).toInt8.toInt32))), (.int (0 : Int32)), (.int (0 : Int32))] (.int 0) := Vq16
  refine own_on (B := T16.setTop (mkF m 19 #[rv u0, iv (3 : Int32), iv (4 : Int32), rv d1, iv (3 : Int32)] [(.int (3 : Int32)), (.ref u0), (.int (3 : Int32)), (.ref d1)])) (fun tz kz => ?_) ?_
  · show sT p e below T16 (mkF m 23 #[rv u0, iv (2 : Int32), iv (4 : Int32), rv d1, iv (2 : Int32)] []) tz
    refine XS.iinc X16.here hx rfl (hb hby own_d21_23) rfl (l' := #[rv u0, iv (3 : Int32), iv (4 : Int32), rv d1, iv (2 : Int32)]) rfl ?_
    show sT p e below T16 (mkF m 26 #[rv u0, iv (3 : Int32), iv (4 : Int32), rv d1, iv (2 : Int32)] []) tz
    refine XS.iinc X16.here hx rfl (hb hby own_d21_26) rfl (l' := #[rv u0, iv (3 : Int32), iv (4 : Int32), rv d1, iv (3 : Int32)]) rfl ?_
    show sT p e below T16 (mkF m 29 #[rv u0, iv (3 : Int32), iv (4 : Int32), rv d1, iv (3 : Int32)] []) tz
    refine XS.goto X16.here hx rfl (pc0 := 29) (pc' := 8) rfl (hb hby own_d21_29) (by decide) (by decide) ?_
    show sT p e below T16 (mkF m 8 #[rv u0, iv (3 : Int32), iv (4 : Int32), rv d1, iv (3 : Int32)] []) tz
    refine XS.iload X16.here hx rfl (hb hby own_d21_8) rfl ?_
    show sT p e below T16 (mkF m 10 #[rv u0, iv (3 : Int32), iv (4 : Int32), rv d1, iv (3 : Int32)] [(.int (3 : Int32))]) tz
    refine XS.iloadN X16.here hx rfl (hb hby own_d21_10) rfl ?_
    show sT p e below T16 (mkF m 11 #[rv u0, iv (3 : Int32), iv (4 : Int32), rv d1, iv (3 : Int32)] [(.int (4 : Int32)), (.int (3 : Int32))]) tz
    refine XS.icmpNo X16.here hx rfl (hb hby own_d21_11) rfl (tlt (by decide : (3 : Int32) < (4 : Int32))).2.1 ?_
    show sT p e below T16 (mkF m 14 #[rv u0, iv (3 : Int32), iv (4 : Int32), rv d1, iv (3 : Int32)] []) tz
    refine XS.aloadN X16.here hx rfl (hb hby own_d21_14) rfl rfl ?_
    show sT p e below T16 (mkF m 15 #[rv u0, iv (3 : Int32), iv (4 : Int32), rv d1, iv (3 : Int32)] [(.ref d1)]) tz
    refine XS.iload X16.here hx rfl (hb hby own_d21_15) rfl ?_
    show sT p e below T16 (mkF m 17 #[rv u0, iv (3 : Int32), iv (4 : Int32), rv d1, iv (3 : Int32)] [(.int (3 : Int32)), (.ref d1)]) tz
    refine XS.aloadN X16.here hx rfl (hb hby own_d21_17) rfl rfl ?_
    show sT p e below T16 (mkF m 18 #[rv u0, iv (3 : Int32), iv (4 : Int32), rv d1, iv (3 : Int32)] [(.ref u0), (.int (3 : Int32)), (.ref d1)]) tz
    refine XS.iloadN X16.here hx rfl (hb hby own_d21_18) rfl ?_
    exact kz
  have f_18 := (f_13.keep Kq16 (ninS ne_u0_d1 nin0))
  obtain ⟨cl19, Ar19, q19, S19, M19, H19, G19⟩ := id f_18
  have hin20 : ¬ ((3 : Int32) < 0 ∨ cl19.slots.size ≤ ((3 : Int32)).toNatClampNeg) := inb_of S19 ⟨by decide, by decide⟩
  have hat20 : cl19.slots[((3 : Int32)).toNatClampNeg]? = some (.int x3) := Has.at H19 hin20 rfl
  refine own_on (B := T16.setTop (mkF m 20 #[rv u0, iv (3 : Int32), iv (4 : Int32), rv d1, iv (3 : Int32)] [(.int x3), (.int (3 : Int32)), (.ref d1)])) (fun tz kz => ?_) ?_
  · show sT p e below T16 (mkF m 19 #[rv u0, iv (3 : Int32), iv (4 : Int32), rv d1, iv (3 : Int32)] [(.int (3 : Int32)), (.ref u0), (.int (3 : Int32)), (.ref d1)]) tz
    refine X16.caload hx (j := (3 : Int32)) (v := (.int x3)) (Ar19.1) (State.isArrayOf_alike hZ.alike Ar19.2.1) Ar19.2.2 hin20 hat20 (g := (mkF m 19 #[rv u0, iv (3 : Int32), iv (4 : Int32), rv d1, iv (3 : Int32)] [(.int (3 : Int32)), (.ref u0), (.int (3 : Int32)), (.ref d1)])) rfl rfl (hb hby own_d21_19) _ ?_
    exact kz
  obtain ⟨_, _, ⟨T21, L21, k21, n21⟩, -, X21, ⟨Lc21, hQ21, l21, y21, z21⟩, st21⟩ := Jvm.LawKit.callS X16 hx (y := (⟨"java/lang/StringUTF16", "putChar", "([BII)V"⟩ : MethodName)) hown (mvT hZ (own_w hw 122 rfl)) (mvT hZ (own_w hw 123 rfl)) (mvT hZ (own_w hw 104 rfl)) (mvT hZ (own_w hw 124 rfl)) (by decide) (backOf (W := 0) (rm24d l Z a0 hw [] d1 x3 kd1 (8 : Int32) [(.int (nar .byte ((x0 >>> ((0 : Int32) &&& 31)).toInt8.toInt32))), (.int (nar .byte ((x0 >>> ((8 : Int32) &&& 31)).toInt8.toInt32))), (.int (nar .byte ((x1 >>> ((0 : Int32) &&& 31)).toInt8.toInt32))), (.int (nar .byte ((x1 >>> ((8 : Int32) &&& 31)).toInt8.toInt32))), (.int (nar .byte ((x2 >>> ((0 : Int32) &&& 31)).toInt8.toInt32))), (.int (nar .byte ((x2 >>> ((8 : Int32) &&& 31)).toInt8.toInt32))), (.int (0 : Int32)), (.int (0 : Int32))] T16.heap n0 O17 S_as S_hi S_lo Vl16 g_d1 (by decide) (Nat.le_of_ble_eq_true rfl)) hZ (own_w hw 124 rfl) (own_w hw 104 rfl) (by decide) (by decide)) (g := (mkF m 20 #[rv u0, iv (3 : Int32), iv (4 : Int32), rv d1, iv (3 : Int32)] [(.int x3), (.int (3 : Int32)), (.ref d1)])) rfl (by rw [hml]; rfl) (argsL := [(.ref d1), (.int (3 : Int32)), (.int x3)]) (rest := []) (lenOf own_pd2 rfl) rfl (by show 2 * 0 + _ ≤ _; exact Nat.le_of_eq rfl) (hb hby own_d21_20) (fun _ _ => ⟨rfl, rfl, (by decide : 1 + 0 ≤ _), (by decide : 8 + 0 ≤ _)⟩)
  dsimp only [Pt.U, Pt.locs, Pt.cells, Pt.slots] at X21 l21 y21 z21 st21 hQ21
  subst l21 y21 z21
  obtain ⟨rfl, Nq21, Kq21, Vq21⟩ := hQ21
  have N21 := Fr.app N16 Nq21
  have O22 := O17.keep Kq21 (allS g_d1 all0)
  have K22 : Keep h0 T21.heap [] := K17.trans Kq21 (allS (Or.inr sz_d1) all0)
  refine own_on (B := T21.setTop (mkF m 23 #[rv u0, iv (3 : Int32), iv (4 : Int32), rv d1, iv (3 : Int32)] [])) (fun tz kz => st21 _ kz) ?_
  have Vl21 : Arv Z T21.heap d1 kd1 .byte (8 : Int32) [(.int (nar .byte ((x0 >>> ((0 : Int32) &&& 31)).toInt8.toInt32))), (.int (nar .byte ((x0 >>> ((8 : Int32) &&& 31)).toInt8.toInt32))), (.int (nar .byte ((x1 >>> ((0 : Int32) &&& 31)).toInt8.toInt32))), (.int (nar .byte ((x1 >>> ((8 : Int32) &&& 31)).toInt8.toInt32))), (.int (nar .byte ((x2 >>> ((0 : Int32) &&& 31)).toInt8.toInt32))), (.int (nar .byte ((x2 >>> ((8 : Int32) &&& 31)).toInt8.toInt32))), (.int (nar .byte ((x3 >>> ((0 : Int32) &&& 31)).toInt8.toInt32))), (.int (nar .byte ((x3 >>> ((8 : Int32) &&& 31)).toInt8.toInt32)))] (.int 0) := Vq21
  refine own_on (B := T21.setTop (mkF m 33 #[rv u0, iv (4 : Int32), iv (4 : Int32), rv d1, iv (4 : Int32)] [(.ref d1)])) (fun tz kz => ?_) ?_
  · show sT p e below T21 (mkF m 23 #[rv u0, iv (3 : Int32), iv (4 : Int32), rv d1, iv (3 : Int32)] []) tz
    refine XS.iinc X21.here hx rfl (hb hby own_d21_23) rfl (l' := #[rv u0, iv (4 : Int32), iv (4 : Int32), rv d1, iv (3 : Int32)]) rfl ?_
    show sT p e below T21 (mkF m 26 #[rv u0, iv (4 : Int32), iv (4 : Int32), rv d1, iv (3 : Int32)] []) tz
    refine XS.iinc X21.here hx rfl (hb hby own_d21_26) rfl (l' := #[rv u0, iv (4 : Int32), iv (4 : Int32), rv d1, iv (4 : Int32)]) rfl ?_
    show sT p e below T21 (mkF m 29 #[rv u0, iv (4 : Int32), iv (4 : Int32), rv d1, iv (4 : Int32)] []) tz
    refine XS.goto X21.here hx rfl (pc0 := 29) (pc' := 8) rfl (hb hby own_d21_29) (by decide) (by decide) ?_
    show sT p e below T21 (mkF m 8 #[rv u0, iv (4 : Int32), iv (4 : Int32), rv d1, iv (4 : Int32)] []) tz
    refine XS.iload X21.here hx rfl (hb hby own_d21_8) rfl ?_
    show sT p e below T21 (mkF m 10 #[rv u0, iv (4 : Int32), iv (4 : Int32), rv d1, iv (4 : Int32)] [(.int (4 : Int32))]) tz
    refine XS.iloadN X21.here hx rfl (hb hby own_d21_10) rfl ?_
    show sT p e below T21 (mkF m 11 #[rv u0, iv (4 : Int32), iv (4 : Int32), rv d1, iv (4 : Int32)] [(.int (4 : Int32)), (.int (4 : Int32))]) tz
    refine XS.icmpYes X21.here hx rfl (pc0 := 11) (pc' := 32) rfl (hb hby own_d21_11) rfl (flt Int32.lt_irrefl).2.1 (by decide) (by decide) ?_
    show sT p e below T21 (mkF m 32 #[rv u0, iv (4 : Int32), iv (4 : Int32), rv d1, iv (4 : Int32)] []) tz
    refine XS.aloadN X21.here hx rfl (hb hby own_d21_32) rfl rfl ?_
    exact kz
  obtain ⟨fs, hr, hrun, hended, hW, hsame⟩ := X21.leave (v := some (.ref d1)) (fun h => by rw [Bd.returns] at h; cases h)
  refine own_of ⟨_, _, ?_, hrun, hended, _, _, rfl, ?_, ⟨_, rfl⟩, hW, hsame.mono (by decide) (by decide)⟩
  · show sT p e below T21 (mkF m 33 #[rv u0, iv (4 : Int32), iv (4 : Int32), rv d1, iv (4 : Int32)] [(.ref d1)]) _
    exact own_retV X21 hx Bd.returns rfl rfl (hb hby own_d21_33) hr
  · show Q21d Z u0 kx x0 x1 x2 x3 h0 n0 _ T21.heap _
    exact ⟨d1, kd1, rfl, N21, K22, sz_d1, Vl21⟩
theorem own_ef_19d (m : MethodId) (x0 : Addr) (x1 : Int32) (x2 : Addr) (x3 : Int32) (x4 : Int32) : entryFrame m #[(.ref x0), (.int x1), (.ref x2), (.int x3), (.int x4)] 7 = mkF m 0 #[rv x0, iv x1, rv x2, iv x3, iv x4, .unset, .unset] [] := by first | (simp [entryFrame, mkF, argsToLocals, Value.category]; done) | rfl
def Q19d (Z : State) (u0 : Addr) (u2 : Addr) (kx : ClassId) (x0 : Int32) (x1 : Int32) (x2 : Int32) (x3 : Int32) (h0 : Heap) (n0 : Nat) (v : Option Value) (h : Heap) (L : List Loc) : Prop := v = some (.int (if (255 : Int32) < x0 then (0 : Int32) else (if (255 : Int32) < x1 then (1 : Int32) else (if (255 : Int32) < x2 then (2 : Int32) else (if (255 : Int32) < x3 then (3 : Int32) else (4 : Int32)))))) ∧ Fr n0 L ∧ Keep h0 h [u2] ∧ OwnArz Z h u2 .byte (4 : Int32)
set_option maxRecDepth 65536 in
set_option maxHeartbeats 40000000 in
theorem rm19d (l : Launch) (Z : State) (a0 : Array Value) (hw : ∀ d ∈ tables_1, d.before a0 Z = true) (ws : List Jvm.Cond) (u0 : Addr) (u2 : Addr) (kx : ClassId) (x0 : Int32) (x1 : Int32) (x2 : Int32) (x3 : Int32) (h0 : Heap) (n0 : Nat) (O0 : Old Z n0 h0) (Vc : Arv Z h0 u0 kx .char (4 : Int32) [(.int x0), (.int x1), (.int x2), (.int x3)] (.int 0)) (Vb : OwnArz Z h0 u2 .byte (4 : Int32)) (g_u2 : n0 ≤ u2) (n02 : u0 ≠ u2) :
    MetFree l (⟨"java/lang/StringUTF16", "compress", "([CI[BII)I"⟩ : MethodName) (head1 (Jvm.Cond.code (⟨"java/lang/StringUTF16", "compress", "([CI[BII)I"⟩ : MethodName) jdk_52_method_21_code 7 (some .int) :: ws) ({ frames := 0, cells := 0, slots := 0, locals := 0 } : Room)) (fun a U => a = #[(.ref u0), (.int (0 : Int32)), (.ref u2), (.int (0 : Int32)), (.int (4 : Int32))] ∧ Z.Warmed39 U.vm ∧ U.heap = h0) (fun _ _ _ _ _ => True) (fun _ U o U' => ∃ v L, o = .returned v ∧ Q19d Z u0 u2 kx x0 x1 x2 x3 h0 n0 v U'.heap L ∧ FrameEnd U o U' L ({ frames := 0, cells := 0, slots := 0, locals := 0 } : Room).cells ({ frames := 0, cells := 0, slots := 0, locals := 0 } : Room).slots) := by
  refine MetFree.of_bodySF (plainFor_of_name own_pn_java_lang_StringUTF16) hisR ?_
  intro p e s m args below meth c s₁ Bd hml0 hP hK
  obtain ⟨rfl, hZ, hh⟩ := hP
  have hx := Bd.exec
  have hby := Bd.bytes
  have hml : c.maxLocals = 7 := hml0
  have hown : s.vm.findClass "java/lang/StringUTF16" = some m.cls := findClass_of_methodNamed Bd.named
  have hnm := (name_of_methodNamed Bd.named Bd.method).1
  have X0 : Stand p l e ({ frames := 0, cells := 0, slots := 0, locals := 0 } : Room) s m #[(.ref u0), (.int (0 : Int32)), (.ref u2), (.int (0 : Int32)), (.int (4 : Int32))] below meth c s₁ [] 0 0 := Stand.of_body Bd
  have e0 : s₁.heap = h0 := by rw [← hh, Bd.state]; rfl
  have N0 := Fr.nil n0
  change Go p.tables e below _ _
  refine own_on (B := s₁.setTop (mkF m 0 #[rv u0, iv (0 : Int32), rv u2, iv (0 : Int32), iv (4 : Int32), .unset, .unset] [])) (fun tz kz => castTop (own_ef_19d m u0 (0 : Int32) u2 (0 : Int32) (4 : Int32)) kz) ?_
  refine own_on (B := s₁.setTop (mkF m 12 #[rv u0, iv (0 : Int32), rv u2, iv (0 : Int32), iv (4 : Int32), iv (0 : Int32), .unset] [(.int (0 : Int32)), (.ref u0)])) (fun tz kz => ?_) ?_
  · show sT p e below s₁ (mkF m 0 #[rv u0, iv (0 : Int32), rv u2, iv (0 : Int32), iv (4 : Int32), .unset, .unset] []) tz
    refine XS.iconst X0.here hx rfl (hb hby own_d19_0) ?_
    show sT p e below s₁ (mkF m 1 #[rv u0, iv (0 : Int32), rv u2, iv (0 : Int32), iv (4 : Int32), .unset, .unset] [(.int (0 : Int32))]) tz
    refine XS.istore X0.here hx rfl (hb hby own_d19_1) rfl (l' := #[rv u0, iv (0 : Int32), rv u2, iv (0 : Int32), iv (4 : Int32), iv (0 : Int32), .unset]) rfl ?_
    show sT p e below s₁ (mkF m 3 #[rv u0, iv (0 : Int32), rv u2, iv (0 : Int32), iv (4 : Int32), iv (0 : Int32), .unset] []) tz
    refine XS.iload X0.here hx rfl (hb hby own_d19_3) rfl ?_
    show sT p e below s₁ (mkF m 5 #[rv u0, iv (0 : Int32), rv u2, iv (0 : Int32), iv (4 : Int32), iv (0 : Int32), .unset] [(.int (0 : Int32))]) tz
    refine XS.iload X0.here hx rfl (hb hby own_d19_5) rfl ?_
    show sT p e below s₁ (mkF m 7 #[rv u0, iv (0 : Int32), rv u2, iv (0 : Int32), iv (4 : Int32), iv (0 : Int32), .unset] [(.int (4 : Int32)), (.int (0 : Int32))]) tz
    refine XS.icmpNo X0.here hx rfl (hb hby own_d19_7) rfl (tlt (by decide : (0 : Int32) < (4 : Int32))).2.1 ?_
    show sT p e below s₁ (mkF m 10 #[rv u0, iv (0 : Int32), rv u2, iv (0 : Int32), iv (4 : Int32), iv (0 : Int32), .unset] []) tz
    refine XS.aloadN X0.here hx rfl (hb hby own_d19_10) rfl rfl ?_
    show sT p e below s₁ (mkF m 11 #[rv u0, iv (0 : Int32), rv u2, iv (0 : Int32), iv (4 : Int32), iv (0 : Int32), .unset] [(.ref u0)]) tz
    refine XS.iloadN X0.here hx rfl (hb hby own_d19_11) rfl ?_
    exact kz
  obtain ⟨cl1, Ar1, q1, S1, M1, H1, G1⟩ := id Vc
  have hin2 : ¬ ((0 : Int32) < 0 ∨ cl1.slots.size ≤ ((0 : Int32)).toNatClampNeg) := inb_of S1 ⟨by decide, by decide⟩
  have hat2 : cl1.slots[((0 : Int32)).toNatClampNeg]? = some (.int x0) := Has.at H1 hin2 rfl
  refine own_on (B := s₁.setTop (mkF m 20 #[rv u0, iv (0 : Int32), rv u2, iv (0 : Int32), iv (4 : Int32), iv (0 : Int32), iv x0] [(.int (255 : Int32)), (.int x0)])) (fun tz kz => ?_) ?_
  · show sT p e below s₁ (mkF m 12 #[rv u0, iv (0 : Int32), rv u2, iv (0 : Int32), iv (4 : Int32), iv (0 : Int32), .unset] [(.int (0 : Int32)), (.ref u0)]) tz
    refine X0.caload hx (j := (0 : Int32)) (v := (.int x0)) (by rw [e0]; exact Ar1.1) (State.isArrayOf_alike hZ.alike Ar1.2.1) Ar1.2.2 hin2 hat2 (g := (mkF m 12 #[rv u0, iv (0 : Int32), rv u2, iv (0 : Int32), iv (4 : Int32), iv (0 : Int32), .unset] [(.int (0 : Int32)), (.ref u0)])) rfl rfl (hb hby own_d19_12) _ ?_
    show sT p e below s₁ (mkF m 13 #[rv u0, iv (0 : Int32), rv u2, iv (0 : Int32), iv (4 : Int32), iv (0 : Int32), .unset] [(.int x0)]) tz
    refine XS.istore X0.here hx rfl (hb hby own_d19_13) rfl (l' := #[rv u0, iv (0 : Int32), rv u2, iv (0 : Int32), iv (4 : Int32), iv (0 : Int32), iv x0]) rfl ?_
    show sT p e below s₁ (mkF m 15 #[rv u0, iv (0 : Int32), rv u2, iv (0 : Int32), iv (4 : Int32), iv (0 : Int32), iv x0] []) tz
    refine XS.iload X0.here hx rfl (hb hby own_d19_15) rfl ?_
    show sT p e below s₁ (mkF m 17 #[rv u0, iv (0 : Int32), rv u2, iv (0 : Int32), iv (4 : Int32), iv (0 : Int32), iv x0] [(.int x0)]) tz
    refine XS.sipush X0.here hx rfl (hb hby own_d19_17) ?_
    exact kz
  by_cases hs0 : (255 : Int32) < x0
  · refine own_on (B := s₁.setTop (mkF m 25 #[rv u0, iv (0 : Int32), rv u2, iv (0 : Int32), iv (4 : Int32), iv (0 : Int32), iv x0] [(.int (0 : Int32))])) (fun tz kz => ?_) ?_
    · show sT p e below s₁ (mkF m 20 #[rv u0, iv (0 : Int32), rv u2, iv (0 : Int32), iv (4 : Int32), iv (0 : Int32), iv x0] [(.int (255 : Int32)), (.int x0)]) tz
      refine XS.icmpNo X0.here hx rfl (hb hby own_d19_20) rfl (tlt hs0).2.2.2 ?_
      show sT p e below s₁ (mkF m 23 #[rv u0, iv (0 : Int32), rv u2, iv (0 : Int32), iv (4 : Int32), iv (0 : Int32), iv x0] []) tz
      refine XS.iload X0.here hx rfl (hb hby own_d19_23) rfl ?_
      exact kz
    obtain ⟨fs, hr, hrun, hended, hW, hsame⟩ := X0.leave (v := some (.int (0 : Int32))) (fun h => by rw [Bd.returns] at h; cases h)
    refine own_of ⟨_, _, ?_, hrun, hended, _, _, rfl, ?_, ⟨_, rfl⟩, hW, hsame.mono (by decide) (by decide)⟩
    · show sT p e below s₁ (mkF m 25 #[rv u0, iv (0 : Int32), rv u2, iv (0 : Int32), iv (4 : Int32), iv (0 : Int32), iv x0] [(.int (0 : Int32))]) _
      exact own_retI X0 hx Bd.returns (hb hby own_d19_25) hr
    · show Q19d Z u0 u2 kx x0 x1 x2 x3 h0 n0 _ s₁.heap _
      rw [e0]
      exact ⟨by rw [if_pos hs0], N0, (Keep.refl h0 [u2]), Vb⟩
  · refine own_on (B := s₁.setTop (mkF m 31 #[rv u0, iv (0 : Int32), rv u2, iv (0 : Int32), iv (4 : Int32), iv (0 : Int32), iv x0] [(.int (x0.toInt8.toInt32)), (.int (0 : Int32)), (.ref u2)])) (fun tz kz => ?_) ?_
    · show sT p e below s₁ (mkF m 20 #[rv u0, iv (0 : Int32), rv u2, iv (0 : Int32), iv (4 : Int32), iv (0 : Int32), iv x0] [(.int (255 : Int32)), (.int x0)]) tz
      refine XS.icmpYes X0.here hx rfl (pc0 := 20) (pc' := 26) rfl (hb hby own_d19_20) rfl (flt hs0).2.2.2 (by decide) (by decide) ?_
      show sT p e below s₁ (mkF m 26 #[rv u0, iv (0 : Int32), rv u2, iv (0 : Int32), iv (4 : Int32), iv (0 : Int32), iv x0] []) tz
      refine XS.aloadN X0.here hx rfl (hb hby own_d19_26) rfl rfl ?_
      show sT p e below s₁ (mkF m 27 #[rv u0, iv (0 : Int32), rv u2, iv (0 : Int32), iv (4 : Int32), iv (0 : Int32), iv x0] [(.ref u2)]) tz
      refine XS.iloadN X0.here hx rfl (hb hby own_d19_27) rfl ?_
      show sT p e below s₁ (mkF m 28 #[rv u0, iv (0 : Int32), rv u2, iv (0 : Int32), iv (4 : Int32), iv (0 : Int32), iv x0] [(.int (0 : Int32)), (.ref u2)]) tz
      refine XS.iload X0.here hx rfl (hb hby own_d19_28) rfl ?_
      show sT p e below s₁ (mkF m 30 #[rv u0, iv (0 : Int32), rv u2, iv (0 : Int32), iv (4 : Int32), iv (0 : Int32), iv x0] [(.int x0), (.int (0 : Int32)), (.ref u2)]) tz
      refine XS.i2b X0.here hx rfl (hb hby own_d19_30) rfl ?_
      exact kz
    obtain ⟨cl3, Ar3, S3, M3⟩ := id Vb
    have hin3 : ¬ ((0 : Int32) < 0 ∨ cl3.slots.size ≤ ((0 : Int32)).toNatClampNeg) := inb_of S3 ⟨by decide, by decide⟩
    obtain ⟨T3, h3, X3, e3, W3, st3⟩ := stB X0 hx hZ e0 Ar3 (j := (0 : Int32)) hin3 (g := (mkF m 31 #[rv u0, iv (0 : Int32), rv u2, iv (0 : Int32), iv (4 : Int32), iv (0 : Int32), iv x0] [(.int (x0.toInt8.toInt32)), (.int (0 : Int32)), (.ref u2)])) rfl rfl (hb hby own_d19_31)
    have V3 := OwnArz.set Ar3 S3 M3 W3
    have N3 := Fr.snoc X3 N0 g_u2
    have O4 := O0.wr W3 g_u2
    have K4 : Keep h0 h3 [u2] := (Keep.refl h0 [u2]).wr W3 (Or.inl (List.mem_of_getElem? (i := 0) rfl))
    refine own_on (B := T3.setTop (mkF m 32 #[rv u0, iv (0 : Int32), rv u2, iv (0 : Int32), iv (4 : Int32), iv (0 : Int32), iv x0] [])) (fun tz kz => st3 _ kz) ?_
    refine own_on (B := T3.setTop (mkF m 12 #[rv u0, iv (1 : Int32), rv u2, iv (1 : Int32), iv (4 : Int32), iv (1 : Int32), iv x0] [(.int (1 : Int32)), (.ref u0)])) (fun tz kz => ?_) ?_
    · show sT p e below T3 (mkF m 32 #[rv u0, iv (0 : Int32), rv u2, iv (0 : Int32), iv (4 : Int32), iv (0 : Int32), iv x0] []) tz
      refine XS.iinc X3.here hx rfl (hb hby own_d19_32) rfl (l' := #[rv u0, iv (1 : Int32), rv u2, iv (0 : Int32), iv (4 : Int32), iv (0 : Int32), iv x0]) rfl ?_
      show sT p e below T3 (mkF m 35 #[rv u0, iv (1 : Int32), rv u2, iv (0 : Int32), iv (4 : Int32), iv (0 : Int32), iv x0] []) tz
      refine XS.iinc X3.here hx rfl (hb hby own_d19_35) rfl (l' := #[rv u0, iv (1 : Int32), rv u2, iv (1 : Int32), iv (4 : Int32), iv (0 : Int32), iv x0]) rfl ?_
      show sT p e below T3 (mkF m 38 #[rv u0, iv (1 : Int32), rv u2, iv (1 : Int32), iv (4 : Int32), iv (0 : Int32), iv x0] []) tz
      refine XS.iinc X3.here hx rfl (hb hby own_d19_38) rfl (l' := #[rv u0, iv (1 : Int32), rv u2, iv (1 : Int32), iv (4 : Int32), iv (1 : Int32), iv x0]) rfl ?_
      show sT p e below T3 (mkF m 41 #[rv u0, iv (1 : Int32), rv u2, iv (1 : Int32), iv (4 : Int32), iv (1 : Int32), iv x0] []) tz
      refine XS.goto X3.here hx rfl (pc0 := 41) (pc' := 3) rfl (hb hby own_d19_41) (by decide) (by decide) ?_
      show sT p e below T3 (mkF m 3 #[rv u0, iv (1 : Int32), rv u2, iv (1 : Int32), iv (4 : Int32), iv (1 : Int32), iv x0] []) tz
      refine XS.iload X3.here hx rfl (hb hby own_d19_3) rfl ?_
      show sT p e below T3 (mkF m 5 #[rv u0, iv (1 : Int32), rv u2, iv (1 : Int32), iv (4 : Int32), iv (1 : Int32), iv x0] [(.int (1 : Int32))]) tz
      refine XS.iload X3.here hx rfl (hb hby own_d19_5) rfl ?_
      show sT p e below T3 (mkF m 7 #[rv u0, iv (1 : Int32), rv u2, iv (1 : Int32), iv (4 : Int32), iv (1 : Int32), iv x0] [(.int (4 : Int32)), (.int (1 : Int32))]) tz
      refine XS.icmpNo X3.here hx rfl (hb hby own_d19_7) rfl (tlt (by decide : (1 : Int32) < (4 : Int32))).2.1 ?_
      show sT p e below T3 (mkF m 10 #[rv u0, iv (1 : Int32), rv u2, iv (1 : Int32), iv (4 : Int32), iv (1 : Int32), iv x0] []) tz
      refine XS.aloadN X3.here hx rfl (hb hby own_d19_10) rfl rfl ?_
      show sT p e below T3 (mkF m 11 #[rv u0, iv (1 : Int32), rv u2, iv (1 : Int32), iv (4 : Int32), iv (1 : Int32), iv x0] [(.ref u0)]) tz
      refine XS.iloadN X3.here hx rfl (hb hby own_d19_11) rfl ?_
      exact kz
    have f_5 := (Vc.other W3 n02)
    obtain ⟨cl6, Ar6, q6, S6, M6, H6, G6⟩ := id f_5
    have hin7 : ¬ ((1 : Int32) < 0 ∨ cl6.slots.size ≤ ((1 : Int32)).toNatClampNeg) := inb_of S6 ⟨by decide, by decide⟩
    have hat7 : cl6.slots[((1 : Int32)).toNatClampNeg]? = some (.int x1) := Has.at H6 hin7 rfl
    refine own_on (B := T3.setTop (mkF m 20 #[rv u0, iv (1 : Int32), rv u2, iv (1 : Int32), iv (4 : Int32), iv (1 : Int32), iv x1] [(.int (255 : Int32)), (.int x1)])) (fun tz kz => ?_) ?_
    · show sT p e below T3 (mkF m 12 #[rv u0, iv (1 : Int32), rv u2, iv (1 : Int32), iv (4 : Int32), iv (1 : Int32), iv x0] [(.int (1 : Int32)), (.ref u0)]) tz
      refine X3.caload hx (j := (1 : Int32)) (v := (.int x1)) (by rw [e3]; exact Ar6.1) (State.isArrayOf_alike hZ.alike Ar6.2.1) Ar6.2.2 hin7 hat7 (g := (mkF m 12 #[rv u0, iv (1 : Int32), rv u2, iv (1 : Int32), iv (4 : Int32), iv (1 : Int32), iv x0] [(.int (1 : Int32)), (.ref u0)])) rfl rfl (hb hby own_d19_12) _ ?_
      show sT p e below T3 (mkF m 13 #[rv u0, iv (1 : Int32), rv u2, iv (1 : Int32), iv (4 : Int32), iv (1 : Int32), iv x0] [(.int x1)]) tz
      refine XS.istore X3.here hx rfl (hb hby own_d19_13) rfl (l' := #[rv u0, iv (1 : Int32), rv u2, iv (1 : Int32), iv (4 : Int32), iv (1 : Int32), iv x1]) rfl ?_
      show sT p e below T3 (mkF m 15 #[rv u0, iv (1 : Int32), rv u2, iv (1 : Int32), iv (4 : Int32), iv (1 : Int32), iv x1] []) tz
      refine XS.iload X3.here hx rfl (hb hby own_d19_15) rfl ?_
      show sT p e below T3 (mkF m 17 #[rv u0, iv (1 : Int32), rv u2, iv (1 : Int32), iv (4 : Int32), iv (1 : Int32), iv x1] [(.int x1)]) tz
      refine XS.sipush X3.here hx rfl (hb hby own_d19_17) ?_
      exact kz
    by_cases hs1 : (255 : Int32) < x1
    · refine own_on (B := T3.setTop (mkF m 25 #[rv u0, iv (1 : Int32), rv u2, iv (1 : Int32), iv (4 : Int32), iv (1 : Int32), iv x1] [(.int (1 : Int32))])) (fun tz kz => ?_) ?_
      · show sT p e below T3 (mkF m 20 #[rv u0, iv (1 : Int32), rv u2, iv (1 : Int32), iv (4 : Int32), iv (1 : Int32), iv x1] [(.int (255 : Int32)), (.int x1)]) tz
        refine XS.icmpNo X3.here hx rfl (hb hby own_d19_20) rfl (tlt hs1).2.2.2 ?_
        show sT p e below T3 (mkF m 23 #[rv u0, iv (1 : Int32), rv u2, iv (1 : Int32), iv (4 : Int32), iv (1 : Int32), iv x1] []) tz
        refine XS.iload X3.here hx rfl (hb hby own_d19_23) rfl ?_
        exact kz
      obtain ⟨fs, hr, hrun, hended, hW, hsame⟩ := X3.leave (v := some (.int (1 : Int32))) (fun h => by rw [Bd.returns] at h; cases h)
      refine own_of ⟨_, _, ?_, hrun, hended, _, _, rfl, ?_, ⟨_, rfl⟩, hW, hsame.mono (by decide) (by decide)⟩
      · show sT p e below T3 (mkF m 25 #[rv u0, iv (1 : Int32), rv u2, iv (1 : Int32), iv (4 : Int32), iv (1 : Int32), iv x1] [(.int (1 : Int32))]) _
        exact own_retI X3 hx Bd.returns (hb hby own_d19_25) hr
      · show Q19d Z u0 u2 kx x0 x1 x2 x3 h0 n0 _ T3.heap _
        rw [e3]
        exact ⟨by rw [if_neg hs0, if_pos hs1], N3, K4, V3⟩
    · refine own_on (B := T3.setTop (mkF m 31 #[rv u0, iv (1 : Int32), rv u2, iv (1 : Int32), iv (4 : Int32), iv (1 : Int32), iv x1] [(.int (x1.toInt8.toInt32)), (.int (1 : Int32)), (.ref u2)])) (fun tz kz => ?_) ?_
      · show sT p e below T3 (mkF m 20 #[rv u0, iv (1 : Int32), rv u2, iv (1 : Int32), iv (4 : Int32), iv (1 : Int32), iv x1] [(.int (255 : Int32)), (.int x1)]) tz
        refine XS.icmpYes X3.here hx rfl (pc0 := 20) (pc' := 26) rfl (hb hby own_d19_20) rfl (flt hs1).2.2.2 (by decide) (by decide) ?_
        show sT p e below T3 (mkF m 26 #[rv u0, iv (1 : Int32), rv u2, iv (1 : Int32), iv (4 : Int32), iv (1 : Int32), iv x1] []) tz
        refine XS.aloadN X3.here hx rfl (hb hby own_d19_26) rfl rfl ?_
        show sT p e below T3 (mkF m 27 #[rv u0, iv (1 : Int32), rv u2, iv (1 : Int32), iv (4 : Int32), iv (1 : Int32), iv x1] [(.ref u2)]) tz
        refine XS.iloadN X3.here hx rfl (hb hby own_d19_27) rfl ?_
        show sT p e below T3 (mkF m 28 #[rv u0, iv (1 : Int32), rv u2, iv (1 : Int32), iv (4 : Int32), iv (1 : Int32), iv x1] [(.int (1 : Int32)), (.ref u2)]) tz
        refine XS.iload X3.here hx rfl (hb hby own_d19_28) rfl ?_
        show sT p e below T3 (mkF m 30 #[rv u0, iv (1 : Int32), rv u2, iv (1 : Int32), iv (4 : Int32), iv (1 : Int32), iv x1] [(.int x1), (.int (1 : Int32)), (.ref u2)]) tz
        refine XS.i2b X3.here hx rfl (hb hby own_d19_30) rfl ?_
        exact kz
      obtain ⟨cl8, Ar8, S8, M8⟩ := id V3
      have hin8 : ¬ ((1 : Int32) < 0 ∨ cl8.slots.size ≤ ((1 : Int32)).toNatClampNeg) := inb_of S8 ⟨by decide, by decide⟩
      obtain ⟨T8, h8, X8, e8, W8, st8⟩ := stB X3 hx hZ e3 Ar8 (j := (1 : Int32)) hin8 (g := (mkF m 31 #[rv u0, iv (1 : Int32), rv u2, iv (1 : Int32), iv (4 : Int32), iv (1 : Int32), iv x1] [(.int (x1.toInt8.toInt32)), (.int (1 : Int32)), (.ref u2)])) rfl rfl (hb hby own_d19_31)
      have V8 := OwnArz.set Ar8 S8 M8 W8
      have N8 := Fr.snoc X8 N3 g_u2
      have O9 := O4.wr W8 g_u2
      have K9 : Keep h0 h8 [u2] := K4.wr W8 (Or.inl (List.mem_of_getElem? (i := 0) rfl))
      refine own_on (B := T8.setTop (mkF m 32 #[rv u0, iv (1 : Int32), rv u2, iv (1 : Int32), iv (4 : Int32), iv (1 : Int32), iv x1] [])) (fun tz kz => st8 _ kz) ?_
      refine own_on (B := T8.setTop (mkF m 12 #[rv u0, iv (2 : Int32), rv u2, iv (2 : Int32), iv (4 : Int32), iv (2 : Int32), iv x1] [(.int (2 : Int32)), (.ref u0)])) (fun tz kz => ?_) ?_
      · show sT p e below T8 (mkF m 32 #[rv u0, iv (1 : Int32), rv u2, iv (1 : Int32), iv (4 : Int32), iv (1 : Int32), iv x1] []) tz
        refine XS.iinc X8.here hx rfl (hb hby own_d19_32) rfl (l' := #[rv u0, iv (2 : Int32), rv u2, iv (1 : Int32), iv (4 : Int32), iv (1 : Int32), iv x1]) rfl ?_
        show sT p e below T8 (mkF m 35 #[rv u0, iv (2 : Int32), rv u2, iv (1 : Int32), iv (4 : Int32), iv (1 : Int32), iv x1] []) tz
        refine XS.iinc X8.here hx rfl (hb hby own_d19_35) rfl (l' := #[rv u0, iv (2 : Int32), rv u2, iv (2 : Int32), iv (4 : Int32), iv (1 : Int32), iv x1]) rfl ?_
        show sT p e below T8 (mkF m 38 #[rv u0, iv (2 : Int32), rv u2, iv (2 : Int32), iv (4 : Int32), iv (1 : Int32), iv x1] []) tz
        refine XS.iinc X8.here hx rfl (hb hby own_d19_38) rfl (l' := #[rv u0, iv (2 : Int32), rv u2, iv (2 : Int32), iv (4 : Int32), iv (2 : Int32), iv x1]) rfl ?_
        show sT p e below T8 (mkF m 41 #[rv u0, iv (2 : Int32), rv u2, iv (2 : Int32), iv (4 : Int32), iv (2 : Int32), iv x1] []) tz
        refine XS.goto X8.here hx rfl (pc0 := 41) (pc' := 3) rfl (hb hby own_d19_41) (by decide) (by decide) ?_
        show sT p e below T8 (mkF m 3 #[rv u0, iv (2 : Int32), rv u2, iv (2 : Int32), iv (4 : Int32), iv (2 : Int32), iv x1] []) tz
        refine XS.iload X8.here hx rfl (hb hby own_d19_3) rfl ?_
        show sT p e below T8 (mkF m 5 #[rv u0, iv (2 : Int32), rv u2, iv (2 : Int32), iv (4 : Int32), iv (2 : Int32), iv x1] [(.int (2 : Int32))]) tz
        refine XS.iload X8.here hx rfl (hb hby own_d19_5) rfl ?_
        show sT p e below T8 (mkF m 7 #[rv u0, iv (2 : Int32), rv u2, iv (2 : Int32), iv (4 : Int32), iv (2 : Int32), iv x1] [(.int (4 : Int32)), (.int (2 : Int32))]) tz
        refine XS.icmpNo X8.here hx rfl (hb hby own_d19_7) rfl (tlt (by decide : (2 : Int32) < (4 : Int32))).2.1 ?_
        show sT p e below T8 (mkF m 10 #[rv u0, iv (2 : Int32), rv u2, iv (2 : Int32), iv (4 : Int32), iv (2 : Int32), iv x1] []) tz
        refine XS.aloadN X8.here hx rfl (hb hby own_d19_10) rfl rfl ?_
        show sT p e below T8 (mkF m 11 #[rv u0, iv (2 : Int32), rv u2, iv (2 : Int32), iv (4 : Int32), iv (2 : Int32), iv x1] [(.ref u0)]) tz
        refine XS.iloadN X8.here hx rfl (hb hby own_d19_11) rfl ?_
        exact kz
      have f_10 := (f_5.other W8 n02)
      obtain ⟨cl11, Ar11, q11, S11, M11, H11, G11⟩ := id f_10
      have hin12 : ¬ ((2 : Int32) < 0 ∨ cl11.slots.size ≤ ((2 : Int32)).toNatClampNeg) := inb_of S11 ⟨by decide, by decide⟩
      have hat12 : cl11.slots[((2 : Int32)).toNatClampNeg]? = some (.int x2) := Has.at H11 hin12 rfl
      refine own_on (B := T8.setTop (mkF m 20 #[rv u0, iv (2 : Int32), rv u2, iv (2 : Int32), iv (4 : Int32), iv (2 : Int32), iv x2] [(.int (255 : Int32)), (.int x2)])) (fun tz kz => ?_) ?_
      · show sT p e below T8 (mkF m 12 #[rv u0, iv (2 : Int32), rv u2, iv (2 : Int32), iv (4 : Int32), iv (2 : Int32), iv x1] [(.int (2 : Int32)), (.ref u0)]) tz
        refine X8.caload hx (j := (2 : Int32)) (v := (.int x2)) (by rw [e8]; exact Ar11.1) (State.isArrayOf_alike hZ.alike Ar11.2.1) Ar11.2.2 hin12 hat12 (g := (mkF m 12 #[rv u0, iv (2 : Int32), rv u2, iv (2 : Int32), iv (4 : Int32), iv (2 : Int32), iv x1] [(.int (2 : Int32)), (.ref u0)])) rfl rfl (hb hby own_d19_12) _ ?_
        show sT p e below T8 (mkF m 13 #[rv u0, iv (2 : Int32), rv u2, iv (2 : Int32), iv (4 : Int32), iv (2 : Int32), iv x1] [(.int x2)]) tz
        refine XS.istore X8.here hx rfl (hb hby own_d19_13) rfl (l' := #[rv u0, iv (2 : Int32), rv u2, iv (2 : Int32), iv (4 : Int32), iv (2 : Int32), iv x2]) rfl ?_
        show sT p e below T8 (mkF m 15 #[rv u0, iv (2 : Int32), rv u2, iv (2 : Int32), iv (4 : Int32), iv (2 : Int32), iv x2] []) tz
        refine XS.iload X8.here hx rfl (hb hby own_d19_15) rfl ?_
        show sT p e below T8 (mkF m 17 #[rv u0, iv (2 : Int32), rv u2, iv (2 : Int32), iv (4 : Int32), iv (2 : Int32), iv x2] [(.int x2)]) tz
        refine XS.sipush X8.here hx rfl (hb hby own_d19_17) ?_
        exact kz
      by_cases hs2 : (255 : Int32) < x2
      · refine own_on (B := T8.setTop (mkF m 25 #[rv u0, iv (2 : Int32), rv u2, iv (2 : Int32), iv (4 : Int32), iv (2 : Int32), iv x2] [(.int (2 : Int32))])) (fun tz kz => ?_) ?_
        · show sT p e below T8 (mkF m 20 #[rv u0, iv (2 : Int32), rv u2, iv (2 : Int32), iv (4 : Int32), iv (2 : Int32), iv x2] [(.int (255 : Int32)), (.int x2)]) tz
          refine XS.icmpNo X8.here hx rfl (hb hby own_d19_20) rfl (tlt hs2).2.2.2 ?_
          show sT p e below T8 (mkF m 23 #[rv u0, iv (2 : Int32), rv u2, iv (2 : Int32), iv (4 : Int32), iv (2 : Int32), iv x2] []) tz
          refine XS.iload X8.here hx rfl (hb hby own_d19_23) rfl ?_
          exact kz
        obtain ⟨fs, hr, hrun, hended, hW, hsame⟩ := X8.leave (v := some (.int (2 : Int32))) (fun h => by rw [Bd.returns] at h; cases h)
        refine own_of ⟨_, _, ?_, hrun, hended, _, _, rfl, ?_, ⟨_, rfl⟩, hW, hsame.mono (by decide) (by decide)⟩
        · show sT p e below T8 (mkF m 25 #[rv u0, iv (2 : Int32), rv u2, iv (2 : Int32), iv (4 : Int32), iv (2 : Int32), iv x2] [(.int (2 : Int32))]) _
          exact own_retI X8 hx Bd.returns (hb hby own_d19_25) hr
        · show Q19d Z u0 u2 kx x0 x1 x2 x3 h0 n0 _ T8.heap _
          rw [e8]
          exact ⟨by rw [if_neg hs0, if_neg hs1, if_pos hs2], N8, K9, V8⟩
      · refine own_on (B := T8.setTop (mkF m 31 #[rv u0, iv (2 : Int32), rv u2, iv (2 : Int32), iv (4 : Int32), iv (2 : Int32), iv x2] [(.int (x2.toInt8.toInt32)), (.int (2 : Int32)), (.ref u2)])) (fun tz kz => ?_) ?_
        · show sT p e below T8 (mkF m 20 #[rv u0, iv (2 : Int32), rv u2, iv (2 : Int32), iv (4 : Int32), iv (2 : Int32), iv x2] [(.int (255 : Int32)), (.int x2)]) tz
          refine XS.icmpYes X8.here hx rfl (pc0 := 20) (pc' := 26) rfl (hb hby own_d19_20) rfl (flt hs2).2.2.2 (by decide) (by decide) ?_
          show sT p e below T8 (mkF m 26 #[rv u0, iv (2 : Int32), rv u2, iv (2 : Int32), iv (4 : Int32), iv (2 : Int32), iv x2] []) tz
          refine XS.aloadN X8.here hx rfl (hb hby own_d19_26) rfl rfl ?_
          show sT p e below T8 (mkF m 27 #[rv u0, iv (2 : Int32), rv u2, iv (2 : Int32), iv (4 : Int32), iv (2 : Int32), iv x2] [(.ref u2)]) tz
          refine XS.iloadN X8.here hx rfl (hb hby own_d19_27) rfl ?_
          show sT p e below T8 (mkF m 28 #[rv u0, iv (2 : Int32), rv u2, iv (2 : Int32), iv (4 : Int32), iv (2 : Int32), iv x2] [(.int (2 : Int32)), (.ref u2)]) tz
          refine XS.iload X8.here hx rfl (hb hby own_d19_28) rfl ?_
          show sT p e below T8 (mkF m 30 #[rv u0, iv (2 : Int32), rv u2, iv (2 : Int32), iv (4 : Int32), iv (2 : Int32), iv x2] [(.int x2), (.int (2 : Int32)), (.ref u2)]) tz
          refine XS.i2b X8.here hx rfl (hb hby own_d19_30) rfl ?_
          exact kz
        obtain ⟨cl13, Ar13, S13, M13⟩ := id V8
        have hin13 : ¬ ((2 : Int32) < 0 ∨ cl13.slots.size ≤ ((2 : Int32)).toNatClampNeg) := inb_of S13 ⟨by decide, by decide⟩
        obtain ⟨T13, h13, X13, e13, W13, st13⟩ := stB X8 hx hZ e8 Ar13 (j := (2 : Int32)) hin13 (g := (mkF m 31 #[rv u0, iv (2 : Int32), rv u2, iv (2 : Int32), iv (4 : Int32), iv (2 : Int32), iv x2] [(.int (x2.toInt8.toInt32)), (.int (2 : Int32)), (.ref u2)])) rfl rfl (hb hby own_d19_31)
        have V13 := OwnArz.set Ar13 S13 M13 W13
        have N13 := Fr.snoc X13 N8 g_u2
        have O14 := O9.wr W13 g_u2
        have K14 : Keep h0 h13 [u2] := K9.wr W13 (Or.inl (List.mem_of_getElem? (i := 0) rfl))
        refine own_on (B := T13.setTop (mkF m 32 #[rv u0, iv (2 : Int32), rv u2, iv (2 : Int32), iv (4 : Int32), iv (2 : Int32), iv x2] [])) (fun tz kz => st13 _ kz) ?_
        refine own_on (B := T13.setTop (mkF m 12 #[rv u0, iv (3 : Int32), rv u2, iv (3 : Int32), iv (4 : Int32), iv (3 : Int32), iv x2] [(.int (3 : Int32)), (.ref u0)])) (fun tz kz => ?_) ?_
        · show sT p e below T13 (mkF m 32 #[rv u0, iv (2 : Int32), rv u2, iv (2 : Int32), iv (4 : Int32), iv (2 : Int32), iv x2] []) tz
          refine XS.iinc X13.here hx rfl (hb hby own_d19_32) rfl (l' := #[rv u0, iv (3 : Int32), rv u2, iv (2 : Int32), iv (4 : Int32), iv (2 : Int32), iv x2]) rfl ?_
          show sT p e below T13 (mkF m 35 #[rv u0, iv (3 : Int32), rv u2, iv (2 : Int32), iv (4 : Int32), iv (2 : Int32), iv x2] []) tz
          refine XS.iinc X13.here hx rfl (hb hby own_d19_35) rfl (l' := #[rv u0, iv (3 : Int32), rv u2, iv (3 : Int32), iv (4 : Int32), iv (2 : Int32), iv x2]) rfl ?_
          show sT p e below T13 (mkF m 38 #[rv u0, iv (3 : Int32), rv u2, iv (3 : Int32), iv (4 : Int32), iv (2 : Int32), iv x2] []) tz
          refine XS.iinc X13.here hx rfl (hb hby own_d19_38) rfl (l' := #[rv u0, iv (3 : Int32), rv u2, iv (3 : Int32), iv (4 : Int32), iv (3 : Int32), iv x2]) rfl ?_
          show sT p e below T13 (mkF m 41 #[rv u0, iv (3 : Int32), rv u2, iv (3 : Int32), iv (4 : Int32), iv (3 : Int32), iv x2] []) tz
          refine XS.goto X13.here hx rfl (pc0 := 41) (pc' := 3) rfl (hb hby own_d19_41) (by decide) (by decide) ?_
          show sT p e below T13 (mkF m 3 #[rv u0, iv (3 : Int32), rv u2, iv (3 : Int32), iv (4 : Int32), iv (3 : Int32), iv x2] []) tz
          refine XS.iload X13.here hx rfl (hb hby own_d19_3) rfl ?_
          show sT p e below T13 (mkF m 5 #[rv u0, iv (3 : Int32), rv u2, iv (3 : Int32), iv (4 : Int32), iv (3 : Int32), iv x2] [(.int (3 : Int32))]) tz
          refine XS.iload X13.here hx rfl (hb hby own_d19_5) rfl ?_
          show sT p e below T13 (mkF m 7 #[rv u0, iv (3 : Int32), rv u2, iv (3 : Int32), iv (4 : Int32), iv (3 : Int32), iv x2] [(.int (4 : Int32)), (.int (3 : Int32))]) tz
          refine XS.icmpNo X13.here hx rfl (hb hby own_d19_7) rfl (tlt (by decide : (3 : Int32) < (4 : Int32))).2.1 ?_
          show sT p e below T13 (mkF m 10 #[rv u0, iv (3 : Int32), rv u2, iv (3 : Int32), iv (4 : Int32), iv (3 : Int32), iv x2] []) tz
          refine XS.aloadN X13.here hx rfl (hb hby own_d19_10) rfl rfl ?_
          show sT p e below T13 (mkF m 11 #[rv u0, iv (3 : Int32), rv u2, iv (3 : Int32), iv (4 : Int32), iv (3 : Int32), iv x2] [(.ref u0)]) tz
          refine XS.iloadN X13.here hx rfl (hb hby own_d19_11) rfl ?_
          exact kz
        have f_15 := (f_10.other W13 n02)
        obtain ⟨cl16, Ar16, q16, S16, M16, H16, G16⟩ := id f_15
        have hin17 : ¬ ((3 : Int32) < 0 ∨ cl16.slots.size ≤ ((3 : Int32)).toNatClampNeg) := inb_of S16 ⟨by decide, by decide⟩
        have hat17 : cl16.slots[((3 : Int32)).toNatClampNeg]? = some (.int x3) := Has.at H16 hin17 rfl
        refine own_on (B := T13.setTop (mkF m 20 #[rv u0, iv (3 : Int32), rv u2, iv (3 : Int32), iv (4 : Int32), iv (3 : Int32), iv x3] [(.int (255 : Int32)), (.int x3)])) (fun tz kz => ?_) ?_
        · show sT p e below T13 (mkF m 12 #[rv u0, iv (3 : Int32), rv u2, iv (3 : Int32), iv (4 : Int32), iv (3 : Int32), iv x2] [(.int (3 : Int32)), (.ref u0)]) tz
          refine X13.caload hx (j := (3 : Int32)) (v := (.int x3)) (by rw [e13]; exact Ar16.1) (State.isArrayOf_alike hZ.alike Ar16.2.1) Ar16.2.2 hin17 hat17 (g := (mkF m 12 #[rv u0, iv (3 : Int32), rv u2, iv (3 : Int32), iv (4 : Int32), iv (3 : Int32), iv x2] [(.int (3 : Int32)), (.ref u0)])) rfl rfl (hb hby own_d19_12) _ ?_
          show sT p e below T13 (mkF m 13 #[rv u0, iv (3 : Int32), rv u2, iv (3 : Int32), iv (4 : Int32), iv (3 : Int32), iv x2] [(.int x3)]) tz
          refine XS.istore X13.here hx rfl (hb hby own_d19_13) rfl (l' := #[rv u0, iv (3 : Int32), rv u2, iv (3 : Int32), iv (4 : Int32), iv (3 : Int32), iv x3]) rfl ?_
          show sT p e below T13 (mkF m 15 #[rv u0, iv (3 : Int32), rv u2, iv (3 : Int32), iv (4 : Int32), iv (3 : Int32), iv x3] []) tz
          refine XS.iload X13.here hx rfl (hb hby own_d19_15) rfl ?_
          show sT p e below T13 (mkF m 17 #[rv u0, iv (3 : Int32), rv u2, iv (3 : Int32), iv (4 : Int32), iv (3 : Int32), iv x3] [(.int x3)]) tz
          refine XS.sipush X13.here hx rfl (hb hby own_d19_17) ?_
          exact kz
        by_cases hs3 : (255 : Int32) < x3
        · refine own_on (B := T13.setTop (mkF m 25 #[rv u0, iv (3 : Int32), rv u2, iv (3 : Int32), iv (4 : Int32), iv (3 : Int32), iv x3] [(.int (3 : Int32))])) (fun tz kz => ?_) ?_
          · show sT p e below T13 (mkF m 20 #[rv u0, iv (3 : Int32), rv u2, iv (3 : Int32), iv (4 : Int32), iv (3 : Int32), iv x3] [(.int (255 : Int32)), (.int x3)]) tz
            refine XS.icmpNo X13.here hx rfl (hb hby own_d19_20) rfl (tlt hs3).2.2.2 ?_
            show sT p e below T13 (mkF m 23 #[rv u0, iv (3 : Int32), rv u2, iv (3 : Int32), iv (4 : Int32), iv (3 : Int32), iv x3] []) tz
            refine XS.iload X13.here hx rfl (hb hby own_d19_23) rfl ?_
            exact kz
          obtain ⟨fs, hr, hrun, hended, hW, hsame⟩ := X13.leave (v := some (.int (3 : Int32))) (fun h => by rw [Bd.returns] at h; cases h)
          refine own_of ⟨_, _, ?_, hrun, hended, _, _, rfl, ?_, ⟨_, rfl⟩, hW, hsame.mono (by decide) (by decide)⟩
          · show sT p e below T13 (mkF m 25 #[rv u0, iv (3 : Int32), rv u2, iv (3 : Int32), iv (4 : Int32), iv (3 : Int32), iv x3] [(.int (3 : Int32))]) _
            exact own_retI X13 hx Bd.returns (hb hby own_d19_25) hr
          · show Q19d Z u0 u2 kx x0 x1 x2 x3 h0 n0 _ T13.heap _
            rw [e13]
            exact ⟨by rw [if_neg hs0, if_neg hs1, if_neg hs2, if_pos hs3], N13, K14, V13⟩
        · refine own_on (B := T13.setTop (mkF m 31 #[rv u0, iv (3 : Int32), rv u2, iv (3 : Int32), iv (4 : Int32), iv (3 : Int32), iv x3] [(.int (x3.toInt8.toInt32)), (.int (3 : Int32)), (.ref u2)])) (fun tz kz => ?_) ?_
          · show sT p e below T13 (mkF m 20 #[rv u0, iv (3 : Int32), rv u2, iv (3 : Int32), iv (4 : Int32), iv (3 : Int32), iv x3] [(.int (255 : Int32)), (.int x3)]) tz
            refine XS.icmpYes X13.here hx rfl (pc0 := 20) (pc' := 26) rfl (hb hby own_d19_20) rfl (flt hs3).2.2.2 (by decide) (by decide) ?_
            show sT p e below T13 (mkF m 26 #[rv u0, iv (3 : Int32), rv u2, iv (3 : Int32), iv (4 : Int32), iv (3 : Int32), iv x3] []) tz
            refine XS.aloadN X13.here hx rfl (hb hby own_d19_26) rfl rfl ?_
            show sT p e below T13 (mkF m 27 #[rv u0, iv (3 : Int32), rv u2, iv (3 : Int32), iv (4 : Int32), iv (3 : Int32), iv x3] [(.ref u2)]) tz
            refine XS.iloadN X13.here hx rfl (hb hby own_d19_27) rfl ?_
            show sT p e below T13 (mkF m 28 #[rv u0, iv (3 : Int32), rv u2, iv (3 : Int32), iv (4 : Int32), iv (3 : Int32), iv x3] [(.int (3 : Int32)), (.ref u2)]) tz
            refine XS.iload X13.here hx rfl (hb hby own_d19_28) rfl ?_
            show sT p e below T13 (mkF m 30 #[rv u0, iv (3 : Int32), rv u2, iv (3 : Int32), iv (4 : Int32), iv (3 : Int32), iv x3] [(.int x3), (.int (3 : Int32)), (.ref u2)]) tz
            refine XS.i2b X13.here hx rfl (hb hby own_d19_30) rfl ?_
            exact kz
          obtain ⟨cl18, Ar18, S18, M18⟩ := id V13
          have hin18 : ¬ ((3 : Int32) < 0 ∨ cl18.slots.size ≤ ((3 : Int32)).toNatClampNeg) := inb_of S18 ⟨by decide, by decide⟩
          obtain ⟨T18, h18, X18, e18, W18, st18⟩ := stB X13 hx hZ e13 Ar18 (j := (3 : Int32)) hin18 (g := (mkF m 31 #[rv u0, iv (3 : Int32), rv u2, iv (3 : Int32), iv (4 : Int32), iv (3 : Int32), iv x3] [(.int (x3.toInt8.toInt32)), (.int (3 : Int32)), (.ref u2)])) rfl rfl (hb hby own_d19_31)
          have V18 := OwnArz.set Ar18 S18 M18 W18
          have N18 := Fr.snoc X18 N13 g_u2
          have O19 := O14.wr W18 g_u2
          have K19 : Keep h0 h18 [u2] := K14.wr W18 (Or.inl (List.mem_of_getElem? (i := 0) rfl))
          refine own_on (B := T18.setTop (mkF m 32 #[rv u0, iv (3 : Int32), rv u2, iv (3 : Int32), iv (4 : Int32), iv (3 : Int32), iv x3] [])) (fun tz kz => st18 _ kz) ?_
          refine own_on (B := T18.setTop (mkF m 46 #[rv u0, iv (4 : Int32), rv u2, iv (4 : Int32), iv (4 : Int32), iv (4 : Int32), iv x3] [(.int (4 : Int32))])) (fun tz kz => ?_) ?_
          · show sT p e below T18 (mkF m 32 #[rv u0, iv (3 : Int32), rv u2, iv (3 : Int32), iv (4 : Int32), iv (3 : Int32), iv x3] []) tz
            refine XS.iinc X18.here hx rfl (hb hby own_d19_32) rfl (l' := #[rv u0, iv (4 : Int32), rv u2, iv (3 : Int32), iv (4 : Int32), iv (3 : Int32), iv x3]) rfl ?_
            show sT p e below T18 (mkF m 35 #[rv u0, iv (4 : Int32), rv u2, iv (3 : Int32), iv (4 : Int32), iv (3 : Int32), iv x3] []) tz
            refine XS.iinc X18.here hx rfl (hb hby own_d19_35) rfl (l' := #[rv u0, iv (4 : Int32), rv u2, iv (4 : Int32), iv (4 : Int32), iv (3 : Int32), iv x3]) rfl ?_
            show sT p e below T18 (mkF m 38 #[rv u0, iv (4 : Int32), rv u2, iv (4 : Int32), iv (4 : Int32), iv (3 : Int32), iv x3] []) tz
            refine XS.iinc X18.here hx rfl (hb hby own_d19_38) rfl (l' := #[rv u0, iv (4 : Int32), rv u2, iv (4 : Int32), iv (4 : Int32), iv (4 : Int32), iv x3]) rfl ?_
            show sT p e below T18 (mkF m 41 #[rv u0, iv (4 : Int32), rv u2, iv (4 : Int32), iv (4 : Int32), iv (4 : Int32), iv x3] []) tz
            refine XS.goto X18.here hx rfl (pc0 := 41) (pc' := 3) rfl (hb hby own_d19_41) (by decide) (by decide) ?_
            show sT p e below T18 (mkF m 3 #[rv u0, iv (4 : Int32), rv u2, iv (4 : Int32), iv (4 : Int32), iv (4 : Int32), iv x3] []) tz
            refine XS.iload X18.here hx rfl (hb hby own_d19_3) rfl ?_
            show sT p e below T18 (mkF m 5 #[rv u0, iv (4 : Int32), rv u2, iv (4 : Int32), iv (4 : Int32), iv (4 : Int32), iv x3] [(.int (4 : Int32))]) tz
            refine XS.iload X18.here hx rfl (hb hby own_d19_5) rfl ?_
            show sT p e below T18 (mkF m 7 #[rv u0, iv (4 : Int32), rv u2, iv (4 : Int32), iv (4 : Int32), iv (4 : Int32), iv x3] [(.int (4 : Int32)), (.int (4 : Int32))]) tz
            refine XS.icmpYes X18.here hx rfl (pc0 := 7) (pc' := 44) rfl (hb hby own_d19_7) rfl (flt Int32.lt_irrefl).2.1 (by decide) (by decide) ?_
            show sT p e below T18 (mkF m 44 #[rv u0, iv (4 : Int32), rv u2, iv (4 : Int32), iv (4 : Int32), iv (4 : Int32), iv x3] []) tz
            refine XS.iload X18.here hx rfl (hb hby own_d19_44) rfl ?_
            exact kz
          obtain ⟨fs, hr, hrun, hended, hW, hsame⟩ := X18.leave (v := some (.int (4 : Int32))) (fun h => by rw [Bd.returns] at h; cases h)
          refine own_of ⟨_, _, ?_, hrun, hended, _, _, rfl, ?_, ⟨_, rfl⟩, hW, hsame.mono (by decide) (by decide)⟩
          · show sT p e below T18 (mkF m 46 #[rv u0, iv (4 : Int32), rv u2, iv (4 : Int32), iv (4 : Int32), iv (4 : Int32), iv x3] [(.int (4 : Int32))]) _
            exact own_retI X18 hx Bd.returns (hb hby own_d19_46) hr
          · show Q19d Z u0 u2 kx x0 x1 x2 x3 h0 n0 _ T18.heap _
            rw [e18]
            exact ⟨by rw [if_neg hs0, if_neg hs1, if_neg hs2, if_neg hs3], N18, K19, V18⟩
theorem own_ef_18d (m : MethodId) (x0 : Addr) (x1 : Int32) (x2 : Int32) : entryFrame m #[(.ref x0), (.int x1), (.int x2)] 6 = mkF m 0 #[rv x0, iv x1, iv x2, .unset, .unset, .unset] [] := by first | (simp [entryFrame, mkF, argsToLocals, Value.category]; done) | rfl
def Q18d (Z : State) (u0 : Addr) (kx : ClassId) (x0 : Int32) (x1 : Int32) (x2 : Int32) (x3 : Int32) (h0 : Heap) (n0 : Nat) (v : Option Value) (h : Heap) (L : List Loc) : Prop := ∃ (d : Addr) (ln cd : Int32), v = some (.ref d) ∧ Fr n0 L ∧ Keep h0 h [] ∧ h0.size ≤ d ∧ OwnArz Z h d .byte ln ∧ OwnLC (4 : Int32) ln cd
set_option maxRecDepth 65536 in
set_option maxHeartbeats 40000000 in
theorem rm18d (l : Launch) (Z : State) (a0 : Array Value) (hw : ∀ d ∈ tables_1, d.before a0 Z = true) (ws : List Jvm.Cond) (u0 : Addr) (kx : ClassId) (x0 : Int32) (x1 : Int32) (x2 : Int32) (x3 : Int32) (h0 : Heap) (n0 : Nat) (O0 : Old Z n0 h0) (S_as : Sta Z Z.heap "java/lang/StringUTF16" "$assertionsDisabled" "Z" (.int 1)) (S_hi : Sta Z Z.heap "java/lang/StringUTF16" "HI_BYTE_SHIFT" "I" (.int 0)) (S_lo : Sta Z Z.heap "java/lang/StringUTF16" "LO_BYTE_SHIFT" "I" (.int 8)) (Vc : Arv Z h0 u0 kx .char (4 : Int32) [(.int x0), (.int x1), (.int x2), (.int x3)] (.int 0)) (l0 : ¬ x0 < 0) (u0_ : ¬ (65535 : Int32) < x0) (l1 : ¬ x1 < 0) (u1_ : ¬ (65535 : Int32) < x1) (l2 : ¬ x2 < 0) (u2_ : ¬ (65535 : Int32) < x2) (l3 : ¬ x3 < 0) (u3_ : ¬ (65535 : Int32) < x3) :
    MetFree l (⟨"java/lang/StringUTF16", "compress", "([CII)[B"⟩ : MethodName) (head1 (Jvm.Cond.code (⟨"java/lang/StringUTF16", "compress", "([CII)[B"⟩ : MethodName) jdk_52_method_16_code 6 (some (.array .byte)) :: ws) ({ frames := 3, cells := 2, slots := 12, locals := 40 } : Room)) (fun a U => a = #[(.ref u0), (.int (0 : Int32)), (.int (4 : Int32))] ∧ Z.Warmed39 U.vm ∧ U.heap = h0) (fun _ _ _ _ _ => True) (fun _ U o U' => ∃ v L, o = .returned v ∧ Q18d Z u0 kx x0 x1 x2 x3 h0 n0 v U'.heap L ∧ FrameEnd U o U' L ({ frames := 3, cells := 2, slots := 12, locals := 40 } : Room).cells ({ frames := 3, cells := 2, slots := 12, locals := 40 } : Room).slots) := by
  refine MetFree.of_bodySF (plainFor_of_name own_pn_java_lang_StringUTF16) hisR ?_
  intro p e s m args below meth c s₁ Bd hml0 hP hK
  obtain ⟨rfl, hZ, hh⟩ := hP
  have hx := Bd.exec
  have hby := Bd.bytes
  have hml : c.maxLocals = 6 := hml0
  have hown : s.vm.findClass "java/lang/StringUTF16" = some m.cls := findClass_of_methodNamed Bd.named
  have hnm := (name_of_methodNamed Bd.named Bd.method).1
  have X0 : Stand p l e ({ frames := 3, cells := 2, slots := 12, locals := 40 } : Room) s m #[(.ref u0), (.int (0 : Int32)), (.int (4 : Int32))] below meth c s₁ [] 0 0 := Stand.of_body Bd
  have e0 : s₁.heap = h0 := by rw [← hh, Bd.state]; rfl
  have N0 := Fr.nil n0
  change Go p.tables e below _ _
  refine own_on (B := s₁.setTop (mkF m 0 #[rv u0, iv (0 : Int32), iv (4 : Int32), .unset, .unset, .unset] [])) (fun tz kz => castTop (own_ef_18d m u0 (0 : Int32) (4 : Int32)) kz) ?_
  refine own_on (B := s₁.setTop (mkF m 1 #[rv u0, iv (0 : Int32), iv (4 : Int32), .unset, .unset, .unset] [(.int (4 : Int32))])) (fun tz kz => ?_) ?_
  · show sT p e below s₁ (mkF m 0 #[rv u0, iv (0 : Int32), iv (4 : Int32), .unset, .unset, .unset] []) tz
    refine XS.iloadN X0.here hx rfl (hb hby own_d18_0) rfl ?_
    exact kz
  obtain ⟨T1, h1, k1, X1, e1, E1, A1, st1⟩ := newP X0 hx hZ (own_w hw 21 rfl) e0 (g := (mkF m 1 #[rv u0, iv (0 : Int32), iv (4 : Int32), .unset, .unset, .unset] [(.int (4 : Int32))])) rfl (hb hby own_d18_1) rfl (by decide) (cap := 4) (by decide) (by decide) (by decide) (by decide)
  obtain ⟨b1, g1⟩ : ∃ z, z = h0.size := ⟨_, rfl⟩
  rw [← g1] at A1 st1
  have ne_u0_b1 : u0 ≠ b1 := Nat.ne_of_lt (Nat.lt_of_lt_of_le (Vc).lt (Nat.le_of_eq g1.symm))
  have g_b1 : n0 ≤ b1 := Nat.le_trans (own_old O0) (Nat.le_of_eq g1.symm)
  have sz_b1 : h0.size ≤ b1 := Nat.le_trans (Keep.refl h0 []).1 (Nat.le_of_eq g1.symm)
  have O2 := O0.ext E1
  have K2 : Keep h0 h1 [] := (Keep.refl h0 []).ext E1
  have V1 : Arv Z h1 b1 k1 .byte (4 : Int32) [] (.int (0 : Int32)) := Arv.new A1 (by decide)
  refine own_on (B := T1.setTop (mkF m 3 #[rv u0, iv (0 : Int32), iv (4 : Int32), .unset, .unset, .unset] [(.ref b1)])) (fun tz kz => st1 _ kz) ?_
  have V3 := OwnArz.of V1
  have f_4 := (Vc.ext E1)
  refine own_on (B := T1.setTop (mkF m 9 #[rv u0, iv (0 : Int32), iv (4 : Int32), rv b1, .unset, .unset] [(.int (4 : Int32)), (.int (0 : Int32)), (.ref b1), (.int (0 : Int32)), (.ref u0)])) (fun tz kz => ?_) ?_
  · show sT p e below T1 (mkF m 3 #[rv u0, iv (0 : Int32), iv (4 : Int32), .unset, .unset, .unset] [(.ref b1)]) tz
    refine XS.astoreN X1.here hx rfl (hb hby own_d18_3) rfl rfl (l' := #[rv u0, iv (0 : Int32), iv (4 : Int32), rv b1, .unset, .unset]) rfl ?_
    show sT p e below T1 (mkF m 4 #[rv u0, iv (0 : Int32), iv (4 : Int32), rv b1, .unset, .unset] []) tz
    refine XS.aloadN X1.here hx rfl (hb hby own_d18_4) rfl rfl ?_
    show sT p e below T1 (mkF m 5 #[rv u0, iv (0 : Int32), iv (4 : Int32), rv b1, .unset, .unset] [(.ref u0)]) tz
    refine XS.iloadN X1.here hx rfl (hb hby own_d18_5) rfl ?_
    show sT p e below T1 (mkF m 6 #[rv u0, iv (0 : Int32), iv (4 : Int32), rv b1, .unset, .unset] [(.int (0 : Int32)), (.ref u0)]) tz
    refine XS.aloadN X1.here hx rfl (hb hby own_d18_6) rfl rfl ?_
    show sT p e below T1 (mkF m 7 #[rv u0, iv (0 : Int32), iv (4 : Int32), rv b1, .unset, .unset] [(.ref b1), (.int (0 : Int32)), (.ref u0)]) tz
    refine XS.iconst X1.here hx rfl (hb hby own_d18_7) ?_
    show sT p e below T1 (mkF m 8 #[rv u0, iv (0 : Int32), iv (4 : Int32), rv b1, .unset, .unset] [(.int (0 : Int32)), (.ref b1), (.int (0 : Int32)), (.ref u0)]) tz
    refine XS.iloadN X1.here hx rfl (hb hby own_d18_8) rfl ?_
    exact kz
  obtain ⟨_, _, ⟨T5, L5, k5, n5⟩, -, X5, ⟨Lc5, hQ5, l5, y5, z5⟩, st5⟩ := Jvm.LawKit.callS X1 hx (y := (⟨"java/lang/StringUTF16", "compress", "([CI[BII)I"⟩ : MethodName)) hown (mvT hZ (own_w hw 106 rfl)) (mvT hZ (own_w hw 107 rfl)) (mvT hZ (own_w hw 104 rfl)) (mvT hZ (own_w hw 108 rfl)) (by decide) (backOf (W := 0) (rm19d l Z a0 hw [] u0 b1 kx x0 x1 x2 x3 h1 n0 O2 f_4 V3 g_b1 ne_u0_b1) hZ (own_w hw 108 rfl) (own_w hw 104 rfl) (by decide) (by decide)) (g := (mkF m 9 #[rv u0, iv (0 : Int32), iv (4 : Int32), rv b1, .unset, .unset] [(.int (4 : Int32)), (.int (0 : Int32)), (.ref b1), (.int (0 : Int32)), (.ref u0)])) rfl (by rw [hml]; rfl) (argsL := [(.ref u0), (.int (0 : Int32)), (.ref b1), (.int (0 : Int32)), (.int (4 : Int32))]) (rest := []) (lenOf own_pd3 rfl) rfl (by show 2 * 0 + _ ≤ _; exact Nat.le_of_eq rfl) (hb hby own_d18_9) (fun _ _ => ⟨rfl, e1, (by decide : 1 + 0 ≤ _), (by decide : 4 + 0 ≤ _)⟩)
  dsimp only [Pt.U, Pt.locs, Pt.cells, Pt.slots] at X5 l5 y5 z5 st5 hQ5
  subst l5 y5 z5
  obtain ⟨rfl, Nq5, Kq5, Vq5⟩ := hQ5
  have N5 := Fr.app N0 Nq5
  have O6 := O2.keep Kq5 (allS g_b1 all0)
  have K6 : Keep h0 T5.heap [] := K2.trans Kq5 (allS (Or.inr sz_b1) all0)
  refine own_on (B := T5.setTop (mkF m 12 #[rv u0, iv (0 : Int32), iv (4 : Int32), rv b1, .unset, .unset] [(.int (if (255 : Int32) < x0 then (0 : Int32) else (if (255 : Int32) < x1 then (1 : Int32) else (if (255 : Int32) < x2 then (2 : Int32) else (if (255 : Int32) < x3 then (3 : Int32) else (4 : Int32))))))])) (fun tz kz => st5 _ kz) ?_
  by_cases hs0 : (255 : Int32) < x0
  · rw [if_pos hs0]
    have f_7 := (f_4.keep Kq5 (ninS ne_u0_b1 nin0))
    refine own_on (B := T5.setTop (mkF m 23 #[rv u0, iv (0 : Int32), iv (4 : Int32), rv b1, iv (0 : Int32), .unset] [(.int (4 : Int32)), (.int (0 : Int32)), (.ref u0)])) (fun tz kz => ?_) ?_
    · show sT p e below T5 (mkF m 12 #[rv u0, iv (0 : Int32), iv (4 : Int32), rv b1, .unset, .unset] [(.int (0 : Int32))]) tz
      refine XS.istore X5.here hx rfl (hb hby own_d18_12) rfl (l' := #[rv u0, iv (0 : Int32), iv (4 : Int32), rv b1, iv (0 : Int32), .unset]) rfl ?_
      show sT p e below T5 (mkF m 14 #[rv u0, iv (0 : Int32), iv (4 : Int32), rv b1, iv (0 : Int32), .unset] []) tz
      refine XS.iload X5.here hx rfl (hb hby own_d18_14) rfl ?_
      show sT p e below T5 (mkF m 16 #[rv u0, iv (0 : Int32), iv (4 : Int32), rv b1, iv (0 : Int32), .unset] [(.int (0 : Int32))]) tz
      refine XS.iloadN X5.here hx rfl (hb hby own_d18_16) rfl ?_
      show sT p e below T5 (mkF m 17 #[rv u0, iv (0 : Int32), iv (4 : Int32), rv b1, iv (0 : Int32), .unset] [(.int (4 : Int32)), (.int (0 : Int32))]) tz
      refine XS.icmpNo X5.here hx rfl (hb hby own_d18_17) rfl (feq (by decide : ¬ ((0 : Int32) = (4 : Int32)))).1 ?_
      show sT p e below T5 (mkF m 20 #[rv u0, iv (0 : Int32), iv (4 : Int32), rv b1, iv (0 : Int32), .unset] []) tz
      refine XS.aloadN X5.here hx rfl (hb hby own_d18_20) rfl rfl ?_
      show sT p e below T5 (mkF m 21 #[rv u0, iv (0 : Int32), iv (4 : Int32), rv b1, iv (0 : Int32), .unset] [(.ref u0)]) tz
      refine XS.iloadN X5.here hx rfl (hb hby own_d18_21) rfl ?_
      show sT p e below T5 (mkF m 22 #[rv u0, iv (0 : Int32), iv (4 : Int32), rv b1, iv (0 : Int32), .unset] [(.int (0 : Int32)), (.ref u0)]) tz
      refine XS.iloadN X5.here hx rfl (hb hby own_d18_22) rfl ?_
      exact kz
    obtain ⟨_, _, ⟨T8, L8, k8, n8⟩, -, X8, ⟨Lc8, hQ8, l8, y8, z8⟩, st8⟩ := Jvm.LawKit.callS X5 hx (y := (⟨"java/lang/StringUTF16", "toBytes", "([CII)[B"⟩ : MethodName)) hown (mvT hZ (own_w hw 112 rfl)) (mvT hZ (own_w hw 113 rfl)) (mvT hZ (own_w hw 104 rfl)) (mvT hZ (own_w hw 114 rfl)) (by decide) (backOf (W := 0) (rm21d l Z a0 hw [] u0 kx x0 x1 x2 x3 T5.heap n0 O6 S_as S_hi S_lo f_7) hZ (own_w hw 114 rfl) (own_w hw 104 rfl) (by decide) (by decide)) (g := (mkF m 23 #[rv u0, iv (0 : Int32), iv (4 : Int32), rv b1, iv (0 : Int32), .unset] [(.int (4 : Int32)), (.int (0 : Int32)), (.ref u0)])) rfl (by rw [hml]; rfl) (argsL := [(.ref u0), (.int (0 : Int32)), (.int (4 : Int32))]) (rest := []) (lenOf own_pd4 rfl) rfl (by show 2 * 0 + _ ≤ _; exact Nat.le_of_eq rfl) (hb hby own_d18_23) (fun _ _ => ⟨rfl, rfl, (by decide : 1 + 1 ≤ _), (by decide : 4 + 8 ≤ _)⟩)
    dsimp only [Pt.U, Pt.locs, Pt.cells, Pt.slots] at X8 l8 y8 z8 st8 hQ8
    subst l8 y8 z8
    obtain ⟨d8, kd8, rfl, Nq8, Kq8, zq8, Vq8⟩ := hQ8
    have N8 := Fr.app N5 Nq8
    have ne_u0_d8 : u0 ≠ d8 := Nat.ne_of_lt (Nat.lt_of_lt_of_le (f_7).lt zq8)
    have ne_b1_d8 : b1 ≠ d8 := Nat.ne_of_lt (Nat.lt_of_lt_of_le (Vq5).lt zq8)
    have g_d8 : n0 ≤ d8 := Nat.le_trans (own_old O6) zq8
    have sz_d8 : h0.size ≤ d8 := Nat.le_trans K6.1 zq8
    have O9 := O6.keep Kq8 all0
    have K9 : Keep h0 T8.heap [] := K6.trans Kq8 all0
    refine own_on (B := T8.setTop (mkF m 26 #[rv u0, iv (0 : Int32), iv (4 : Int32), rv b1, iv (0 : Int32), .unset] [(.ref d8)])) (fun tz kz => st8 _ kz) ?_
    refine own_on (B := T8.setTop (mkF m 32 #[rv u0, iv (0 : Int32), iv (4 : Int32), rv b1, iv (0 : Int32), rv d8] [(.int (0 : Int32)), (.ref d8)])) (fun tz kz => ?_) ?_
    · show sT p e below T8 (mkF m 26 #[rv u0, iv (0 : Int32), iv (4 : Int32), rv b1, iv (0 : Int32), .unset] [(.ref d8)]) tz
      refine XS.astore X8.here hx rfl (hb hby own_d18_26) rfl rfl (l' := #[rv u0, iv (0 : Int32), iv (4 : Int32), rv b1, iv (0 : Int32), rv d8]) rfl ?_
      show sT p e below T8 (mkF m 28 #[rv u0, iv (0 : Int32), iv (4 : Int32), rv b1, iv (0 : Int32), rv d8] []) tz
      refine XS.aload X8.here hx rfl (hb hby own_d18_28) rfl rfl ?_
      show sT p e below T8 (mkF m 30 #[rv u0, iv (0 : Int32), iv (4 : Int32), rv b1, iv (0 : Int32), rv d8] [(.ref d8)]) tz
      refine XS.iload X8.here hx rfl (hb hby own_d18_30) rfl ?_
      exact kz
    obtain ⟨_, _, ⟨T10, L10, k10, n10⟩, -, X10, ⟨Lc10, hQ10, l10, y10, z10⟩, st10⟩ := Jvm.LawKit.callS X8 hx (y := (⟨"java/lang/StringUTF16", "getChar", "([BI)C"⟩ : MethodName)) hown (mvT hZ (own_w hw 128 rfl)) (mvT hZ (own_w hw 129 rfl)) (mvT hZ (own_w hw 104 rfl)) (mvT hZ (own_w hw 130 rfl)) (by decide) (backOf (W := 0) (rm25a l Z a0 hw [] d8 kd8 (8 : Int32) [(.int (nar .byte ((x0 >>> ((0 : Int32) &&& 31)).toInt8.toInt32))), (.int (nar .byte ((x0 >>> ((8 : Int32) &&& 31)).toInt8.toInt32))), (.int (nar .byte ((x1 >>> ((0 : Int32) &&& 31)).toInt8.toInt32))), (.int (nar .byte ((x1 >>> ((8 : Int32) &&& 31)).toInt8.toInt32))), (.int (nar .byte ((x2 >>> ((0 : Int32) &&& 31)).toInt8.toInt32))), (.int (nar .byte ((x2 >>> ((8 : Int32) &&& 31)).toInt8.toInt32))), (.int (nar .byte ((x3 >>> ((0 : Int32) &&& 31)).toInt8.toInt32))), (.int (nar .byte ((x3 >>> ((8 : Int32) &&& 31)).toInt8.toInt32)))] (nar .byte ((x0 >>> ((0 : Int32) &&& 31)).toInt8.toInt32)) (nar .byte ((x0 >>> ((8 : Int32) &&& 31)).toInt8.toInt32)) x0 T8.heap n0 O9 S_as S_hi S_lo Vq8 (by decide) rfl rfl (own_chr x0 l0 u0_) (own_narC x0 l0 u0_)) hZ (own_w hw 130 rfl) (own_w hw 104 rfl) (by decide) (by decide)) (g := (mkF m 32 #[rv u0, iv (0 : Int32), iv (4 : Int32), rv b1, iv (0 : Int32), rv d8] [(.int (0 : Int32)), (.ref d8)])) rfl (by rw [hml]; rfl) (argsL := [(.ref d8), (.int (0 : Int32))]) (rest := []) (lenOf own_pd5 rfl) rfl (by show 2 * 0 + _ ≤ _; exact Nat.le_of_eq rfl) (hb hby own_d18_32) (fun _ _ => ⟨rfl, rfl, (by decide : 2 + 0 ≤ _), (by decide : 12 + 0 ≤ _)⟩)
    dsimp only [Pt.U, Pt.locs, Pt.cells, Pt.slots] at X10 l10 y10 z10 st10 hQ10
    subst l10 y10 z10
    obtain ⟨rfl, Nq10, e10⟩ := hQ10
    have N10 := Fr.app N8 Nq10
    refine own_on (B := T10.setTop (mkF m 35 #[rv u0, iv (0 : Int32), iv (4 : Int32), rv b1, iv (0 : Int32), rv d8] [(.int x0)])) (fun tz kz => st10 _ kz) ?_
    refine own_on (B := T10.setTop (mkF m 56 #[rv u0, iv (0 : Int32), iv (4 : Int32), rv b1, iv (0 : Int32), rv d8] [(.ref d8)])) (fun tz kz => ?_) ?_
    · show sT p e below T10 (mkF m 35 #[rv u0, iv (0 : Int32), iv (4 : Int32), rv b1, iv (0 : Int32), rv d8] [(.int x0)]) tz
      refine XS.sipush X10.here hx rfl (hb hby own_d18_35) ?_
      show sT p e below T10 (mkF m 38 #[rv u0, iv (0 : Int32), iv (4 : Int32), rv b1, iv (0 : Int32), rv d8] [(.int (255 : Int32)), (.int x0)]) tz
      refine XS.icmpYes X10.here hx rfl (pc0 := 38) (pc' := 54) rfl (hb hby own_d18_38) rfl (tlt hs0).2.2.1 (by decide) (by decide) ?_
      show sT p e below T10 (mkF m 54 #[rv u0, iv (0 : Int32), iv (4 : Int32), rv b1, iv (0 : Int32), rv d8] []) tz
      refine XS.aload X10.here hx rfl (hb hby own_d18_54) rfl rfl ?_
      exact kz
    obtain ⟨fs, hr, hrun, hended, hW, hsame⟩ := X10.leave (v := some (.ref d8)) (fun h => by rw [Bd.returns] at h; cases h)
    refine own_of ⟨_, _, ?_, hrun, hended, _, _, rfl, ?_, ⟨_, rfl⟩, hW, hsame.mono (by decide) (by decide)⟩
    · show sT p e below T10 (mkF m 56 #[rv u0, iv (0 : Int32), iv (4 : Int32), rv b1, iv (0 : Int32), rv d8] [(.ref d8)]) _
      exact own_retV X10 hx Bd.returns rfl rfl (hb hby own_d18_56) hr
    · show Q18d Z u0 kx x0 x1 x2 x3 h0 n0 _ T10.heap _
      rw [e10]
      exact ⟨d8, (8 : Int32), 1, rfl, N10, K9, sz_d8, OwnArz.of Vq8, Or.inr ⟨rfl, rfl⟩⟩
  · by_cases hs1 : (255 : Int32) < x1
    · rw [if_neg hs0, if_pos hs1]
      have f_11 := (f_4.keep Kq5 (ninS ne_u0_b1 nin0))
      refine own_on (B := T5.setTop (mkF m 23 #[rv u0, iv (0 : Int32), iv (4 : Int32), rv b1, iv (1 : Int32), .unset] [(.int (4 : Int32)), (.int (0 : Int32)), (.ref u0)])) (fun tz kz => ?_) ?_
      · show sT p e below T5 (mkF m 12 #[rv u0, iv (0 : Int32), iv (4 : Int32), rv b1, .unset, .unset] [(.int (1 : Int32))]) tz
        refine XS.istore X5.here hx rfl (hb hby own_d18_12) rfl (l' := #[rv u0, iv (0 : Int32), iv (4 : Int32), rv b1, iv (1 : Int32), .unset]) rfl ?_
        show sT p e below T5 (mkF m 14 #[rv u0, iv (0 : Int32), iv (4 : Int32), rv b1, iv (1 : Int32), .unset] []) tz
        refine XS.iload X5.here hx rfl (hb hby own_d18_14) rfl ?_
        show sT p e below T5 (mkF m 16 #[rv u0, iv (0 : Int32), iv (4 : Int32), rv b1, iv (1 : Int32), .unset] [(.int (1 : Int32))]) tz
        refine XS.iloadN X5.here hx rfl (hb hby own_d18_16) rfl ?_
        show sT p e below T5 (mkF m 17 #[rv u0, iv (0 : Int32), iv (4 : Int32), rv b1, iv (1 : Int32), .unset] [(.int (4 : Int32)), (.int (1 : Int32))]) tz
        refine XS.icmpNo X5.here hx rfl (hb hby own_d18_17) rfl (feq (by decide : ¬ ((1 : Int32) = (4 : Int32)))).1 ?_
        show sT p e below T5 (mkF m 20 #[rv u0, iv (0 : Int32), iv (4 : Int32), rv b1, iv (1 : Int32), .unset] []) tz
        refine XS.aloadN X5.here hx rfl (hb hby own_d18_20) rfl rfl ?_
        show sT p e below T5 (mkF m 21 #[rv u0, iv (0 : Int32), iv (4 : Int32), rv b1, iv (1 : Int32), .unset] [(.ref u0)]) tz
        refine XS.iloadN X5.here hx rfl (hb hby own_d18_21) rfl ?_
        show sT p e below T5 (mkF m 22 #[rv u0, iv (0 : Int32), iv (4 : Int32), rv b1, iv (1 : Int32), .unset] [(.int (0 : Int32)), (.ref u0)]) tz
        refine XS.iloadN X5.here hx rfl (hb hby own_d18_22) rfl ?_
        exact kz
      obtain ⟨_, _, ⟨T12, L12, k12, n12⟩, -, X12, ⟨Lc12, hQ12, l12, y12, z12⟩, st12⟩ := Jvm.LawKit.callS X5 hx (y := (⟨"java/lang/StringUTF16", "toBytes", "([CII)[B"⟩ : MethodName)) hown (mvT hZ (own_w hw 112 rfl)) (mvT hZ (own_w hw 113 rfl)) (mvT hZ (own_w hw 104 rfl)) (mvT hZ (own_w hw 114 rfl)) (by decide) (backOf (W := 0) (rm21d l Z a0 hw [] u0 kx x0 x1 x2 x3 T5.heap n0 O6 S_as S_hi S_lo f_11) hZ (own_w hw 114 rfl) (own_w hw 104 rfl) (by decide) (by decide)) (g := (mkF m 23 #[rv u0, iv (0 : Int32), iv (4 : Int32), rv b1, iv (1 : Int32), .unset] [(.int (4 : Int32)), (.int (0 : Int32)), (.ref u0)])) rfl (by rw [hml]; rfl) (argsL := [(.ref u0), (.int (0 : Int32)), (.int (4 : Int32))]) (rest := []) (lenOf own_pd4 rfl) rfl (by show 2 * 0 + _ ≤ _; exact Nat.le_of_eq rfl) (hb hby own_d18_23) (fun _ _ => ⟨rfl, rfl, (by decide : 1 + 1 ≤ _), (by decide : 4 + 8 ≤ _)⟩)
      dsimp only [Pt.U, Pt.locs, Pt.cells, Pt.slots] at X12 l12 y12 z12 st12 hQ12
      subst l12 y12 z12
      obtain ⟨d12, kd12, rfl, Nq12, Kq12, zq12, Vq12⟩ := hQ12
      have N12 := Fr.app N5 Nq12
      have ne_u0_d12 : u0 ≠ d12 := Nat.ne_of_lt (Nat.lt_of_lt_of_le (f_11).lt zq12)
      have ne_b1_d12 : b1 ≠ d12 := Nat.ne_of_lt (Nat.lt_of_lt_of_le (Vq5).lt zq12)
      have g_d12 : n0 ≤ d12 := Nat.le_trans (own_old O6) zq12
      have sz_d12 : h0.size ≤ d12 := Nat.le_trans K6.1 zq12
      have O13 := O6.keep Kq12 all0
      have K13 : Keep h0 T12.heap [] := K6.trans Kq12 all0
      refine own_on (B := T12.setTop (mkF m 26 #[rv u0, iv (0 : Int32), iv (4 : Int32), rv b1, iv (1 : Int32), .unset] [(.ref d12)])) (fun tz kz => st12 _ kz) ?_
      refine own_on (B := T12.setTop (mkF m 32 #[rv u0, iv (0 : Int32), iv (4 : Int32), rv b1, iv (1 : Int32), rv d12] [(.int (1 : Int32)), (.ref d12)])) (fun tz kz => ?_) ?_
      · show sT p e below T12 (mkF m 26 #[rv u0, iv (0 : Int32), iv (4 : Int32), rv b1, iv (1 : Int32), .unset] [(.ref d12)]) tz
        refine XS.astore X12.here hx rfl (hb hby own_d18_26) rfl rfl (l' := #[rv u0, iv (0 : Int32), iv (4 : Int32), rv b1, iv (1 : Int32), rv d12]) rfl ?_
        show sT p e below T12 (mkF m 28 #[rv u0, iv (0 : Int32), iv (4 : Int32), rv b1, iv (1 : Int32), rv d12] []) tz
        refine XS.aload X12.here hx rfl (hb hby own_d18_28) rfl rfl ?_
        show sT p e below T12 (mkF m 30 #[rv u0, iv (0 : Int32), iv (4 : Int32), rv b1, iv (1 : Int32), rv d12] [(.ref d12)]) tz
        refine XS.iload X12.here hx rfl (hb hby own_d18_30) rfl ?_
        exact kz
      obtain ⟨_, _, ⟨T14, L14, k14, n14⟩, -, X14, ⟨Lc14, hQ14, l14, y14, z14⟩, st14⟩ := Jvm.LawKit.callS X12 hx (y := (⟨"java/lang/StringUTF16", "getChar", "([BI)C"⟩ : MethodName)) hown (mvT hZ (own_w hw 128 rfl)) (mvT hZ (own_w hw 129 rfl)) (mvT hZ (own_w hw 104 rfl)) (mvT hZ (own_w hw 130 rfl)) (by decide) (backOf (W := 0) (rm25b l Z a0 hw [] d12 kd12 (8 : Int32) [(.int (nar .byte ((x0 >>> ((0 : Int32) &&& 31)).toInt8.toInt32))), (.int (nar .byte ((x0 >>> ((8 : Int32) &&& 31)).toInt8.toInt32))), (.int (nar .byte ((x1 >>> ((0 : Int32) &&& 31)).toInt8.toInt32))), (.int (nar .byte ((x1 >>> ((8 : Int32) &&& 31)).toInt8.toInt32))), (.int (nar .byte ((x2 >>> ((0 : Int32) &&& 31)).toInt8.toInt32))), (.int (nar .byte ((x2 >>> ((8 : Int32) &&& 31)).toInt8.toInt32))), (.int (nar .byte ((x3 >>> ((0 : Int32) &&& 31)).toInt8.toInt32))), (.int (nar .byte ((x3 >>> ((8 : Int32) &&& 31)).toInt8.toInt32)))] (nar .byte ((x1 >>> ((0 : Int32) &&& 31)).toInt8.toInt32)) (nar .byte ((x1 >>> ((8 : Int32) &&& 31)).toInt8.toInt32)) x1 T12.heap n0 O13 S_as S_hi S_lo Vq12 (by decide) rfl rfl (own_chr x1 l1 u1_) (own_narC x1 l1 u1_)) hZ (own_w hw 130 rfl) (own_w hw 104 rfl) (by decide) (by decide)) (g := (mkF m 32 #[rv u0, iv (0 : Int32), iv (4 : Int32), rv b1, iv (1 : Int32), rv d12] [(.int (1 : Int32)), (.ref d12)])) rfl (by rw [hml]; rfl) (argsL := [(.ref d12), (.int (1 : Int32))]) (rest := []) (lenOf own_pd5 rfl) rfl (by show 2 * 0 + _ ≤ _; exact Nat.le_of_eq rfl) (hb hby own_d18_32) (fun _ _ => ⟨rfl, rfl, (by decide : 2 + 0 ≤ _), (by decide : 12 + 0 ≤ _)⟩)
      dsimp only [Pt.U, Pt.locs, Pt.cells, Pt.slots] at X14 l14 y14 z14 st14 hQ14
      subst l14 y14 z14
      obtain ⟨rfl, Nq14, e14⟩ := hQ14
      have N14 := Fr.app N12 Nq14
      refine own_on (B := T14.setTop (mkF m 35 #[rv u0, iv (0 : Int32), iv (4 : Int32), rv b1, iv (1 : Int32), rv d12] [(.int x1)])) (fun tz kz => st14 _ kz) ?_
      refine own_on (B := T14.setTop (mkF m 56 #[rv u0, iv (0 : Int32), iv (4 : Int32), rv b1, iv (1 : Int32), rv d12] [(.ref d12)])) (fun tz kz => ?_) ?_
      · show sT p e below T14 (mkF m 35 #[rv u0, iv (0 : Int32), iv (4 : Int32), rv b1, iv (1 : Int32), rv d12] [(.int x1)]) tz
        refine XS.sipush X14.here hx rfl (hb hby own_d18_35) ?_
        show sT p e below T14 (mkF m 38 #[rv u0, iv (0 : Int32), iv (4 : Int32), rv b1, iv (1 : Int32), rv d12] [(.int (255 : Int32)), (.int x1)]) tz
        refine XS.icmpYes X14.here hx rfl (pc0 := 38) (pc' := 54) rfl (hb hby own_d18_38) rfl (tlt hs1).2.2.1 (by decide) (by decide) ?_
        show sT p e below T14 (mkF m 54 #[rv u0, iv (0 : Int32), iv (4 : Int32), rv b1, iv (1 : Int32), rv d12] []) tz
        refine XS.aload X14.here hx rfl (hb hby own_d18_54) rfl rfl ?_
        exact kz
      obtain ⟨fs, hr, hrun, hended, hW, hsame⟩ := X14.leave (v := some (.ref d12)) (fun h => by rw [Bd.returns] at h; cases h)
      refine own_of ⟨_, _, ?_, hrun, hended, _, _, rfl, ?_, ⟨_, rfl⟩, hW, hsame.mono (by decide) (by decide)⟩
      · show sT p e below T14 (mkF m 56 #[rv u0, iv (0 : Int32), iv (4 : Int32), rv b1, iv (1 : Int32), rv d12] [(.ref d12)]) _
        exact own_retV X14 hx Bd.returns rfl rfl (hb hby own_d18_56) hr
      · show Q18d Z u0 kx x0 x1 x2 x3 h0 n0 _ T14.heap _
        rw [e14]
        exact ⟨d12, (8 : Int32), 1, rfl, N14, K13, sz_d12, OwnArz.of Vq12, Or.inr ⟨rfl, rfl⟩⟩
    · by_cases hs2 : (255 : Int32) < x2
      · rw [if_neg hs0, if_neg hs1, if_pos hs2]
        have f_15 := (f_4.keep Kq5 (ninS ne_u0_b1 nin0))
        refine own_on (B := T5.setTop (mkF m 23 #[rv u0, iv (0 : Int32), iv (4 : Int32), rv b1, iv (2 : Int32), .unset] [(.int (4 : Int32)), (.int (0 : Int32)), (.ref u0)])) (fun tz kz => ?_) ?_
        · show sT p e below T5 (mkF m 12 #[rv u0, iv (0 : Int32), iv (4 : Int32), rv b1, .unset, .unset] [(.int (2 : Int32))]) tz
          refine XS.istore X5.here hx rfl (hb hby own_d18_12) rfl (l' := #[rv u0, iv (0 : Int32), iv (4 : Int32), rv b1, iv (2 : Int32), .unset]) rfl ?_
          show sT p e below T5 (mkF m 14 #[rv u0, iv (0 : Int32), iv (4 : Int32), rv b1, iv (2 : Int32), .unset] []) tz
          refine XS.iload X5.here hx rfl (hb hby own_d18_14) rfl ?_
          show sT p e below T5 (mkF m 16 #[rv u0, iv (0 : Int32), iv (4 : Int32), rv b1, iv (2 : Int32), .unset] [(.int (2 : Int32))]) tz
          refine XS.iloadN X5.here hx rfl (hb hby own_d18_16) rfl ?_
          show sT p e below T5 (mkF m 17 #[rv u0, iv (0 : Int32), iv (4 : Int32), rv b1, iv (2 : Int32), .unset] [(.int (4 : Int32)), (.int (2 : Int32))]) tz
          refine XS.icmpNo X5.here hx rfl (hb hby own_d18_17) rfl (feq (by decide : ¬ ((2 : Int32) = (4 : Int32)))).1 ?_
          show sT p e below T5 (mkF m 20 #[rv u0, iv (0 : Int32), iv (4 : Int32), rv b1, iv (2 : Int32), .unset] []) tz
          refine XS.aloadN X5.here hx rfl (hb hby own_d18_20) rfl rfl ?_
          show sT p e below T5 (mkF m 21 #[rv u0, iv (0 : Int32), iv (4 : Int32), rv b1, iv (2 : Int32), .unset] [(.ref u0)]) tz
          refine XS.iloadN X5.here hx rfl (hb hby own_d18_21) rfl ?_
          show sT p e below T5 (mkF m 22 #[rv u0, iv (0 : Int32), iv (4 : Int32), rv b1, iv (2 : Int32), .unset] [(.int (0 : Int32)), (.ref u0)]) tz
          refine XS.iloadN X5.here hx rfl (hb hby own_d18_22) rfl ?_
          exact kz
        obtain ⟨_, _, ⟨T16, L16, k16, n16⟩, -, X16, ⟨Lc16, hQ16, l16, y16, z16⟩, st16⟩ := Jvm.LawKit.callS X5 hx (y := (⟨"java/lang/StringUTF16", "toBytes", "([CII)[B"⟩ : MethodName)) hown (mvT hZ (own_w hw 112 rfl)) (mvT hZ (own_w hw 113 rfl)) (mvT hZ (own_w hw 104 rfl)) (mvT hZ (own_w hw 114 rfl)) (by decide) (backOf (W := 0) (rm21d l Z a0 hw [] u0 kx x0 x1 x2 x3 T5.heap n0 O6 S_as S_hi S_lo f_15) hZ (own_w hw 114 rfl) (own_w hw 104 rfl) (by decide) (by decide)) (g := (mkF m 23 #[rv u0, iv (0 : Int32), iv (4 : Int32), rv b1, iv (2 : Int32), .unset] [(.int (4 : Int32)), (.int (0 : Int32)), (.ref u0)])) rfl (by rw [hml]; rfl) (argsL := [(.ref u0), (.int (0 : Int32)), (.int (4 : Int32))]) (rest := []) (lenOf own_pd4 rfl) rfl (by show 2 * 0 + _ ≤ _; exact Nat.le_of_eq rfl) (hb hby own_d18_23) (fun _ _ => ⟨rfl, rfl, (by decide : 1 + 1 ≤ _), (by decide : 4 + 8 ≤ _)⟩)
        dsimp only [Pt.U, Pt.locs, Pt.cells, Pt.slots] at X16 l16 y16 z16 st16 hQ16
        subst l16 y16 z16
        obtain ⟨d16, kd16, rfl, Nq16, Kq16, zq16, Vq16⟩ := hQ16
        have N16 := Fr.app N5 Nq16
        have ne_u0_d16 : u0 ≠ d16 := Nat.ne_of_lt (Nat.lt_of_lt_of_le (f_15).lt zq16)
        have ne_b1_d16 : b1 ≠ d16 := Nat.ne_of_lt (Nat.lt_of_lt_of_le (Vq5).lt zq16)
        have g_d16 : n0 ≤ d16 := Nat.le_trans (own_old O6) zq16
        have sz_d16 : h0.size ≤ d16 := Nat.le_trans K6.1 zq16
        have O17 := O6.keep Kq16 all0
        have K17 : Keep h0 T16.heap [] := K6.trans Kq16 all0
        refine own_on (B := T16.setTop (mkF m 26 #[rv u0, iv (0 : Int32), iv (4 : Int32), rv b1, iv (2 : Int32), .unset] [(.ref d16)])) (fun tz kz => st16 _ kz) ?_
        refine own_on (B := T16.setTop (mkF m 32 #[rv u0, iv (0 : Int32), iv (4 : Int32), rv b1, iv (2 : Int32), rv d16] [(.int (2 : Int32)), (.ref d16)])) (fun tz kz => ?_) ?_
        · show sT p e below T16 (mkF m 26 #[rv u0, iv (0 : Int32), iv (4 : Int32), rv b1, iv (2 : Int32), .unset] [(.ref d16)]) tz
          refine XS.astore X16.here hx rfl (hb hby own_d18_26) rfl rfl (l' := #[rv u0, iv (0 : Int32), iv (4 : Int32), rv b1, iv (2 : Int32), rv d16]) rfl ?_
          show sT p e below T16 (mkF m 28 #[rv u0, iv (0 : Int32), iv (4 : Int32), rv b1, iv (2 : Int32), rv d16] []) tz
          refine XS.aload X16.here hx rfl (hb hby own_d18_28) rfl rfl ?_
          show sT p e below T16 (mkF m 30 #[rv u0, iv (0 : Int32), iv (4 : Int32), rv b1, iv (2 : Int32), rv d16] [(.ref d16)]) tz
          refine XS.iload X16.here hx rfl (hb hby own_d18_30) rfl ?_
          exact kz
        obtain ⟨_, _, ⟨T18, L18, k18, n18⟩, -, X18, ⟨Lc18, hQ18, l18, y18, z18⟩, st18⟩ := Jvm.LawKit.callS X16 hx (y := (⟨"java/lang/StringUTF16", "getChar", "([BI)C"⟩ : MethodName)) hown (mvT hZ (own_w hw 128 rfl)) (mvT hZ (own_w hw 129 rfl)) (mvT hZ (own_w hw 104 rfl)) (mvT hZ (own_w hw 130 rfl)) (by decide) (backOf (W := 0) (rm25c l Z a0 hw [] d16 kd16 (8 : Int32) [(.int (nar .byte ((x0 >>> ((0 : Int32) &&& 31)).toInt8.toInt32))), (.int (nar .byte ((x0 >>> ((8 : Int32) &&& 31)).toInt8.toInt32))), (.int (nar .byte ((x1 >>> ((0 : Int32) &&& 31)).toInt8.toInt32))), (.int (nar .byte ((x1 >>> ((8 : Int32) &&& 31)).toInt8.toInt32))), (.int (nar .byte ((x2 >>> ((0 : Int32) &&& 31)).toInt8.toInt32))), (.int (nar .byte ((x2 >>> ((8 : Int32) &&& 31)).toInt8.toInt32))), (.int (nar .byte ((x3 >>> ((0 : Int32) &&& 31)).toInt8.toInt32))), (.int (nar .byte ((x3 >>> ((8 : Int32) &&& 31)).toInt8.toInt32)))] (nar .byte ((x2 >>> ((0 : Int32) &&& 31)).toInt8.toInt32)) (nar .byte ((x2 >>> ((8 : Int32) &&& 31)).toInt8.toInt32)) x2 T16.heap n0 O17 S_as S_hi S_lo Vq16 (by decide) rfl rfl (own_chr x2 l2 u2_) (own_narC x2 l2 u2_)) hZ (own_w hw 130 rfl) (own_w hw 104 rfl) (by decide) (by decide)) (g := (mkF m 32 #[rv u0, iv (0 : Int32), iv (4 : Int32), rv b1, iv (2 : Int32), rv d16] [(.int (2 : Int32)), (.ref d16)])) rfl (by rw [hml]; rfl) (argsL := [(.ref d16), (.int (2 : Int32))]) (rest := []) (lenOf own_pd5 rfl) rfl (by show 2 * 0 + _ ≤ _; exact Nat.le_of_eq rfl) (hb hby own_d18_32) (fun _ _ => ⟨rfl, rfl, (by decide : 2 + 0 ≤ _), (by decide : 12 + 0 ≤ _)⟩)
        dsimp only [Pt.U, Pt.locs, Pt.cells, Pt.slots] at X18 l18 y18 z18 st18 hQ18
        subst l18 y18 z18
        obtain ⟨rfl, Nq18, e18⟩ := hQ18
        have N18 := Fr.app N16 Nq18
        refine own_on (B := T18.setTop (mkF m 35 #[rv u0, iv (0 : Int32), iv (4 : Int32), rv b1, iv (2 : Int32), rv d16] [(.int x2)])) (fun tz kz => st18 _ kz) ?_
        refine own_on (B := T18.setTop (mkF m 56 #[rv u0, iv (0 : Int32), iv (4 : Int32), rv b1, iv (2 : Int32), rv d16] [(.ref d16)])) (fun tz kz => ?_) ?_
        · show sT p e below T18 (mkF m 35 #[rv u0, iv (0 : Int32), iv (4 : Int32), rv b1, iv (2 : Int32), rv d16] [(.int x2)]) tz
          refine XS.sipush X18.here hx rfl (hb hby own_d18_35) ?_
          show sT p e below T18 (mkF m 38 #[rv u0, iv (0 : Int32), iv (4 : Int32), rv b1, iv (2 : Int32), rv d16] [(.int (255 : Int32)), (.int x2)]) tz
          refine XS.icmpYes X18.here hx rfl (pc0 := 38) (pc' := 54) rfl (hb hby own_d18_38) rfl (tlt hs2).2.2.1 (by decide) (by decide) ?_
          show sT p e below T18 (mkF m 54 #[rv u0, iv (0 : Int32), iv (4 : Int32), rv b1, iv (2 : Int32), rv d16] []) tz
          refine XS.aload X18.here hx rfl (hb hby own_d18_54) rfl rfl ?_
          exact kz
        obtain ⟨fs, hr, hrun, hended, hW, hsame⟩ := X18.leave (v := some (.ref d16)) (fun h => by rw [Bd.returns] at h; cases h)
        refine own_of ⟨_, _, ?_, hrun, hended, _, _, rfl, ?_, ⟨_, rfl⟩, hW, hsame.mono (by decide) (by decide)⟩
        · show sT p e below T18 (mkF m 56 #[rv u0, iv (0 : Int32), iv (4 : Int32), rv b1, iv (2 : Int32), rv d16] [(.ref d16)]) _
          exact own_retV X18 hx Bd.returns rfl rfl (hb hby own_d18_56) hr
        · show Q18d Z u0 kx x0 x1 x2 x3 h0 n0 _ T18.heap _
          rw [e18]
          exact ⟨d16, (8 : Int32), 1, rfl, N18, K17, sz_d16, OwnArz.of Vq16, Or.inr ⟨rfl, rfl⟩⟩
      · by_cases hs3 : (255 : Int32) < x3
        · rw [if_neg hs0, if_neg hs1, if_neg hs2, if_pos hs3]
          have f_19 := (f_4.keep Kq5 (ninS ne_u0_b1 nin0))
          refine own_on (B := T5.setTop (mkF m 23 #[rv u0, iv (0 : Int32), iv (4 : Int32), rv b1, iv (3 : Int32), .unset] [(.int (4 : Int32)), (.int (0 : Int32)), (.ref u0)])) (fun tz kz => ?_) ?_
          · show sT p e below T5 (mkF m 12 #[rv u0, iv (0 : Int32), iv (4 : Int32), rv b1, .unset, .unset] [(.int (3 : Int32))]) tz
            refine XS.istore X5.here hx rfl (hb hby own_d18_12) rfl (l' := #[rv u0, iv (0 : Int32), iv (4 : Int32), rv b1, iv (3 : Int32), .unset]) rfl ?_
            show sT p e below T5 (mkF m 14 #[rv u0, iv (0 : Int32), iv (4 : Int32), rv b1, iv (3 : Int32), .unset] []) tz
            refine XS.iload X5.here hx rfl (hb hby own_d18_14) rfl ?_
            show sT p e below T5 (mkF m 16 #[rv u0, iv (0 : Int32), iv (4 : Int32), rv b1, iv (3 : Int32), .unset] [(.int (3 : Int32))]) tz
            refine XS.iloadN X5.here hx rfl (hb hby own_d18_16) rfl ?_
            show sT p e below T5 (mkF m 17 #[rv u0, iv (0 : Int32), iv (4 : Int32), rv b1, iv (3 : Int32), .unset] [(.int (4 : Int32)), (.int (3 : Int32))]) tz
            refine XS.icmpNo X5.here hx rfl (hb hby own_d18_17) rfl (feq (by decide : ¬ ((3 : Int32) = (4 : Int32)))).1 ?_
            show sT p e below T5 (mkF m 20 #[rv u0, iv (0 : Int32), iv (4 : Int32), rv b1, iv (3 : Int32), .unset] []) tz
            refine XS.aloadN X5.here hx rfl (hb hby own_d18_20) rfl rfl ?_
            show sT p e below T5 (mkF m 21 #[rv u0, iv (0 : Int32), iv (4 : Int32), rv b1, iv (3 : Int32), .unset] [(.ref u0)]) tz
            refine XS.iloadN X5.here hx rfl (hb hby own_d18_21) rfl ?_
            show sT p e below T5 (mkF m 22 #[rv u0, iv (0 : Int32), iv (4 : Int32), rv b1, iv (3 : Int32), .unset] [(.int (0 : Int32)), (.ref u0)]) tz
            refine XS.iloadN X5.here hx rfl (hb hby own_d18_22) rfl ?_
            exact kz
          obtain ⟨_, _, ⟨T20, L20, k20, n20⟩, -, X20, ⟨Lc20, hQ20, l20, y20, z20⟩, st20⟩ := Jvm.LawKit.callS X5 hx (y := (⟨"java/lang/StringUTF16", "toBytes", "([CII)[B"⟩ : MethodName)) hown (mvT hZ (own_w hw 112 rfl)) (mvT hZ (own_w hw 113 rfl)) (mvT hZ (own_w hw 104 rfl)) (mvT hZ (own_w hw 114 rfl)) (by decide) (backOf (W := 0) (rm21d l Z a0 hw [] u0 kx x0 x1 x2 x3 T5.heap n0 O6 S_as S_hi S_lo f_19) hZ (own_w hw 114 rfl) (own_w hw 104 rfl) (by decide) (by decide)) (g := (mkF m 23 #[rv u0, iv (0 : Int32), iv (4 : Int32), rv b1, iv (3 : Int32), .unset] [(.int (4 : Int32)), (.int (0 : Int32)), (.ref u0)])) rfl (by rw [hml]; rfl) (argsL := [(.ref u0), (.int (0 : Int32)), (.int (4 : Int32))]) (rest := []) (lenOf own_pd4 rfl) rfl (by show 2 * 0 + _ ≤ _; exact Nat.le_of_eq rfl) (hb hby own_d18_23) (fun _ _ => ⟨rfl, rfl, (by decide : 1 + 1 ≤ _), (by decide : 4 + 8 ≤ _)⟩)
          dsimp only [Pt.U, Pt.locs, Pt.cells, Pt.slots] at X20 l20 y20 z20 st20 hQ20
          subst l20 y20 z20
          obtain ⟨d20, kd20, rfl, Nq20, Kq20, zq20, Vq20⟩ := hQ20
          have N20 := Fr.app N5 Nq20
          have ne_u0_d20 : u0 ≠ d20 := Nat.ne_of_lt (Nat.lt_of_lt_of_le (f_19).lt zq20)
          have ne_b1_d20 : b1 ≠ d20 := Nat.ne_of_lt (Nat.lt_of_lt_of_le (Vq5).lt zq20)
          have g_d20 : n0 ≤ d20 := Nat.le_trans (own_old O6) zq20
          have sz_d20 : h0.size ≤ d20 := Nat.le_trans K6.1 zq20
          have O21 := O6.keep Kq20 all0
          have K21 : Keep h0 T20.heap [] := K6.trans Kq20 all0
          refine own_on (B := T20.setTop (mkF m 26 #[rv u0, iv (0 : Int32), iv (4 : Int32), rv b1, iv (3 : Int32), .unset] [(.ref d20)])) (fun tz kz => st20 _ kz) ?_
          refine own_on (B := T20.setTop (mkF m 32 #[rv u0, iv (0 : Int32), iv (4 : Int32), rv b1, iv (3 : Int32), rv d20] [(.int (3 : Int32)), (.ref d20)])) (fun tz kz => ?_) ?_
          · show sT p e below T20 (mkF m 26 #[rv u0, iv (0 : Int32), iv (4 : Int32), rv b1, iv (3 : Int32), .unset] [(.ref d20)]) tz
            refine XS.astore X20.here hx rfl (hb hby own_d18_26) rfl rfl (l' := #[rv u0, iv (0 : Int32), iv (4 : Int32), rv b1, iv (3 : Int32), rv d20]) rfl ?_
            show sT p e below T20 (mkF m 28 #[rv u0, iv (0 : Int32), iv (4 : Int32), rv b1, iv (3 : Int32), rv d20] []) tz
            refine XS.aload X20.here hx rfl (hb hby own_d18_28) rfl rfl ?_
            show sT p e below T20 (mkF m 30 #[rv u0, iv (0 : Int32), iv (4 : Int32), rv b1, iv (3 : Int32), rv d20] [(.ref d20)]) tz
            refine XS.iload X20.here hx rfl (hb hby own_d18_30) rfl ?_
            exact kz
          obtain ⟨_, _, ⟨T22, L22, k22, n22⟩, -, X22, ⟨Lc22, hQ22, l22, y22, z22⟩, st22⟩ := Jvm.LawKit.callS X20 hx (y := (⟨"java/lang/StringUTF16", "getChar", "([BI)C"⟩ : MethodName)) hown (mvT hZ (own_w hw 128 rfl)) (mvT hZ (own_w hw 129 rfl)) (mvT hZ (own_w hw 104 rfl)) (mvT hZ (own_w hw 130 rfl)) (by decide) (backOf (W := 0) (rm25d l Z a0 hw [] d20 kd20 (8 : Int32) [(.int (nar .byte ((x0 >>> ((0 : Int32) &&& 31)).toInt8.toInt32))), (.int (nar .byte ((x0 >>> ((8 : Int32) &&& 31)).toInt8.toInt32))), (.int (nar .byte ((x1 >>> ((0 : Int32) &&& 31)).toInt8.toInt32))), (.int (nar .byte ((x1 >>> ((8 : Int32) &&& 31)).toInt8.toInt32))), (.int (nar .byte ((x2 >>> ((0 : Int32) &&& 31)).toInt8.toInt32))), (.int (nar .byte ((x2 >>> ((8 : Int32) &&& 31)).toInt8.toInt32))), (.int (nar .byte ((x3 >>> ((0 : Int32) &&& 31)).toInt8.toInt32))), (.int (nar .byte ((x3 >>> ((8 : Int32) &&& 31)).toInt8.toInt32)))] (nar .byte ((x3 >>> ((0 : Int32) &&& 31)).toInt8.toInt32)) (nar .byte ((x3 >>> ((8 : Int32) &&& 31)).toInt8.toInt32)) x3 T20.heap n0 O21 S_as S_hi S_lo Vq20 (by decide) rfl rfl (own_chr x3 l3 u3_) (own_narC x3 l3 u3_)) hZ (own_w hw 130 rfl) (own_w hw 104 rfl) (by decide) (by decide)) (g := (mkF m 32 #[rv u0, iv (0 : Int32), iv (4 : Int32), rv b1, iv (3 : Int32), rv d20] [(.int (3 : Int32)), (.ref d20)])) rfl (by rw [hml]; rfl) (argsL := [(.ref d20), (.int (3 : Int32))]) (rest := []) (lenOf own_pd5 rfl) rfl (by show 2 * 0 + _ ≤ _; exact Nat.le_of_eq rfl) (hb hby own_d18_32) (fun _ _ => ⟨rfl, rfl, (by decide : 2 + 0 ≤ _), (by decide : 12 + 0 ≤ _)⟩)
          dsimp only [Pt.U, Pt.locs, Pt.cells, Pt.slots] at X22 l22 y22 z22 st22 hQ22
          subst l22 y22 z22
          obtain ⟨rfl, Nq22, e22⟩ := hQ22
          have N22 := Fr.app N20 Nq22
          refine own_on (B := T22.setTop (mkF m 35 #[rv u0, iv (0 : Int32), iv (4 : Int32), rv b1, iv (3 : Int32), rv d20] [(.int x3)])) (fun tz kz => st22 _ kz) ?_
          refine own_on (B := T22.setTop (mkF m 56 #[rv u0, iv (0 : Int32), iv (4 : Int32), rv b1, iv (3 : Int32), rv d20] [(.ref d20)])) (fun tz kz => ?_) ?_
          · show sT p e below T22 (mkF m 35 #[rv u0, iv (0 : Int32), iv (4 : Int32), rv b1, iv (3 : Int32), rv d20] [(.int x3)]) tz
            refine XS.sipush X22.here hx rfl (hb hby own_d18_35) ?_
            show sT p e below T22 (mkF m 38 #[rv u0, iv (0 : Int32), iv (4 : Int32), rv b1, iv (3 : Int32), rv d20] [(.int (255 : Int32)), (.int x3)]) tz
            refine XS.icmpYes X22.here hx rfl (pc0 := 38) (pc' := 54) rfl (hb hby own_d18_38) rfl (tlt hs3).2.2.1 (by decide) (by decide) ?_
            show sT p e below T22 (mkF m 54 #[rv u0, iv (0 : Int32), iv (4 : Int32), rv b1, iv (3 : Int32), rv d20] []) tz
            refine XS.aload X22.here hx rfl (hb hby own_d18_54) rfl rfl ?_
            exact kz
          obtain ⟨fs, hr, hrun, hended, hW, hsame⟩ := X22.leave (v := some (.ref d20)) (fun h => by rw [Bd.returns] at h; cases h)
          refine own_of ⟨_, _, ?_, hrun, hended, _, _, rfl, ?_, ⟨_, rfl⟩, hW, hsame.mono (by decide) (by decide)⟩
          · show sT p e below T22 (mkF m 56 #[rv u0, iv (0 : Int32), iv (4 : Int32), rv b1, iv (3 : Int32), rv d20] [(.ref d20)]) _
            exact own_retV X22 hx Bd.returns rfl rfl (hb hby own_d18_56) hr
          · show Q18d Z u0 kx x0 x1 x2 x3 h0 n0 _ T22.heap _
            rw [e22]
            exact ⟨d20, (8 : Int32), 1, rfl, N22, K21, sz_d20, OwnArz.of Vq20, Or.inr ⟨rfl, rfl⟩⟩
        · rw [if_neg hs0, if_neg hs1, if_neg hs2, if_neg hs3]
          refine own_on (B := T5.setTop (mkF m 58 #[rv u0, iv (0 : Int32), iv (4 : Int32), rv b1, iv (4 : Int32), .unset] [(.ref b1)])) (fun tz kz => ?_) ?_
          · show sT p e below T5 (mkF m 12 #[rv u0, iv (0 : Int32), iv (4 : Int32), rv b1, .unset, .unset] [(.int (4 : Int32))]) tz
            refine XS.istore X5.here hx rfl (hb hby own_d18_12) rfl (l' := #[rv u0, iv (0 : Int32), iv (4 : Int32), rv b1, iv (4 : Int32), .unset]) rfl ?_
            show sT p e below T5 (mkF m 14 #[rv u0, iv (0 : Int32), iv (4 : Int32), rv b1, iv (4 : Int32), .unset] []) tz
            refine XS.iload X5.here hx rfl (hb hby own_d18_14) rfl ?_
            show sT p e below T5 (mkF m 16 #[rv u0, iv (0 : Int32), iv (4 : Int32), rv b1, iv (4 : Int32), .unset] [(.int (4 : Int32))]) tz
            refine XS.iloadN X5.here hx rfl (hb hby own_d18_16) rfl ?_
            show sT p e below T5 (mkF m 17 #[rv u0, iv (0 : Int32), iv (4 : Int32), rv b1, iv (4 : Int32), .unset] [(.int (4 : Int32)), (.int (4 : Int32))]) tz
            refine XS.icmpYes X5.here hx rfl (pc0 := 17) (pc' := 57) rfl (hb hby own_d18_17) rfl (teq rfl).1 (by decide) (by decide) ?_
            show sT p e below T5 (mkF m 57 #[rv u0, iv (0 : Int32), iv (4 : Int32), rv b1, iv (4 : Int32), .unset] []) tz
            refine XS.aloadN X5.here hx rfl (hb hby own_d18_57) rfl rfl ?_
            exact kz
          obtain ⟨fs, hr, hrun, hended, hW, hsame⟩ := X5.leave (v := some (.ref b1)) (fun h => by rw [Bd.returns] at h; cases h)
          refine own_of ⟨_, _, ?_, hrun, hended, _, _, rfl, ?_, ⟨_, rfl⟩, hW, hsame.mono (by decide) (by decide)⟩
          · show sT p e below T5 (mkF m 58 #[rv u0, iv (0 : Int32), iv (4 : Int32), rv b1, iv (4 : Int32), .unset] [(.ref b1)]) _
            exact own_retV X5 hx Bd.returns rfl rfl (hb hby own_d18_58) hr
          · show Q18d Z u0 kx x0 x1 x2 x3 h0 n0 _ T5.heap _
            exact ⟨b1, (4 : Int32), 0, rfl, N5, K6, sz_b1, Vq5, Or.inl ⟨rfl, rfl⟩⟩
theorem own_pn_java_lang_String : plainName "java/lang/String" = true := by first | (simp [plainName, overriddenIn]; done) | decide +kernel
theorem own_ef_3z (m : MethodId) (x0 : Addr) (x1 : Addr) (x2 : Int32) (x3 : Int32) : entryFrame m #[(.ref x0), (.ref x1), (.int x2), (.int x3), .null] 6 = mkF m 0 #[rv x0, rv x1, iv x2, iv x3, .val .null, .unset] [] := by first | (simp [entryFrame, mkF, argsToLocals, Value.category]; done) | rfl
def Q3z (Z : State) (u0 : Addr) (u1 : Addr) (h0 : Heap) (n0 : Nat) (v : Option Value) (h : Heap) (L : List Loc) : Prop := ∃ (b : Addr) (ln cd : Int32), v = none ∧ Fr n0 L ∧ Keep h0 h [u0] ∧ Fld Z h u0 "java/lang/String" "value" "[B" (.ref b) ∧ Fld Z h u0 "java/lang/String" "coder" "B" (.int cd) ∧ OwnArz Z h b .byte ln ∧ OwnLC (0 : Int32) ln cd
theorem own_d3_0 : decode jdk_42_method_149_code 0 = .ok (.aload_n 0, 1) := by decide +kernel
theorem own_d3_1 : decode jdk_42_method_149_code 1 = .ok (.invokespecial 1, 3) := by decide +kernel
theorem own_d3_4 : decode jdk_42_method_149_code 4 = .ok (.iload_n 3, 1) := by decide +kernel
theorem own_d3_5 : decode jdk_42_method_149_code 5 = .ok (.ifCond .ne 22, 3) := by decide +kernel
theorem own_d3_8 : decode jdk_42_method_149_code 8 = .ok (.aload_n 0, 1) := by decide +kernel
theorem own_d3_9 : decode jdk_42_method_149_code 9 = .ok (.ldc 7, 2) := by decide +kernel
theorem own_d3_11 : decode jdk_42_method_149_code 11 = .ok (.getfield 9, 3) := by decide +kernel
theorem own_d3_14 : decode jdk_42_method_149_code 14 = .ok (.putfield 9, 3) := by decide +kernel
theorem own_d3_17 : decode jdk_42_method_149_code 17 = .ok (.aload_n 0, 1) := by decide +kernel
theorem own_d3_18 : decode jdk_42_method_149_code 18 = .ok (.ldc 7, 2) := by decide +kernel
theorem own_d3_20 : decode jdk_42_method_149_code 20 = .ok (.getfield 15, 3) := by decide +kernel
theorem own_d3_23 : decode jdk_42_method_149_code 23 = .ok (.putfield 15, 3) := by decide +kernel
theorem own_d3_26 : decode jdk_42_method_149_code 26 = .ok (.return_, 1) := by decide +kernel
set_option maxRecDepth 65536 in
set_option maxHeartbeats 40000000 in
theorem rm3z (l : Launch) (Z : State) (a0 : Array Value) (hw : ∀ d ∈ tables_1, d.before a0 Z = true) (ws : List Jvm.Cond) (u0 : Addr) (u1 : Addr) (h0 : Heap) (n0 : Nat) (O0 : Old Z n0 h0) (E_u0 : Exa Z h0 u0 "java/lang/String") (g_u0 : n0 ≤ u0) (F_value : Fld Z h0 u0 "java/lang/String" "value" "[B" .null) (F_coder : Fld Z h0 u0 "java/lang/String" "coder" "B" (.int (0 : Int32))) (hheld : Jvm.Lit.constHeld Z "java/lang/String" 7) (hcw : Jvm.Lit.compactW.before a0 Z = true) :
    MetFree l (⟨"java/lang/String", "<init>", "([CIILjava/lang/Void;)V"⟩ : MethodName) (head1 (Jvm.Cond.code (⟨"java/lang/String", "<init>", "([CIILjava/lang/Void;)V"⟩ : MethodName) jdk_42_method_149_code 6 none :: ws) ({ frames := 1, cells := 2, slots := 4, locals := 12 } : Room)) (fun a U => a = #[(.ref u0), (.ref u1), (.int (0 : Int32)), (.int (0 : Int32)), .null] ∧ Z.Warmed39 U.vm ∧ U.heap = h0 ∧ U.vm.interned = Z.vm.interned) (fun _ _ _ _ _ => True) (fun _ U o U' => ∃ v L, o = .returned v ∧ Q3z Z u0 u1 h0 n0 v U'.heap L ∧ ReturnedEndW U o U' L ({ frames := 1, cells := 2, slots := 4, locals := 12 } : Room).cells ({ frames := 1, cells := 2, slots := 4, locals := 12 } : Room).slots) := by
  refine MetFree.of_bodySF (plainFor_of_name own_pn_java_lang_String) hisR ?_
  intro p e s m args below meth c s₁ Bd hml0 hP hK
  obtain ⟨rfl, hZ, hh, hI⟩ := hP
  have hx := Bd.exec
  have hby := Bd.bytes
  have hml : c.maxLocals = 6 := hml0
  have hown : s.vm.findClass "java/lang/String" = some m.cls := findClass_of_methodNamed Bd.named
  have hnm := (name_of_methodNamed Bd.named Bd.method).1
  have X0 : Stand p l e ({ frames := 1, cells := 2, slots := 4, locals := 12 } : Room) s m #[(.ref u0), (.ref u1), (.int (0 : Int32)), (.int (0 : Int32)), .null] below meth c s₁ [] 0 0 := Stand.of_body Bd
  have e0 : s₁.heap = h0 := by rw [← hh, Bd.state]; rfl
  have N0 := Fr.nil n0
  change Go p.tables e below _ _
  refine own_on (B := s₁.setTop (mkF m 0 #[rv u0, rv u1, iv (0 : Int32), iv (0 : Int32), .val .null, .unset] [])) (fun tz kz => castTop (own_ef_3z m u0 u1 (0 : Int32) (0 : Int32)) kz) ?_
  have own_strw : ∀ a ∈ Bundle.stringAtoms, a.before a0 Z = true := by
    intro d hd
    simp only [Bundle.stringAtoms, List.mem_cons, List.not_mem_nil, or_false] at hd
    rcases hd with rfl | rfl | rfl | rfl | rfl | rfl | rfl
    · exact (own_w hw 8 rfl)
    · exact (own_w hw 7 rfl)
    · exact (own_w hw 21 rfl)
    · exact (own_w hw 22 rfl)
    · exact (own_w hw 23 rfl)
    · exact (own_w hw 24 rfl)
    · exact (own_w hw 25 rfl)
  refine own_on (B := s₁.setTop (mkF m 1 #[rv u0, rv u1, iv (0 : Int32), iv (0 : Int32), .val .null, .unset] [(.ref u0)])) (fun tz kz => ?_) ?_
  · show sT p e below s₁ (mkF m 0 #[rv u0, rv u1, iv (0 : Int32), iv (0 : Int32), .val .null, .unset] []) tz
    refine XS.aloadN X0.here hx rfl (hb hby own_d3_0) rfl rfl ?_
    exact kz
  obtain ⟨T1, X1, e1, st1⟩ := initO X0 hx hZ hown (own_w hw 17 rfl) (own_w hw 18 rfl) (own_w hw 19 rfl) e0 (g := (mkF m 1 #[rv u0, rv u1, iv (0 : Int32), iv (0 : Int32), .val .null, .unset] [(.ref u0)])) rfl (by rw [hml]; rfl) rfl (hb hby own_d3_1) (by decide) (W := 0) (by show 2 * 0 + _ ≤ _; exact Nat.le_of_eq rfl) (by decide)
  refine own_on (B := T1.setTop (mkF m 4 #[rv u0, rv u1, iv (0 : Int32), iv (0 : Int32), .val .null, .unset] [])) (fun tz kz => st1 _ kz) ?_
  refine own_on (B := T1.setTop (mkF m 9 #[rv u0, rv u1, iv (0 : Int32), iv (0 : Int32), .val .null, .unset] [(.ref u0)])) (fun tz kz => ?_) ?_
  · show sT p e below T1 (mkF m 4 #[rv u0, rv u1, iv (0 : Int32), iv (0 : Int32), .val .null, .unset] []) tz
    refine XS.iloadN X1.here hx rfl (hb hby own_d3_4) rfl ?_
    show sT p e below T1 (mkF m 5 #[rv u0, rv u1, iv (0 : Int32), iv (0 : Int32), .val .null, .unset] [(.int (0 : Int32))]) tz
    refine XS.ifNo X1.here hx rfl (hb hby own_d3_5) rfl ((if0 _ _).trans (teq rfl).2) ?_
    show sT p e below T1 (mkF m 8 #[rv u0, rv u1, iv (0 : Int32), iv (0 : Int32), .val .null, .unset] []) tz
    refine XS.aloadN X1.here hx rfl (hb hby own_d3_8) rfl rfl ?_
    exact kz
  have hS2 : s.Since s.vm 0 := State.WarmedH.since (State.WarmedH.refl s) 0
  obtain ⟨a3, T3, h3, k3, b3, kb3, X3, e3, E3, hS3, hk3, hZ, hown, Ea3, Ca3, Va3, Wa3, lta3, ltb3, Ib3, Li3, st3⟩ := ldcSVL (show Stand p l e ({ frames := 1, cells := 2, slots := 4, locals := 12 } : Room) (s.setVm s.vm) m _ below meth c T1 _ _ _ from X1) hx hZ hown (own_w hw 20 rfl) own_strw e1 hS2 (Nat.zero_le _) (Fr.nil _) (by rw [hh]; exact O0.2.2) (⟨#[], by rw [hI]; simp, by simp⟩ : IB Z s.vm []) (by simp) hheld hcw (vs := []) (z := 0) ⟨by decide, rfl⟩ (by decide) rfl (g := (mkF m 9 #[rv u0, rv u1, iv (0 : Int32), iv (0 : Int32), .val .null, .unset] [(.ref u0)])) rfl (hb hby own_d3_9) (n := 0) (by decide) (by decide) (by decide) (by decide)
  have O4 := O0.ext E3
  have K4 : Keep h0 h3 [u0] := (Keep.refl h0 [u0]).ext E3
  refine own_on (B := T3.setTop (mkF m 11 #[rv u0, rv u1, iv (0 : Int32), iv (0 : Int32), .val .null, .unset] [(.ref a3), (.ref u0)])) (fun tz kz => st3 _ kz) ?_
  have f_5 := (F_value.ext E3)
  have ne_a : a3 ≠ u0 := (Va3).ne (f_5) (by simp)
  have f_6 := (E_u0.ext E3)
  have ne_b : b3 ≠ u0 := Ne.symm (Exa.neArv (f_6) (Wa3) (own_w hw 7 rfl))
  obtain ⟨T7, X7, e7, st7⟩ := getF X3 hx hZ hown (host := "") (Or.inl (own_w hw 26 rfl)) Via.refl e3 Va3 (g := (mkF m 11 #[rv u0, rv u1, iv (0 : Int32), iv (0 : Int32), .val .null, .unset] [(.ref a3), (.ref u0)])) rfl rfl (hb hby own_d3_11)
  refine own_on (B := T7.setTop (mkF m 14 #[rv u0, rv u1, iv (0 : Int32), iv (0 : Int32), .val .null, .unset] [(.ref b3), (.ref u0)])) (fun tz kz => st7 _ kz) ?_
  obtain ⟨T8, h8, X8, e8, W8, st8⟩ := putF X7 hx hZ hown (host := "") (Or.inl (own_w hw 26 rfl)) Via.refl e7 f_5 f_6 (Or.inr ⟨(own_w hw 22 rfl), rfl, hnm⟩) (own_w hw 7 rfl) (ty := (.array .byte)) (by decide) rfl rfl (g := (mkF m 14 #[rv u0, rv u1, iv (0 : Int32), iv (0 : Int32), .val .null, .unset] [(.ref b3), (.ref u0)])) rfl rfl (hb hby own_d3_14)
  have Fw8 := f_5.same W8
  have N8 := Fr.snoc X8 N0 g_u0
  have O9 := O4.wr W8 g_u0
  have K9 : Keep h0 h8 [u0] := K4.wr W8 (Or.inl (List.mem_of_getElem? (i := 0) rfl))
  refine own_on (B := T8.setTop (mkF m 17 #[rv u0, rv u1, iv (0 : Int32), iv (0 : Int32), .val .null, .unset] [])) (fun tz kz => st8 _ kz) ?_
  refine own_on (B := T8.setTop (mkF m 20 #[rv u0, rv u1, iv (0 : Int32), iv (0 : Int32), .val .null, .unset] [(.ref a3), (.ref u0)])) (fun tz kz => ?_) ?_
  · show sT p e below T8 (mkF m 17 #[rv u0, rv u1, iv (0 : Int32), iv (0 : Int32), .val .null, .unset] []) tz
    refine XS.aloadN X8.here hx rfl (hb hby own_d3_17) rfl rfl ?_
    show sT p e below T8 (mkF m 18 #[rv u0, rv u1, iv (0 : Int32), iv (0 : Int32), .val .null, .unset] [(.ref u0)]) tz
    refine ldcAgain X8 hx hZ hown (own_w hw 20 rfl) Li3 (g := (mkF m 18 #[rv u0, rv u1, iv (0 : Int32), iv (0 : Int32), .val .null, .unset] [(.ref u0)])) rfl (hb hby own_d3_18) _ ?_
    exact kz
  have f_10 := (Ca3.other W8 (Or.inl ne_a))
  obtain ⟨T11, X11, e11, st11⟩ := getF X8 hx hZ hown (host := "") (Or.inl (own_w hw 27 rfl)) Via.refl e8 f_10 (g := (mkF m 20 #[rv u0, rv u1, iv (0 : Int32), iv (0 : Int32), .val .null, .unset] [(.ref a3), (.ref u0)])) rfl rfl (hb hby own_d3_20)
  refine own_on (B := T11.setTop (mkF m 23 #[rv u0, rv u1, iv (0 : Int32), iv (0 : Int32), .val .null, .unset] [(.int (0 : Int32)), (.ref u0)])) (fun tz kz => st11 _ kz) ?_
  have f_12 := ((F_coder.ext E3).other W8 (Or.inr (slot_ne (Or.inr (own_w hw 23 rfl)) (Or.inr (own_w hw 22 rfl)) (by decide) (t := .byte) (t' := (.array .byte)) (by decide) (by decide))))
  have f_13 := (f_6.wr W8)
  obtain ⟨T14, h14, X14, e14, W14, st14⟩ := putFN X11 hx hZ hown (own_w hw 27 rfl) Via.refl e11 f_12 f_13 (Or.inr ⟨(own_w hw 23 rfl), rfl, hnm⟩) (own_w hw 7 rfl) (ty := .byte) (v' := (.int (0 : Int32))) (by decide) rfl rfl (g := (mkF m 23 #[rv u0, rv u1, iv (0 : Int32), iv (0 : Int32), .val .null, .unset] [(.int (0 : Int32)), (.ref u0)])) rfl rfl (hb hby own_d3_23)
  have Fw14 := f_12.same W14
  have N14 := Fr.snoc X14 N8 g_u0
  have O15 := O9.wr W14 g_u0
  have K15 : Keep h0 h14 [u0] := K9.wr W14 (Or.inl (List.mem_of_getElem? (i := 0) rfl))
  refine own_on (B := T14.setTop (mkF m 26 #[rv u0, rv u1, iv (0 : Int32), iv (0 : Int32), .val .null, .unset] [])) (fun tz kz => st14 _ kz) ?_
  have f_16 := (Fw8.other W14 (Or.inr (slot_ne (Or.inr (own_w hw 22 rfl)) (Or.inr (own_w hw 23 rfl)) (by decide) (t := (.array .byte)) (t' := .byte) (by decide) (by decide))))
  have f_17 := ((Wa3.other W8 ne_b).other W14 ne_b)
  have f_18 := (Nat.le_trans (Nat.le_trans hk3 (Nat.le_of_eq W8.size.symm)) (Nat.le_of_eq W14.size.symm))
  obtain ⟨fs, hr, hrun, hended, hRW⟩ := Jvm.Stand.leaveW X14 hS3 (by rw [e14]; exact f_18) (v := none) (fun _ => rfl)
  refine own_of ⟨_, _, ?_, hrun, hended, _, _, rfl, ?_, hRW.1, hRW.2.1, hRW.2.2.1, hRW.2.2.2.mono (by decide) (by decide)⟩
  · show sT p e below T14 (mkF m 26 #[rv u0, rv u1, iv (0 : Int32), iv (0 : Int32), .val .null, .unset] []) _
    exact X14.returnOut hx Bd.returns (hb hby own_d3_26) hr
  · show Q3z Z u0 u1 h0 n0 _ T14.heap _
    rw [e14]
    exact ⟨b3, 0, 0, rfl, N14, K15, f_16, Fw14, OwnArz.of f_17, Or.inl ⟨rfl, rfl⟩⟩
theorem own_ef_2z (m : MethodId) (x0 : Addr) (x1 : Addr) : entryFrame m #[(.ref x0), (.ref x1)] 2 = mkF m 0 #[rv x0, rv x1] [] := by first | (simp [entryFrame, mkF, argsToLocals, Value.category]; done) | rfl
def Q2z (Z : State) (u0 : Addr) (u1 : Addr) (h0 : Heap) (n0 : Nat) (v : Option Value) (h : Heap) (L : List Loc) : Prop := ∃ (b : Addr) (ln cd : Int32), v = none ∧ Fr n0 L ∧ Keep h0 h [u0] ∧ Fld Z h u0 "java/lang/String" "value" "[B" (.ref b) ∧ Fld Z h u0 "java/lang/String" "coder" "B" (.int cd) ∧ OwnArz Z h b .byte ln ∧ OwnLC (0 : Int32) ln cd
theorem own_d2_0 : decode jdk_42_method_3_code 0 = .ok (.aload_n 0, 1) := by decide +kernel
theorem own_d2_1 : decode jdk_42_method_3_code 1 = .ok (.aload_n 1, 1) := by decide +kernel
theorem own_d2_2 : decode jdk_42_method_3_code 2 = .ok (.iconst 0, 1) := by decide +kernel
theorem own_d2_3 : decode jdk_42_method_3_code 3 = .ok (.aload_n 1, 1) := by decide +kernel
theorem own_d2_4 : decode jdk_42_method_3_code 4 = .ok (.arraylength, 1) := by decide +kernel
theorem own_d2_5 : decode jdk_42_method_3_code 5 = .ok (.aconst_null, 1) := by decide +kernel
theorem own_pd6 : parseMethodDescriptor "([CIILjava/lang/Void;)V" = some ⟨[(.array .char), .int, .int, (.object "java/lang/Void")], none⟩ := by decide +kernel
theorem own_d2_6 : decode jdk_42_method_3_code 6 = .ok (.invokespecial 27, 3) := by decide +kernel
theorem own_d2_9 : decode jdk_42_method_3_code 9 = .ok (.return_, 1) := by decide +kernel
set_option maxRecDepth 65536 in
set_option maxHeartbeats 40000000 in
theorem rm2z (l : Launch) (Z : State) (a0 : Array Value) (hw : ∀ d ∈ tables_1, d.before a0 Z = true) (ws : List Jvm.Cond) (u0 : Addr) (u1 : Addr) (h0 : Heap) (n0 : Nat) (O0 : Old Z n0 h0) (E_u0 : Exa Z h0 u0 "java/lang/String") (g_u0 : n0 ≤ u0) (F_value : Fld Z h0 u0 "java/lang/String" "value" "[B" .null) (F_coder : Fld Z h0 u0 "java/lang/String" "coder" "B" (.int (0 : Int32))) (hheld : Jvm.Lit.constHeld Z "java/lang/String" 7) (hcw : Jvm.Lit.compactW.before a0 Z = true) (Vz : OwnArz Z h0 u1 .char 0) :
    MetFree l (⟨"java/lang/String", "<init>", "([C)V"⟩ : MethodName) (head1 (Jvm.Cond.code (⟨"java/lang/String", "<init>", "([C)V"⟩ : MethodName) jdk_42_method_3_code 2 none :: ws) ({ frames := 2, cells := 2, slots := 4, locals := 29 } : Room)) (fun a U => a = #[(.ref u0), (.ref u1)] ∧ Z.Warmed39 U.vm ∧ U.heap = h0 ∧ U.vm.interned = Z.vm.interned) (fun _ _ _ _ _ => True) (fun _ U o U' => ∃ v L, o = .returned v ∧ Q2z Z u0 u1 h0 n0 v U'.heap L ∧ ReturnedEndW U o U' L ({ frames := 2, cells := 2, slots := 4, locals := 29 } : Room).cells ({ frames := 2, cells := 2, slots := 4, locals := 29 } : Room).slots) := by
  refine MetFree.of_bodySF (plainFor_of_name own_pn_java_lang_String) hisR ?_
  intro p e s m args below meth c s₁ Bd hml0 hP hK
  obtain ⟨rfl, hZ, hh, hI⟩ := hP
  have hx := Bd.exec
  have hby := Bd.bytes
  have hml : c.maxLocals = 2 := hml0
  have hown : s.vm.findClass "java/lang/String" = some m.cls := findClass_of_methodNamed Bd.named
  have hnm := (name_of_methodNamed Bd.named Bd.method).1
  have X0 : Stand p l e ({ frames := 2, cells := 2, slots := 4, locals := 29 } : Room) s m #[(.ref u0), (.ref u1)] below meth c s₁ [] 0 0 := Stand.of_body Bd
  have e0 : s₁.heap = h0 := by rw [← hh, Bd.state]; rfl
  have N0 := Fr.nil n0
  change Go p.tables e below _ _
  refine own_on (B := s₁.setTop (mkF m 0 #[rv u0, rv u1] [])) (fun tz kz => castTop (own_ef_2z m u0 u1) kz) ?_
  refine own_on (B := s₁.setTop (mkF m 4 #[rv u0, rv u1] [(.ref u1), (.int (0 : Int32)), (.ref u1), (.ref u0)])) (fun tz kz => ?_) ?_
  · show sT p e below s₁ (mkF m 0 #[rv u0, rv u1] []) tz
    refine XS.aloadN X0.here hx rfl (hb hby own_d2_0) rfl rfl ?_
    show sT p e below s₁ (mkF m 1 #[rv u0, rv u1] [(.ref u0)]) tz
    refine XS.aloadN X0.here hx rfl (hb hby own_d2_1) rfl rfl ?_
    show sT p e below s₁ (mkF m 2 #[rv u0, rv u1] [(.ref u1), (.ref u0)]) tz
    refine XS.iconst X0.here hx rfl (hb hby own_d2_2) ?_
    show sT p e below s₁ (mkF m 3 #[rv u0, rv u1] [(.int (0 : Int32)), (.ref u1), (.ref u0)]) tz
    refine XS.aloadN X0.here hx rfl (hb hby own_d2_3) rfl rfl ?_
    exact kz
  obtain ⟨cl1, Ar1, S1, M1⟩ := id Vz
  refine own_on (B := s₁.setTop (mkF m 6 #[rv u0, rv u1] [.null, (.int (0 : Int32)), (.int (0 : Int32)), (.ref u1), (.ref u0)])) (fun tz kz => ?_) ?_
  · show sT p e below s₁ (mkF m 4 #[rv u0, rv u1] [(.ref u1), (.int (0 : Int32)), (.ref u1), (.ref u0)]) tz
    refine X0.arraylength hx (by rw [e0]; exact Ar1.1) (State.isArrayOf_alike hZ.alike Ar1.2.1) (g := (mkF m 4 #[rv u0, rv u1] [(.ref u1), (.int (0 : Int32)), (.ref u1), (.ref u0)])) rfl rfl (hb hby own_d2_4) _ ?_
    rw [len_of S1 M1]
    show sT p e below s₁ (mkF m 5 #[rv u0, rv u1] [(.int (0 : Int32)), (.int (0 : Int32)), (.ref u1), (.ref u0)]) tz
    refine XS.aconstNull X0.here hx rfl (hb hby own_d2_5) ?_
    exact kz
  obtain ⟨_, _, ⟨T2, L2, k2, n2⟩, -, X2, hSc2, hgr2, ⟨Lc2, hQ2, l2, y2, z2⟩, st2⟩ := X0.specialBackS hx (y := (⟨"java/lang/String", "<init>", "([CIILjava/lang/Void;)V"⟩ : MethodName)) rfl hown (mvT hZ (own_w hw 13 rfl)) (mvT hZ (own_w hw 14 rfl)) (mvT hZ (own_w hw 16 rfl)) (by decide) (own_backI (hI := hI) (W := 0) (rm3z l Z a0 hw [] u0 u1  h0 n0 O0 E_u0 g_u0 F_value F_coder hheld hcw) hZ (own_w hw 16 rfl) (own_w hw 8 rfl) (by decide) (by decide)) (g := (mkF m 6 #[rv u0, rv u1] [.null, (.int (0 : Int32)), (.int (0 : Int32)), (.ref u1), (.ref u0)])) rfl (by rw [hml]; rfl) (Steps.refl _) (a := u0) (argsL := [(.ref u1), (.int (0 : Int32)), (.int (0 : Int32)), .null]) (rest := []) (lenOf own_pd6 rfl) rfl (by show 2 * 0 + _ ≤ _; exact Nat.le_of_eq rfl) (hb hby own_d2_6) (fun _ _ => ⟨rfl, e0, (by decide : 0 + 2 ≤ _), (by decide : 0 + 4 ≤ _)⟩)
  dsimp only [Pt.U, Pt.locs, Pt.cells, Pt.slots] at X2 l2 y2 z2 st2 hQ2 hSc2 hgr2
  subst l2 y2 z2
  have hS3 : s.Since s.vm 0 := State.WarmedH.since (State.WarmedH.refl s) 0
  obtain ⟨X2, hS2, hZ, hown⟩ := rebS hS3 (by rw [e0]; exact (Nat.zero_le _)) X2 hSc2 hgr2 hZ hown
  obtain ⟨b2, ln2, cd2, rfl, Nq2, Kq2, Fv2, Fc2, Vb2, LC2⟩ := hQ2
  have N2 := Fr.app N0 Nq2
  have O4 := O0.keep Kq2 (allS g_u0 all0)
  have K4 : Keep h0 T2.heap [u0] := (Keep.refl h0 [u0]).trans Kq2 (allS (Or.inl (List.mem_of_getElem? (i := 0) rfl)) all0)
  refine own_on (B := T2.setTop (mkF m 9 #[rv u0, rv u1] [])) (fun tz kz => st2.trans kz) ?_
  obtain ⟨fs, hr, hrun, hended, hRW⟩ := Jvm.Stand.leaveW X2 hS2 ((Nat.le_refl T2.heap.size)) (v := none) (fun _ => rfl)
  refine own_of ⟨_, _, ?_, hrun, hended, _, _, rfl, ?_, hRW.1, hRW.2.1, hRW.2.2.1, hRW.2.2.2.mono (by decide) (by decide)⟩
  · show sT p e below T2 (mkF m 9 #[rv u0, rv u1] []) _
    exact X2.returnOut hx Bd.returns (hb hby own_d2_9) hr
  · show Q2z Z u0 u1 h0 n0 _ T2.heap _
    exact ⟨b2, ln2, cd2, rfl, N2, K4, Fv2, Fc2, Vb2, LC2⟩
theorem own_ef_3a (m : MethodId) (x0 : Addr) (x1 : Addr) (x2 : Int32) (x3 : Int32) : entryFrame m #[(.ref x0), (.ref x1), (.int x2), (.int x3), .null] 6 = mkF m 0 #[rv x0, rv x1, iv x2, iv x3, .val .null, .unset] [] := by first | (simp [entryFrame, mkF, argsToLocals, Value.category]; done) | rfl
def Q3a (Z : State) (u0 : Addr) (u1 : Addr) (cS : Int32) (kx : ClassId) (x0 : Int32) (h0 : Heap) (n0 : Nat) (v : Option Value) (h : Heap) (L : List Loc) : Prop := ∃ (b : Addr) (ln cd : Int32), v = none ∧ Fr n0 L ∧ Keep h0 h [u0] ∧ Fld Z h u0 "java/lang/String" "value" "[B" (.ref b) ∧ Fld Z h u0 "java/lang/String" "coder" "B" (.int cd) ∧ OwnArz Z h b .byte ln ∧ OwnLC (1 : Int32) ln cd
theorem own_d3_27 : decode jdk_42_method_149_code 27 = .ok (.getstatic 38, 3) := by decide +kernel
theorem own_d3_30 : decode jdk_42_method_149_code 30 = .ok (.ifCond .eq 28, 3) := by decide +kernel
theorem own_d3_33 : decode jdk_42_method_149_code 33 = .ok (.aload_n 1, 1) := by decide +kernel
theorem own_d3_34 : decode jdk_42_method_149_code 34 = .ok (.iload_n 2, 1) := by decide +kernel
theorem own_d3_35 : decode jdk_42_method_149_code 35 = .ok (.iload_n 3, 1) := by decide +kernel
theorem own_d3_36 : decode jdk_42_method_149_code 36 = .ok (.invokestatic 177, 3) := by decide +kernel
theorem own_d3_39 : decode jdk_42_method_149_code 39 = .ok (.astore 5, 2) := by decide +kernel
theorem own_d3_41 : decode jdk_42_method_149_code 41 = .ok (.aload_n 0, 1) := by decide +kernel
theorem own_d3_42 : decode jdk_42_method_149_code 42 = .ok (.aload 5, 2) := by decide +kernel
theorem own_d3_44 : decode jdk_42_method_149_code 44 = .ok (.iload_n 3, 1) := by decide +kernel
theorem own_pd7 : parseMethodDescriptor "([BI)B" = some ⟨[(.array .byte), .int], some .byte⟩ := by decide +kernel
theorem own_d3_45 : decode jdk_42_method_149_code 45 = .ok (.invokestatic 47, 3) := by decide +kernel
theorem own_d3_48 : decode jdk_42_method_149_code 48 = .ok (.putfield 15, 3) := by decide +kernel
theorem own_d3_51 : decode jdk_42_method_149_code 51 = .ok (.aload_n 0, 1) := by decide +kernel
theorem own_d3_52 : decode jdk_42_method_149_code 52 = .ok (.aload 5, 2) := by decide +kernel
theorem own_d3_54 : decode jdk_42_method_149_code 54 = .ok (.putfield 9, 3) := by decide +kernel
theorem own_d3_57 : decode jdk_42_method_149_code 57 = .ok (.return_, 1) := by decide +kernel
set_option maxRecDepth 65536 in
set_option maxHeartbeats 40000000 in
theorem rm3a (l : Launch) (Z : State) (a0 : Array Value) (hw : ∀ d ∈ tables_1, d.before a0 Z = true) (ws : List Jvm.Cond) (u0 : Addr) (u1 : Addr) (cS : Int32) (kx : ClassId) (x0 : Int32) (h0 : Heap) (n0 : Nat) (O0 : Old Z n0 h0) (E_u0 : Exa Z h0 u0 "java/lang/String") (g_u0 : n0 ≤ u0) (F_value : Fld Z h0 u0 "java/lang/String" "value" "[B" .null) (F_coder : Fld Z h0 u0 "java/lang/String" "coder" "B" (.int (0 : Int32))) (S_cs : Sta Z Z.heap "java/lang/String" "COMPACT_STRINGS" "Z" (.int cS)) (hcS : ¬ (cS = (0 : Int32))) (S_as : Sta Z Z.heap "java/lang/StringUTF16" "$assertionsDisabled" "Z" (.int 1)) (S_hi : Sta Z Z.heap "java/lang/StringUTF16" "HI_BYTE_SHIFT" "I" (.int 0)) (S_lo : Sta Z Z.heap "java/lang/StringUTF16" "LO_BYTE_SHIFT" "I" (.int 8)) (Vc : Arv Z h0 u1 kx .char (1 : Int32) [(.int x0)] (.int 0)) (l0 : ¬ x0 < 0) (u0_ : ¬ (65535 : Int32) < x0) :
    MetFree l (⟨"java/lang/String", "<init>", "([CIILjava/lang/Void;)V"⟩ : MethodName) (head1 (Jvm.Cond.code (⟨"java/lang/String", "<init>", "([CIILjava/lang/Void;)V"⟩ : MethodName) jdk_42_method_149_code 6 none :: ws) ({ frames := 4, cells := 2, slots := 3, locals := 60 } : Room)) (fun a U => a = #[(.ref u0), (.ref u1), (.int (0 : Int32)), (.int (1 : Int32)), .null] ∧ Z.Warmed39 U.vm ∧ U.heap = h0) (fun _ _ _ _ _ => True) (fun _ U o U' => ∃ v L, o = .returned v ∧ Q3a Z u0 u1 cS kx x0 h0 n0 v U'.heap L ∧ FrameEnd U o U' L ({ frames := 4, cells := 2, slots := 3, locals := 60 } : Room).cells ({ frames := 4, cells := 2, slots := 3, locals := 60 } : Room).slots) := by
  refine MetFree.of_bodySF (plainFor_of_name own_pn_java_lang_String) hisR ?_
  intro p e s m args below meth c s₁ Bd hml0 hP hK
  obtain ⟨rfl, hZ, hh⟩ := hP
  have hx := Bd.exec
  have hby := Bd.bytes
  have hml : c.maxLocals = 6 := hml0
  have hown : s.vm.findClass "java/lang/String" = some m.cls := findClass_of_methodNamed Bd.named
  have hnm := (name_of_methodNamed Bd.named Bd.method).1
  have X0 : Stand p l e ({ frames := 4, cells := 2, slots := 3, locals := 60 } : Room) s m #[(.ref u0), (.ref u1), (.int (0 : Int32)), (.int (1 : Int32)), .null] below meth c s₁ [] 0 0 := Stand.of_body Bd
  have e0 : s₁.heap = h0 := by rw [← hh, Bd.state]; rfl
  have N0 := Fr.nil n0
  change Go p.tables e below _ _
  refine own_on (B := s₁.setTop (mkF m 0 #[rv u0, rv u1, iv (0 : Int32), iv (1 : Int32), .val .null, .unset] [])) (fun tz kz => castTop (own_ef_3a m u0 u1 (0 : Int32) (1 : Int32)) kz) ?_
  have n01 : u1 ≠ u0 := Ne.symm (Exa.neArv E_u0 Vc (own_w hw 7 rfl))
  refine own_on (B := s₁.setTop (mkF m 1 #[rv u0, rv u1, iv (0 : Int32), iv (1 : Int32), .val .null, .unset] [(.ref u0)])) (fun tz kz => ?_) ?_
  · show sT p e below s₁ (mkF m 0 #[rv u0, rv u1, iv (0 : Int32), iv (1 : Int32), .val .null, .unset] []) tz
    refine XS.aloadN X0.here hx rfl (hb hby own_d3_0) rfl rfl ?_
    exact kz
  obtain ⟨T1, X1, e1, st1⟩ := initO X0 hx hZ hown (own_w hw 17 rfl) (own_w hw 18 rfl) (own_w hw 19 rfl) e0 (g := (mkF m 1 #[rv u0, rv u1, iv (0 : Int32), iv (1 : Int32), .val .null, .unset] [(.ref u0)])) rfl (by rw [hml]; rfl) rfl (hb hby own_d3_1) (by decide) (W := 0) (by show 2 * 0 + _ ≤ _; exact Nat.le_of_eq rfl) (by decide)
  refine own_on (B := T1.setTop (mkF m 4 #[rv u0, rv u1, iv (0 : Int32), iv (1 : Int32), .val .null, .unset] [])) (fun tz kz => st1 _ kz) ?_
  refine own_on (B := T1.setTop (mkF m 27 #[rv u0, rv u1, iv (0 : Int32), iv (1 : Int32), .val .null, .unset] [])) (fun tz kz => ?_) ?_
  · show sT p e below T1 (mkF m 4 #[rv u0, rv u1, iv (0 : Int32), iv (1 : Int32), .val .null, .unset] []) tz
    refine XS.iloadN X1.here hx rfl (hb hby own_d3_4) rfl ?_
    show sT p e below T1 (mkF m 5 #[rv u0, rv u1, iv (0 : Int32), iv (1 : Int32), .val .null, .unset] [(.int (1 : Int32))]) tz
    refine XS.ifYes X1.here hx rfl (pc0 := 5) (pc' := 27) rfl (hb hby own_d3_5) rfl ((if0 _ _).trans (feq (by decide : ¬ ((1 : Int32) = (0 : Int32)))).2) (by decide) (by decide) ?_
    exact kz
  obtain ⟨T2, X2, e2, st2⟩ := getS2 X1 hx hZ hown (host := "") (Or.inl (own_w hw 90 rfl)) Via.refl e1 (S_cs.ext O0.2) (g := (mkF m 27 #[rv u0, rv u1, iv (0 : Int32), iv (1 : Int32), .val .null, .unset] [])) rfl (hb hby own_d3_27)
  refine own_on (B := T2.setTop (mkF m 30 #[rv u0, rv u1, iv (0 : Int32), iv (1 : Int32), .val .null, .unset] [(.int cS)])) (fun tz kz => st2 _ kz) ?_
  refine own_on (B := T2.setTop (mkF m 36 #[rv u0, rv u1, iv (0 : Int32), iv (1 : Int32), .val .null, .unset] [(.int (1 : Int32)), (.int (0 : Int32)), (.ref u1)])) (fun tz kz => ?_) ?_
  · show sT p e below T2 (mkF m 30 #[rv u0, rv u1, iv (0 : Int32), iv (1 : Int32), .val .null, .unset] [(.int cS)]) tz
    refine XS.ifNo X2.here hx rfl (hb hby own_d3_30) rfl ((if0 _ _).trans (feq hcS).1) ?_
    show sT p e below T2 (mkF m 33 #[rv u0, rv u1, iv (0 : Int32), iv (1 : Int32), .val .null, .unset] []) tz
    refine XS.aloadN X2.here hx rfl (hb hby own_d3_33) rfl rfl ?_
    show sT p e below T2 (mkF m 34 #[rv u0, rv u1, iv (0 : Int32), iv (1 : Int32), .val .null, .unset] [(.ref u1)]) tz
    refine XS.iloadN X2.here hx rfl (hb hby own_d3_34) rfl ?_
    show sT p e below T2 (mkF m 35 #[rv u0, rv u1, iv (0 : Int32), iv (1 : Int32), .val .null, .unset] [(.int (0 : Int32)), (.ref u1)]) tz
    refine XS.iloadN X2.here hx rfl (hb hby own_d3_35) rfl ?_
    exact kz
  obtain ⟨_, _, ⟨T3, L3, k3, n3⟩, -, X3, ⟨Lc3, hQ3, l3, y3, z3⟩, st3⟩ := Jvm.LawKit.callS X2 hx (y := (⟨"java/lang/StringUTF16", "compress", "([CII)[B"⟩ : MethodName)) hown (mvT hZ (own_w hw 102 rfl)) (mvT hZ (own_w hw 103 rfl)) (mvT hZ (own_w hw 104 rfl)) (mvT hZ (own_w hw 105 rfl)) (by decide) (backOf (W := 0) (rm18a l Z a0 hw [] u1 kx x0 h0 n0 O0 S_as S_hi S_lo Vc l0 u0_) hZ (own_w hw 105 rfl) (own_w hw 104 rfl) (by decide) (by decide)) (g := (mkF m 36 #[rv u0, rv u1, iv (0 : Int32), iv (1 : Int32), .val .null, .unset] [(.int (1 : Int32)), (.int (0 : Int32)), (.ref u1)])) rfl (by rw [hml]; rfl) (argsL := [(.ref u1), (.int (0 : Int32)), (.int (1 : Int32))]) (rest := []) (lenOf own_pd4 rfl) rfl (by show 2 * 0 + _ ≤ _; exact Nat.le_of_eq rfl) (hb hby own_d3_36) (fun _ _ => ⟨rfl, e2, (by decide : 0 + 2 ≤ _), (by decide : 0 + 3 ≤ _)⟩)
  dsimp only [Pt.U, Pt.locs, Pt.cells, Pt.slots] at X3 l3 y3 z3 st3 hQ3
  subst l3 y3 z3
  obtain ⟨d3, ln3, cd3, rfl, Nq3, Kq3, zq3, Vq3, LC3⟩ := hQ3
  have N3 := Fr.app N0 Nq3
  have ne_u0_d3 : u0 ≠ d3 := Nat.ne_of_lt (Nat.lt_of_lt_of_le (E_u0).lt zq3)
  have ne_u1_d3 : u1 ≠ d3 := Nat.ne_of_lt (Nat.lt_of_lt_of_le (Vc).lt zq3)
  have g_d3 : n0 ≤ d3 := Nat.le_trans (own_old O0) zq3
  have sz_d3 : h0.size ≤ d3 := Nat.le_trans (Keep.refl h0 [u0]).1 zq3
  have O4 := O0.keep Kq3 all0
  have K4 : Keep h0 T3.heap [u0] := (Keep.refl h0 [u0]).trans Kq3 all0
  refine own_on (B := T3.setTop (mkF m 39 #[rv u0, rv u1, iv (0 : Int32), iv (1 : Int32), .val .null, .unset] [(.ref d3)])) (fun tz kz => st3 _ kz) ?_
  refine own_on (B := T3.setTop (mkF m 45 #[rv u0, rv u1, iv (0 : Int32), iv (1 : Int32), .val .null, rv d3] [(.int (1 : Int32)), (.ref d3), (.ref u0)])) (fun tz kz => ?_) ?_
  · show sT p e below T3 (mkF m 39 #[rv u0, rv u1, iv (0 : Int32), iv (1 : Int32), .val .null, .unset] [(.ref d3)]) tz
    refine XS.astore X3.here hx rfl (hb hby own_d3_39) rfl rfl (l' := #[rv u0, rv u1, iv (0 : Int32), iv (1 : Int32), .val .null, rv d3]) rfl ?_
    show sT p e below T3 (mkF m 41 #[rv u0, rv u1, iv (0 : Int32), iv (1 : Int32), .val .null, rv d3] []) tz
    refine XS.aloadN X3.here hx rfl (hb hby own_d3_41) rfl rfl ?_
    show sT p e below T3 (mkF m 42 #[rv u0, rv u1, iv (0 : Int32), iv (1 : Int32), .val .null, rv d3] [(.ref u0)]) tz
    refine XS.aload X3.here hx rfl (hb hby own_d3_42) rfl rfl ?_
    show sT p e below T3 (mkF m 44 #[rv u0, rv u1, iv (0 : Int32), iv (1 : Int32), .val .null, rv d3] [(.ref d3), (.ref u0)]) tz
    refine XS.iloadN X3.here hx rfl (hb hby own_d3_44) rfl ?_
    exact kz
  obtain ⟨_, _, ⟨T5, L5, k5, n5⟩, -, X5, ⟨Lc5, hQ5, l5, y5, z5⟩, st5⟩ := Jvm.LawKit.callS X3 hx (y := (⟨"java/lang/StringUTF16", "coderFromArrayLen", "([BI)B"⟩ : MethodName)) hown (mvT hZ (own_w hw 109 rfl)) (mvT hZ (own_w hw 110 rfl)) (mvT hZ (own_w hw 104 rfl)) (mvT hZ (own_w hw 111 rfl)) (by decide) (backOf (W := 1) (rm20 l Z a0 hw [] d3 (1 : Int32) ln3 cd3 T3.heap n0 O4 Vq3 LC3 (by decide) (by decide)) hZ (own_w hw 111 rfl) (own_w hw 104 rfl) (by decide) (by decide)) (g := (mkF m 45 #[rv u0, rv u1, iv (0 : Int32), iv (1 : Int32), .val .null, rv d3] [(.int (1 : Int32)), (.ref d3), (.ref u0)])) rfl (by rw [hml]; rfl) (argsL := [(.ref d3), (.int (1 : Int32))]) (rest := [(.ref u0)]) (lenOf own_pd7 rfl) rfl (by show 2 * 0 + _ ≤ _; exact Nat.le_of_eq rfl) (hb hby own_d3_45) (fun _ _ => ⟨rfl, rfl, (by decide : 2 + 0 ≤ _), (by decide : 3 + 0 ≤ _)⟩)
  dsimp only [Pt.U, Pt.locs, Pt.cells, Pt.slots] at X5 l5 y5 z5 st5 hQ5
  subst l5 y5 z5
  obtain ⟨rfl, Nq5, e5⟩ := hQ5
  have N5 := Fr.app N3 Nq5
  refine own_on (B := T5.setTop (mkF m 48 #[rv u0, rv u1, iv (0 : Int32), iv (1 : Int32), .val .null, rv d3] [(.int cd3), (.ref u0)])) (fun tz kz => st5 _ kz) ?_
  have f_6 := (F_coder.keep Kq3 nin0)
  have f_7 := (E_u0.keep Kq3)
  obtain ⟨T8, h8, X8, e8, W8, st8⟩ := putFN X5 hx hZ hown (own_w hw 27 rfl) Via.refl e5 f_6 f_7 (Or.inr ⟨(own_w hw 23 rfl), rfl, hnm⟩) (own_w hw 7 rfl) (ty := .byte) (v' := (.int cd3)) (by decide) (own_cfn LC3) (own_cff LC3) (g := (mkF m 48 #[rv u0, rv u1, iv (0 : Int32), iv (1 : Int32), .val .null, rv d3] [(.int cd3), (.ref u0)])) rfl rfl (hb hby own_d3_48)
  have Fw8 := f_6.same W8
  have N8 := Fr.snoc X8 N5 g_u0
  have O9 := O4.wr W8 g_u0
  have K9 : Keep h0 h8 [u0] := K4.wr W8 (Or.inl (List.mem_of_getElem? (i := 0) rfl))
  refine own_on (B := T8.setTop (mkF m 51 #[rv u0, rv u1, iv (0 : Int32), iv (1 : Int32), .val .null, rv d3] [])) (fun tz kz => st8 _ kz) ?_
  refine own_on (B := T8.setTop (mkF m 54 #[rv u0, rv u1, iv (0 : Int32), iv (1 : Int32), .val .null, rv d3] [(.ref d3), (.ref u0)])) (fun tz kz => ?_) ?_
  · show sT p e below T8 (mkF m 51 #[rv u0, rv u1, iv (0 : Int32), iv (1 : Int32), .val .null, rv d3] []) tz
    refine XS.aloadN X8.here hx rfl (hb hby own_d3_51) rfl rfl ?_
    show sT p e below T8 (mkF m 52 #[rv u0, rv u1, iv (0 : Int32), iv (1 : Int32), .val .null, rv d3] [(.ref u0)]) tz
    refine XS.aload X8.here hx rfl (hb hby own_d3_52) rfl rfl ?_
    exact kz
  have f_10 := ((F_value.keep Kq3 nin0).other W8 (Or.inr (slot_ne (Or.inr (own_w hw 22 rfl)) (Or.inr (own_w hw 23 rfl)) (by decide) (t := (.array .byte)) (t' := .byte) (by decide) (by decide))))
  have f_11 := (f_7.wr W8)
  obtain ⟨T12, h12, X12, e12, W12, st12⟩ := putF X8 hx hZ hown (host := "") (Or.inl (own_w hw 26 rfl)) Via.refl e8 f_10 f_11 (Or.inr ⟨(own_w hw 22 rfl), rfl, hnm⟩) (own_w hw 7 rfl) (ty := (.array .byte)) (by decide) rfl rfl (g := (mkF m 54 #[rv u0, rv u1, iv (0 : Int32), iv (1 : Int32), .val .null, rv d3] [(.ref d3), (.ref u0)])) rfl rfl (hb hby own_d3_54)
  have Fw12 := f_10.same W12
  have N12 := Fr.snoc X12 N8 g_u0
  have O13 := O9.wr W12 g_u0
  have K13 : Keep h0 h12 [u0] := K9.wr W12 (Or.inl (List.mem_of_getElem? (i := 0) rfl))
  refine own_on (B := T12.setTop (mkF m 57 #[rv u0, rv u1, iv (0 : Int32), iv (1 : Int32), .val .null, rv d3] [])) (fun tz kz => st12 _ kz) ?_
  have f_14 := (Fw8.other W12 (Or.inr (slot_ne (Or.inr (own_w hw 23 rfl)) (Or.inr (own_w hw 22 rfl)) (by decide) (t := .byte) (t' := (.array .byte)) (by decide) (by decide))))
  have f_15 := ((Vq3.other W8 (Ne.symm ne_u0_d3)).other W12 (Ne.symm ne_u0_d3))
  obtain ⟨fs, hr, hrun, hended, hW, hsame⟩ := X12.leave (v := none) (fun _ => rfl)
  refine own_of ⟨_, _, ?_, hrun, hended, _, _, rfl, ?_, ⟨_, rfl⟩, hW, hsame.mono (by decide) (by decide)⟩
  · show sT p e below T12 (mkF m 57 #[rv u0, rv u1, iv (0 : Int32), iv (1 : Int32), .val .null, rv d3] []) _
    exact X12.returnOut hx Bd.returns (hb hby own_d3_57) hr
  · show Q3a Z u0 u1 cS kx x0 h0 n0 _ T12.heap _
    rw [e12]
    exact ⟨d3, ln3, cd3, rfl, N12, K13, Fw12, f_14, f_15, LC3⟩
theorem own_ef_2a (m : MethodId) (x0 : Addr) (x1 : Addr) : entryFrame m #[(.ref x0), (.ref x1)] 2 = mkF m 0 #[rv x0, rv x1] [] := by first | (simp [entryFrame, mkF, argsToLocals, Value.category]; done) | rfl
def Q2a (Z : State) (u0 : Addr) (u1 : Addr) (cS : Int32) (kx : ClassId) (x0 : Int32) (h0 : Heap) (n0 : Nat) (v : Option Value) (h : Heap) (L : List Loc) : Prop := ∃ (b : Addr) (ln cd : Int32), v = none ∧ Fr n0 L ∧ Keep h0 h [u0] ∧ Fld Z h u0 "java/lang/String" "value" "[B" (.ref b) ∧ Fld Z h u0 "java/lang/String" "coder" "B" (.int cd) ∧ OwnArz Z h b .byte ln ∧ OwnLC (1 : Int32) ln cd
set_option maxRecDepth 65536 in
set_option maxHeartbeats 40000000 in
theorem rm2a (l : Launch) (Z : State) (a0 : Array Value) (hw : ∀ d ∈ tables_1, d.before a0 Z = true) (ws : List Jvm.Cond) (u0 : Addr) (u1 : Addr) (cS : Int32) (kx : ClassId) (x0 : Int32) (h0 : Heap) (n0 : Nat) (O0 : Old Z n0 h0) (E_u0 : Exa Z h0 u0 "java/lang/String") (g_u0 : n0 ≤ u0) (F_value : Fld Z h0 u0 "java/lang/String" "value" "[B" .null) (F_coder : Fld Z h0 u0 "java/lang/String" "coder" "B" (.int (0 : Int32))) (S_cs : Sta Z Z.heap "java/lang/String" "COMPACT_STRINGS" "Z" (.int cS)) (hcS : ¬ (cS = (0 : Int32))) (S_as : Sta Z Z.heap "java/lang/StringUTF16" "$assertionsDisabled" "Z" (.int 1)) (S_hi : Sta Z Z.heap "java/lang/StringUTF16" "HI_BYTE_SHIFT" "I" (.int 0)) (S_lo : Sta Z Z.heap "java/lang/StringUTF16" "LO_BYTE_SHIFT" "I" (.int 8)) (Vc : Arv Z h0 u1 kx .char (1 : Int32) [(.int x0)] (.int 0)) (l0 : ¬ x0 < 0) (u0_ : ¬ (65535 : Int32) < x0) :
    MetFree l (⟨"java/lang/String", "<init>", "([C)V"⟩ : MethodName) (head1 (Jvm.Cond.code (⟨"java/lang/String", "<init>", "([C)V"⟩ : MethodName) jdk_42_method_3_code 2 none :: ws) ({ frames := 5, cells := 2, slots := 3, locals := 80 } : Room)) (fun a U => a = #[(.ref u0), (.ref u1)] ∧ Z.Warmed39 U.vm ∧ U.heap = h0) (fun _ _ _ _ _ => True) (fun _ U o U' => ∃ v L, o = .returned v ∧ Q2a Z u0 u1 cS kx x0 h0 n0 v U'.heap L ∧ FrameEnd U o U' L ({ frames := 5, cells := 2, slots := 3, locals := 80 } : Room).cells ({ frames := 5, cells := 2, slots := 3, locals := 80 } : Room).slots) := by
  refine MetFree.of_bodySF (plainFor_of_name own_pn_java_lang_String) hisR ?_
  intro p e s m args below meth c s₁ Bd hml0 hP hK
  obtain ⟨rfl, hZ, hh⟩ := hP
  have hx := Bd.exec
  have hby := Bd.bytes
  have hml : c.maxLocals = 2 := hml0
  have hown : s.vm.findClass "java/lang/String" = some m.cls := findClass_of_methodNamed Bd.named
  have hnm := (name_of_methodNamed Bd.named Bd.method).1
  have X0 : Stand p l e ({ frames := 5, cells := 2, slots := 3, locals := 80 } : Room) s m #[(.ref u0), (.ref u1)] below meth c s₁ [] 0 0 := Stand.of_body Bd
  have e0 : s₁.heap = h0 := by rw [← hh, Bd.state]; rfl
  have N0 := Fr.nil n0
  change Go p.tables e below _ _
  refine own_on (B := s₁.setTop (mkF m 0 #[rv u0, rv u1] [])) (fun tz kz => castTop (own_ef_2a m u0 u1) kz) ?_
  refine own_on (B := s₁.setTop (mkF m 4 #[rv u0, rv u1] [(.ref u1), (.int (0 : Int32)), (.ref u1), (.ref u0)])) (fun tz kz => ?_) ?_
  · show sT p e below s₁ (mkF m 0 #[rv u0, rv u1] []) tz
    refine XS.aloadN X0.here hx rfl (hb hby own_d2_0) rfl rfl ?_
    show sT p e below s₁ (mkF m 1 #[rv u0, rv u1] [(.ref u0)]) tz
    refine XS.aloadN X0.here hx rfl (hb hby own_d2_1) rfl rfl ?_
    show sT p e below s₁ (mkF m 2 #[rv u0, rv u1] [(.ref u1), (.ref u0)]) tz
    refine XS.iconst X0.here hx rfl (hb hby own_d2_2) ?_
    show sT p e below s₁ (mkF m 3 #[rv u0, rv u1] [(.int (0 : Int32)), (.ref u1), (.ref u0)]) tz
    refine XS.aloadN X0.here hx rfl (hb hby own_d2_3) rfl rfl ?_
    exact kz
  obtain ⟨cl1, Ar1, q1, S1, M1, H1, G1⟩ := id Vc
  refine own_on (B := s₁.setTop (mkF m 6 #[rv u0, rv u1] [.null, (.int (1 : Int32)), (.int (0 : Int32)), (.ref u1), (.ref u0)])) (fun tz kz => ?_) ?_
  · show sT p e below s₁ (mkF m 4 #[rv u0, rv u1] [(.ref u1), (.int (0 : Int32)), (.ref u1), (.ref u0)]) tz
    refine X0.arraylength hx (by rw [e0]; exact Ar1.1) (State.isArrayOf_alike hZ.alike Ar1.2.1) (g := (mkF m 4 #[rv u0, rv u1] [(.ref u1), (.int (0 : Int32)), (.ref u1), (.ref u0)])) rfl rfl (hb hby own_d2_4) _ ?_
    rw [len_of S1 M1]
    show sT p e below s₁ (mkF m 5 #[rv u0, rv u1] [(.int (1 : Int32)), (.int (0 : Int32)), (.ref u1), (.ref u0)]) tz
    refine XS.aconstNull X0.here hx rfl (hb hby own_d2_5) ?_
    exact kz
  obtain ⟨_, _, ⟨T2, L2, k2, n2⟩, -, X2, ⟨Lc2, hQ2, l2, y2, z2⟩, st2⟩ := X0.specialBack hx (y := (⟨"java/lang/String", "<init>", "([CIILjava/lang/Void;)V"⟩ : MethodName)) rfl hown (mvT hZ (own_w hw 13 rfl)) (mvT hZ (own_w hw 14 rfl)) (mvT hZ (own_w hw 16 rfl)) (by decide) (backOf (W := 0) (rm3a l Z a0 hw [] u0 u1 cS kx x0 h0 n0 O0 E_u0 g_u0 F_value F_coder S_cs hcS S_as S_hi S_lo Vc l0 u0_) hZ (own_w hw 16 rfl) (own_w hw 8 rfl) (by decide) (by decide)) (g := (mkF m 6 #[rv u0, rv u1] [.null, (.int (1 : Int32)), (.int (0 : Int32)), (.ref u1), (.ref u0)])) rfl (by rw [hml]; rfl) (Steps.refl _) (a := u0) (argsL := [(.ref u1), (.int (0 : Int32)), (.int (1 : Int32)), .null]) (rest := []) (lenOf own_pd6 rfl) rfl (by show 2 * 0 + _ ≤ _; exact Nat.le_of_eq rfl) (hb hby own_d2_6) (fun _ _ => ⟨rfl, e0, (by decide : 0 + 2 ≤ _), (by decide : 0 + 3 ≤ _)⟩)
  dsimp only [Pt.U, Pt.locs, Pt.cells, Pt.slots] at X2 l2 y2 z2 st2 hQ2
  subst l2 y2 z2
  obtain ⟨b2, ln2, cd2, rfl, Nq2, Kq2, Fv2, Fc2, Vb2, LC2⟩ := hQ2
  have N2 := Fr.app N0 Nq2
  have O3 := O0.keep Kq2 (allS g_u0 all0)
  have K3 : Keep h0 T2.heap [u0] := (Keep.refl h0 [u0]).trans Kq2 (allS (Or.inl (List.mem_of_getElem? (i := 0) rfl)) all0)
  refine own_on (B := T2.setTop (mkF m 9 #[rv u0, rv u1] [])) (fun tz kz => st2.trans kz) ?_
  obtain ⟨fs, hr, hrun, hended, hW, hsame⟩ := X2.leave (v := none) (fun _ => rfl)
  refine own_of ⟨_, _, ?_, hrun, hended, _, _, rfl, ?_, ⟨_, rfl⟩, hW, hsame.mono (by decide) (by decide)⟩
  · show sT p e below T2 (mkF m 9 #[rv u0, rv u1] []) _
    exact X2.returnOut hx Bd.returns (hb hby own_d2_9) hr
  · show Q2a Z u0 u1 cS kx x0 h0 n0 _ T2.heap _
    exact ⟨b2, ln2, cd2, rfl, N2, K3, Fv2, Fc2, Vb2, LC2⟩
theorem own_ef_3b (m : MethodId) (x0 : Addr) (x1 : Addr) (x2 : Int32) (x3 : Int32) : entryFrame m #[(.ref x0), (.ref x1), (.int x2), (.int x3), .null] 6 = mkF m 0 #[rv x0, rv x1, iv x2, iv x3, .val .null, .unset] [] := by first | (simp [entryFrame, mkF, argsToLocals, Value.category]; done) | rfl
def Q3b (Z : State) (u0 : Addr) (u1 : Addr) (cS : Int32) (kx : ClassId) (x0 : Int32) (x1 : Int32) (h0 : Heap) (n0 : Nat) (v : Option Value) (h : Heap) (L : List Loc) : Prop := ∃ (b : Addr) (ln cd : Int32), v = none ∧ Fr n0 L ∧ Keep h0 h [u0] ∧ Fld Z h u0 "java/lang/String" "value" "[B" (.ref b) ∧ Fld Z h u0 "java/lang/String" "coder" "B" (.int cd) ∧ OwnArz Z h b .byte ln ∧ OwnLC (2 : Int32) ln cd
set_option maxRecDepth 65536 in
set_option maxHeartbeats 40000000 in
theorem rm3b (l : Launch) (Z : State) (a0 : Array Value) (hw : ∀ d ∈ tables_1, d.before a0 Z = true) (ws : List Jvm.Cond) (u0 : Addr) (u1 : Addr) (cS : Int32) (kx : ClassId) (x0 : Int32) (x1 : Int32) (h0 : Heap) (n0 : Nat) (O0 : Old Z n0 h0) (E_u0 : Exa Z h0 u0 "java/lang/String") (g_u0 : n0 ≤ u0) (F_value : Fld Z h0 u0 "java/lang/String" "value" "[B" .null) (F_coder : Fld Z h0 u0 "java/lang/String" "coder" "B" (.int (0 : Int32))) (S_cs : Sta Z Z.heap "java/lang/String" "COMPACT_STRINGS" "Z" (.int cS)) (hcS : ¬ (cS = (0 : Int32))) (S_as : Sta Z Z.heap "java/lang/StringUTF16" "$assertionsDisabled" "Z" (.int 1)) (S_hi : Sta Z Z.heap "java/lang/StringUTF16" "HI_BYTE_SHIFT" "I" (.int 0)) (S_lo : Sta Z Z.heap "java/lang/StringUTF16" "LO_BYTE_SHIFT" "I" (.int 8)) (Vc : Arv Z h0 u1 kx .char (2 : Int32) [(.int x0), (.int x1)] (.int 0)) (l0 : ¬ x0 < 0) (u0_ : ¬ (65535 : Int32) < x0) (l1 : ¬ x1 < 0) (u1_ : ¬ (65535 : Int32) < x1) :
    MetFree l (⟨"java/lang/String", "<init>", "([CIILjava/lang/Void;)V"⟩ : MethodName) (head1 (Jvm.Cond.code (⟨"java/lang/String", "<init>", "([CIILjava/lang/Void;)V"⟩ : MethodName) jdk_42_method_149_code 6 none :: ws) ({ frames := 4, cells := 2, slots := 6, locals := 60 } : Room)) (fun a U => a = #[(.ref u0), (.ref u1), (.int (0 : Int32)), (.int (2 : Int32)), .null] ∧ Z.Warmed39 U.vm ∧ U.heap = h0) (fun _ _ _ _ _ => True) (fun _ U o U' => ∃ v L, o = .returned v ∧ Q3b Z u0 u1 cS kx x0 x1 h0 n0 v U'.heap L ∧ FrameEnd U o U' L ({ frames := 4, cells := 2, slots := 6, locals := 60 } : Room).cells ({ frames := 4, cells := 2, slots := 6, locals := 60 } : Room).slots) := by
  refine MetFree.of_bodySF (plainFor_of_name own_pn_java_lang_String) hisR ?_
  intro p e s m args below meth c s₁ Bd hml0 hP hK
  obtain ⟨rfl, hZ, hh⟩ := hP
  have hx := Bd.exec
  have hby := Bd.bytes
  have hml : c.maxLocals = 6 := hml0
  have hown : s.vm.findClass "java/lang/String" = some m.cls := findClass_of_methodNamed Bd.named
  have hnm := (name_of_methodNamed Bd.named Bd.method).1
  have X0 : Stand p l e ({ frames := 4, cells := 2, slots := 6, locals := 60 } : Room) s m #[(.ref u0), (.ref u1), (.int (0 : Int32)), (.int (2 : Int32)), .null] below meth c s₁ [] 0 0 := Stand.of_body Bd
  have e0 : s₁.heap = h0 := by rw [← hh, Bd.state]; rfl
  have N0 := Fr.nil n0
  change Go p.tables e below _ _
  refine own_on (B := s₁.setTop (mkF m 0 #[rv u0, rv u1, iv (0 : Int32), iv (2 : Int32), .val .null, .unset] [])) (fun tz kz => castTop (own_ef_3b m u0 u1 (0 : Int32) (2 : Int32)) kz) ?_
  have n01 : u1 ≠ u0 := Ne.symm (Exa.neArv E_u0 Vc (own_w hw 7 rfl))
  refine own_on (B := s₁.setTop (mkF m 1 #[rv u0, rv u1, iv (0 : Int32), iv (2 : Int32), .val .null, .unset] [(.ref u0)])) (fun tz kz => ?_) ?_
  · show sT p e below s₁ (mkF m 0 #[rv u0, rv u1, iv (0 : Int32), iv (2 : Int32), .val .null, .unset] []) tz
    refine XS.aloadN X0.here hx rfl (hb hby own_d3_0) rfl rfl ?_
    exact kz
  obtain ⟨T1, X1, e1, st1⟩ := initO X0 hx hZ hown (own_w hw 17 rfl) (own_w hw 18 rfl) (own_w hw 19 rfl) e0 (g := (mkF m 1 #[rv u0, rv u1, iv (0 : Int32), iv (2 : Int32), .val .null, .unset] [(.ref u0)])) rfl (by rw [hml]; rfl) rfl (hb hby own_d3_1) (by decide) (W := 0) (by show 2 * 0 + _ ≤ _; exact Nat.le_of_eq rfl) (by decide)
  refine own_on (B := T1.setTop (mkF m 4 #[rv u0, rv u1, iv (0 : Int32), iv (2 : Int32), .val .null, .unset] [])) (fun tz kz => st1 _ kz) ?_
  refine own_on (B := T1.setTop (mkF m 27 #[rv u0, rv u1, iv (0 : Int32), iv (2 : Int32), .val .null, .unset] [])) (fun tz kz => ?_) ?_
  · show sT p e below T1 (mkF m 4 #[rv u0, rv u1, iv (0 : Int32), iv (2 : Int32), .val .null, .unset] []) tz
    refine XS.iloadN X1.here hx rfl (hb hby own_d3_4) rfl ?_
    show sT p e below T1 (mkF m 5 #[rv u0, rv u1, iv (0 : Int32), iv (2 : Int32), .val .null, .unset] [(.int (2 : Int32))]) tz
    refine XS.ifYes X1.here hx rfl (pc0 := 5) (pc' := 27) rfl (hb hby own_d3_5) rfl ((if0 _ _).trans (feq (by decide : ¬ ((2 : Int32) = (0 : Int32)))).2) (by decide) (by decide) ?_
    exact kz
  obtain ⟨T2, X2, e2, st2⟩ := getS2 X1 hx hZ hown (host := "") (Or.inl (own_w hw 90 rfl)) Via.refl e1 (S_cs.ext O0.2) (g := (mkF m 27 #[rv u0, rv u1, iv (0 : Int32), iv (2 : Int32), .val .null, .unset] [])) rfl (hb hby own_d3_27)
  refine own_on (B := T2.setTop (mkF m 30 #[rv u0, rv u1, iv (0 : Int32), iv (2 : Int32), .val .null, .unset] [(.int cS)])) (fun tz kz => st2 _ kz) ?_
  refine own_on (B := T2.setTop (mkF m 36 #[rv u0, rv u1, iv (0 : Int32), iv (2 : Int32), .val .null, .unset] [(.int (2 : Int32)), (.int (0 : Int32)), (.ref u1)])) (fun tz kz => ?_) ?_
  · show sT p e below T2 (mkF m 30 #[rv u0, rv u1, iv (0 : Int32), iv (2 : Int32), .val .null, .unset] [(.int cS)]) tz
    refine XS.ifNo X2.here hx rfl (hb hby own_d3_30) rfl ((if0 _ _).trans (feq hcS).1) ?_
    show sT p e below T2 (mkF m 33 #[rv u0, rv u1, iv (0 : Int32), iv (2 : Int32), .val .null, .unset] []) tz
    refine XS.aloadN X2.here hx rfl (hb hby own_d3_33) rfl rfl ?_
    show sT p e below T2 (mkF m 34 #[rv u0, rv u1, iv (0 : Int32), iv (2 : Int32), .val .null, .unset] [(.ref u1)]) tz
    refine XS.iloadN X2.here hx rfl (hb hby own_d3_34) rfl ?_
    show sT p e below T2 (mkF m 35 #[rv u0, rv u1, iv (0 : Int32), iv (2 : Int32), .val .null, .unset] [(.int (0 : Int32)), (.ref u1)]) tz
    refine XS.iloadN X2.here hx rfl (hb hby own_d3_35) rfl ?_
    exact kz
  obtain ⟨_, _, ⟨T3, L3, k3, n3⟩, -, X3, ⟨Lc3, hQ3, l3, y3, z3⟩, st3⟩ := Jvm.LawKit.callS X2 hx (y := (⟨"java/lang/StringUTF16", "compress", "([CII)[B"⟩ : MethodName)) hown (mvT hZ (own_w hw 102 rfl)) (mvT hZ (own_w hw 103 rfl)) (mvT hZ (own_w hw 104 rfl)) (mvT hZ (own_w hw 105 rfl)) (by decide) (backOf (W := 0) (rm18b l Z a0 hw [] u1 kx x0 x1 h0 n0 O0 S_as S_hi S_lo Vc l0 u0_ l1 u1_) hZ (own_w hw 105 rfl) (own_w hw 104 rfl) (by decide) (by decide)) (g := (mkF m 36 #[rv u0, rv u1, iv (0 : Int32), iv (2 : Int32), .val .null, .unset] [(.int (2 : Int32)), (.int (0 : Int32)), (.ref u1)])) rfl (by rw [hml]; rfl) (argsL := [(.ref u1), (.int (0 : Int32)), (.int (2 : Int32))]) (rest := []) (lenOf own_pd4 rfl) rfl (by show 2 * 0 + _ ≤ _; exact Nat.le_of_eq rfl) (hb hby own_d3_36) (fun _ _ => ⟨rfl, e2, (by decide : 0 + 2 ≤ _), (by decide : 0 + 6 ≤ _)⟩)
  dsimp only [Pt.U, Pt.locs, Pt.cells, Pt.slots] at X3 l3 y3 z3 st3 hQ3
  subst l3 y3 z3
  obtain ⟨d3, ln3, cd3, rfl, Nq3, Kq3, zq3, Vq3, LC3⟩ := hQ3
  have N3 := Fr.app N0 Nq3
  have ne_u0_d3 : u0 ≠ d3 := Nat.ne_of_lt (Nat.lt_of_lt_of_le (E_u0).lt zq3)
  have ne_u1_d3 : u1 ≠ d3 := Nat.ne_of_lt (Nat.lt_of_lt_of_le (Vc).lt zq3)
  have g_d3 : n0 ≤ d3 := Nat.le_trans (own_old O0) zq3
  have sz_d3 : h0.size ≤ d3 := Nat.le_trans (Keep.refl h0 [u0]).1 zq3
  have O4 := O0.keep Kq3 all0
  have K4 : Keep h0 T3.heap [u0] := (Keep.refl h0 [u0]).trans Kq3 all0
  refine own_on (B := T3.setTop (mkF m 39 #[rv u0, rv u1, iv (0 : Int32), iv (2 : Int32), .val .null, .unset] [(.ref d3)])) (fun tz kz => st3 _ kz) ?_
  refine own_on (B := T3.setTop (mkF m 45 #[rv u0, rv u1, iv (0 : Int32), iv (2 : Int32), .val .null, rv d3] [(.int (2 : Int32)), (.ref d3), (.ref u0)])) (fun tz kz => ?_) ?_
  · show sT p e below T3 (mkF m 39 #[rv u0, rv u1, iv (0 : Int32), iv (2 : Int32), .val .null, .unset] [(.ref d3)]) tz
    refine XS.astore X3.here hx rfl (hb hby own_d3_39) rfl rfl (l' := #[rv u0, rv u1, iv (0 : Int32), iv (2 : Int32), .val .null, rv d3]) rfl ?_
    show sT p e below T3 (mkF m 41 #[rv u0, rv u1, iv (0 : Int32), iv (2 : Int32), .val .null, rv d3] []) tz
    refine XS.aloadN X3.here hx rfl (hb hby own_d3_41) rfl rfl ?_
    show sT p e below T3 (mkF m 42 #[rv u0, rv u1, iv (0 : Int32), iv (2 : Int32), .val .null, rv d3] [(.ref u0)]) tz
    refine XS.aload X3.here hx rfl (hb hby own_d3_42) rfl rfl ?_
    show sT p e below T3 (mkF m 44 #[rv u0, rv u1, iv (0 : Int32), iv (2 : Int32), .val .null, rv d3] [(.ref d3), (.ref u0)]) tz
    refine XS.iloadN X3.here hx rfl (hb hby own_d3_44) rfl ?_
    exact kz
  obtain ⟨_, _, ⟨T5, L5, k5, n5⟩, -, X5, ⟨Lc5, hQ5, l5, y5, z5⟩, st5⟩ := Jvm.LawKit.callS X3 hx (y := (⟨"java/lang/StringUTF16", "coderFromArrayLen", "([BI)B"⟩ : MethodName)) hown (mvT hZ (own_w hw 109 rfl)) (mvT hZ (own_w hw 110 rfl)) (mvT hZ (own_w hw 104 rfl)) (mvT hZ (own_w hw 111 rfl)) (by decide) (backOf (W := 1) (rm20 l Z a0 hw [] d3 (2 : Int32) ln3 cd3 T3.heap n0 O4 Vq3 LC3 (by decide) (by decide)) hZ (own_w hw 111 rfl) (own_w hw 104 rfl) (by decide) (by decide)) (g := (mkF m 45 #[rv u0, rv u1, iv (0 : Int32), iv (2 : Int32), .val .null, rv d3] [(.int (2 : Int32)), (.ref d3), (.ref u0)])) rfl (by rw [hml]; rfl) (argsL := [(.ref d3), (.int (2 : Int32))]) (rest := [(.ref u0)]) (lenOf own_pd7 rfl) rfl (by show 2 * 0 + _ ≤ _; exact Nat.le_of_eq rfl) (hb hby own_d3_45) (fun _ _ => ⟨rfl, rfl, (by decide : 2 + 0 ≤ _), (by decide : 6 + 0 ≤ _)⟩)
  dsimp only [Pt.U, Pt.locs, Pt.cells, Pt.slots] at X5 l5 y5 z5 st5 hQ5
  subst l5 y5 z5
  obtain ⟨rfl, Nq5, e5⟩ := hQ5
  have N5 := Fr.app N3 Nq5
  refine own_on (B := T5.setTop (mkF m 48 #[rv u0, rv u1, iv (0 : Int32), iv (2 : Int32), .val .null, rv d3] [(.int cd3), (.ref u0)])) (fun tz kz => st5 _ kz) ?_
  have f_6 := (F_coder.keep Kq3 nin0)
  have f_7 := (E_u0.keep Kq3)
  obtain ⟨T8, h8, X8, e8, W8, st8⟩ := putFN X5 hx hZ hown (own_w hw 27 rfl) Via.refl e5 f_6 f_7 (Or.inr ⟨(own_w hw 23 rfl), rfl, hnm⟩) (own_w hw 7 rfl) (ty := .byte) (v' := (.int cd3)) (by decide) (own_cfn LC3) (own_cff LC3) (g := (mkF m 48 #[rv u0, rv u1, iv (0 : Int32), iv (2 : Int32), .val .null, rv d3] [(.int cd3), (.ref u0)])) rfl rfl (hb hby own_d3_48)
  have Fw8 := f_6.same W8
  have N8 := Fr.snoc X8 N5 g_u0
  have O9 := O4.wr W8 g_u0
  have K9 : Keep h0 h8 [u0] := K4.wr W8 (Or.inl (List.mem_of_getElem? (i := 0) rfl))
  refine own_on (B := T8.setTop (mkF m 51 #[rv u0, rv u1, iv (0 : Int32), iv (2 : Int32), .val .null, rv d3] [])) (fun tz kz => st8 _ kz) ?_
  refine own_on (B := T8.setTop (mkF m 54 #[rv u0, rv u1, iv (0 : Int32), iv (2 : Int32), .val .null, rv d3] [(.ref d3), (.ref u0)])) (fun tz kz => ?_) ?_
  · show sT p e below T8 (mkF m 51 #[rv u0, rv u1, iv (0 : Int32), iv (2 : Int32), .val .null, rv d3] []) tz
    refine XS.aloadN X8.here hx rfl (hb hby own_d3_51) rfl rfl ?_
    show sT p e below T8 (mkF m 52 #[rv u0, rv u1, iv (0 : Int32), iv (2 : Int32), .val .null, rv d3] [(.ref u0)]) tz
    refine XS.aload X8.here hx rfl (hb hby own_d3_52) rfl rfl ?_
    exact kz
  have f_10 := ((F_value.keep Kq3 nin0).other W8 (Or.inr (slot_ne (Or.inr (own_w hw 22 rfl)) (Or.inr (own_w hw 23 rfl)) (by decide) (t := (.array .byte)) (t' := .byte) (by decide) (by decide))))
  have f_11 := (f_7.wr W8)
  obtain ⟨T12, h12, X12, e12, W12, st12⟩ := putF X8 hx hZ hown (host := "") (Or.inl (own_w hw 26 rfl)) Via.refl e8 f_10 f_11 (Or.inr ⟨(own_w hw 22 rfl), rfl, hnm⟩) (own_w hw 7 rfl) (ty := (.array .byte)) (by decide) rfl rfl (g := (mkF m 54 #[rv u0, rv u1, iv (0 : Int32), iv (2 : Int32), .val .null, rv d3] [(.ref d3), (.ref u0)])) rfl rfl (hb hby own_d3_54)
  have Fw12 := f_10.same W12
  have N12 := Fr.snoc X12 N8 g_u0
  have O13 := O9.wr W12 g_u0
  have K13 : Keep h0 h12 [u0] := K9.wr W12 (Or.inl (List.mem_of_getElem? (i := 0) rfl))
  refine own_on (B := T12.setTop (mkF m 57 #[rv u0, rv u1, iv (0 : Int32), iv (2 : Int32), .val .null, rv d3] [])) (fun tz kz => st12 _ kz) ?_
  have f_14 := (Fw8.other W12 (Or.inr (slot_ne (Or.inr (own_w hw 23 rfl)) (Or.inr (own_w hw 22 rfl)) (by decide) (t := .byte) (t' := (.array .byte)) (by decide) (by decide))))
  have f_15 := ((Vq3.other W8 (Ne.symm ne_u0_d3)).other W12 (Ne.symm ne_u0_d3))
  obtain ⟨fs, hr, hrun, hended, hW, hsame⟩ := X12.leave (v := none) (fun _ => rfl)
  refine own_of ⟨_, _, ?_, hrun, hended, _, _, rfl, ?_, ⟨_, rfl⟩, hW, hsame.mono (by decide) (by decide)⟩
  · show sT p e below T12 (mkF m 57 #[rv u0, rv u1, iv (0 : Int32), iv (2 : Int32), .val .null, rv d3] []) _
    exact X12.returnOut hx Bd.returns (hb hby own_d3_57) hr
  · show Q3b Z u0 u1 cS kx x0 x1 h0 n0 _ T12.heap _
    rw [e12]
    exact ⟨d3, ln3, cd3, rfl, N12, K13, Fw12, f_14, f_15, LC3⟩
theorem own_ef_2b (m : MethodId) (x0 : Addr) (x1 : Addr) : entryFrame m #[(.ref x0), (.ref x1)] 2 = mkF m 0 #[rv x0, rv x1] [] := by first | (simp [entryFrame, mkF, argsToLocals, Value.category]; done) | rfl
def Q2b (Z : State) (u0 : Addr) (u1 : Addr) (cS : Int32) (kx : ClassId) (x0 : Int32) (x1 : Int32) (h0 : Heap) (n0 : Nat) (v : Option Value) (h : Heap) (L : List Loc) : Prop := ∃ (b : Addr) (ln cd : Int32), v = none ∧ Fr n0 L ∧ Keep h0 h [u0] ∧ Fld Z h u0 "java/lang/String" "value" "[B" (.ref b) ∧ Fld Z h u0 "java/lang/String" "coder" "B" (.int cd) ∧ OwnArz Z h b .byte ln ∧ OwnLC (2 : Int32) ln cd
set_option maxRecDepth 65536 in
set_option maxHeartbeats 40000000 in
theorem rm2b (l : Launch) (Z : State) (a0 : Array Value) (hw : ∀ d ∈ tables_1, d.before a0 Z = true) (ws : List Jvm.Cond) (u0 : Addr) (u1 : Addr) (cS : Int32) (kx : ClassId) (x0 : Int32) (x1 : Int32) (h0 : Heap) (n0 : Nat) (O0 : Old Z n0 h0) (E_u0 : Exa Z h0 u0 "java/lang/String") (g_u0 : n0 ≤ u0) (F_value : Fld Z h0 u0 "java/lang/String" "value" "[B" .null) (F_coder : Fld Z h0 u0 "java/lang/String" "coder" "B" (.int (0 : Int32))) (S_cs : Sta Z Z.heap "java/lang/String" "COMPACT_STRINGS" "Z" (.int cS)) (hcS : ¬ (cS = (0 : Int32))) (S_as : Sta Z Z.heap "java/lang/StringUTF16" "$assertionsDisabled" "Z" (.int 1)) (S_hi : Sta Z Z.heap "java/lang/StringUTF16" "HI_BYTE_SHIFT" "I" (.int 0)) (S_lo : Sta Z Z.heap "java/lang/StringUTF16" "LO_BYTE_SHIFT" "I" (.int 8)) (Vc : Arv Z h0 u1 kx .char (2 : Int32) [(.int x0), (.int x1)] (.int 0)) (l0 : ¬ x0 < 0) (u0_ : ¬ (65535 : Int32) < x0) (l1 : ¬ x1 < 0) (u1_ : ¬ (65535 : Int32) < x1) :
    MetFree l (⟨"java/lang/String", "<init>", "([C)V"⟩ : MethodName) (head1 (Jvm.Cond.code (⟨"java/lang/String", "<init>", "([C)V"⟩ : MethodName) jdk_42_method_3_code 2 none :: ws) ({ frames := 5, cells := 2, slots := 6, locals := 80 } : Room)) (fun a U => a = #[(.ref u0), (.ref u1)] ∧ Z.Warmed39 U.vm ∧ U.heap = h0) (fun _ _ _ _ _ => True) (fun _ U o U' => ∃ v L, o = .returned v ∧ Q2b Z u0 u1 cS kx x0 x1 h0 n0 v U'.heap L ∧ FrameEnd U o U' L ({ frames := 5, cells := 2, slots := 6, locals := 80 } : Room).cells ({ frames := 5, cells := 2, slots := 6, locals := 80 } : Room).slots) := by
  refine MetFree.of_bodySF (plainFor_of_name own_pn_java_lang_String) hisR ?_
  intro p e s m args below meth c s₁ Bd hml0 hP hK
  obtain ⟨rfl, hZ, hh⟩ := hP
  have hx := Bd.exec
  have hby := Bd.bytes
  have hml : c.maxLocals = 2 := hml0
  have hown : s.vm.findClass "java/lang/String" = some m.cls := findClass_of_methodNamed Bd.named
  have hnm := (name_of_methodNamed Bd.named Bd.method).1
  have X0 : Stand p l e ({ frames := 5, cells := 2, slots := 6, locals := 80 } : Room) s m #[(.ref u0), (.ref u1)] below meth c s₁ [] 0 0 := Stand.of_body Bd
  have e0 : s₁.heap = h0 := by rw [← hh, Bd.state]; rfl
  have N0 := Fr.nil n0
  change Go p.tables e below _ _
  refine own_on (B := s₁.setTop (mkF m 0 #[rv u0, rv u1] [])) (fun tz kz => castTop (own_ef_2b m u0 u1) kz) ?_
  refine own_on (B := s₁.setTop (mkF m 4 #[rv u0, rv u1] [(.ref u1), (.int (0 : Int32)), (.ref u1), (.ref u0)])) (fun tz kz => ?_) ?_
  · show sT p e below s₁ (mkF m 0 #[rv u0, rv u1] []) tz
    refine XS.aloadN X0.here hx rfl (hb hby own_d2_0) rfl rfl ?_
    show sT p e below s₁ (mkF m 1 #[rv u0, rv u1] [(.ref u0)]) tz
    refine XS.aloadN X0.here hx rfl (hb hby own_d2_1) rfl rfl ?_
    show sT p e below s₁ (mkF m 2 #[rv u0, rv u1] [(.ref u1), (.ref u0)]) tz
    refine XS.iconst X0.here hx rfl (hb hby own_d2_2) ?_
    show sT p e below s₁ (mkF m 3 #[rv u0, rv u1] [(.int (0 : Int32)), (.ref u1), (.ref u0)]) tz
    refine XS.aloadN X0.here hx rfl (hb hby own_d2_3) rfl rfl ?_
    exact kz
  obtain ⟨cl1, Ar1, q1, S1, M1, H1, G1⟩ := id Vc
  refine own_on (B := s₁.setTop (mkF m 6 #[rv u0, rv u1] [.null, (.int (2 : Int32)), (.int (0 : Int32)), (.ref u1), (.ref u0)])) (fun tz kz => ?_) ?_
  · show sT p e below s₁ (mkF m 4 #[rv u0, rv u1] [(.ref u1), (.int (0 : Int32)), (.ref u1), (.ref u0)]) tz
    refine X0.arraylength hx (by rw [e0]; exact Ar1.1) (State.isArrayOf_alike hZ.alike Ar1.2.1) (g := (mkF m 4 #[rv u0, rv u1] [(.ref u1), (.int (0 : Int32)), (.ref u1), (.ref u0)])) rfl rfl (hb hby own_d2_4) _ ?_
    rw [len_of S1 M1]
    show sT p e below s₁ (mkF m 5 #[rv u0, rv u1] [(.int (2 : Int32)), (.int (0 : Int32)), (.ref u1), (.ref u0)]) tz
    refine XS.aconstNull X0.here hx rfl (hb hby own_d2_5) ?_
    exact kz
  obtain ⟨_, _, ⟨T2, L2, k2, n2⟩, -, X2, ⟨Lc2, hQ2, l2, y2, z2⟩, st2⟩ := X0.specialBack hx (y := (⟨"java/lang/String", "<init>", "([CIILjava/lang/Void;)V"⟩ : MethodName)) rfl hown (mvT hZ (own_w hw 13 rfl)) (mvT hZ (own_w hw 14 rfl)) (mvT hZ (own_w hw 16 rfl)) (by decide) (backOf (W := 0) (rm3b l Z a0 hw [] u0 u1 cS kx x0 x1 h0 n0 O0 E_u0 g_u0 F_value F_coder S_cs hcS S_as S_hi S_lo Vc l0 u0_ l1 u1_) hZ (own_w hw 16 rfl) (own_w hw 8 rfl) (by decide) (by decide)) (g := (mkF m 6 #[rv u0, rv u1] [.null, (.int (2 : Int32)), (.int (0 : Int32)), (.ref u1), (.ref u0)])) rfl (by rw [hml]; rfl) (Steps.refl _) (a := u0) (argsL := [(.ref u1), (.int (0 : Int32)), (.int (2 : Int32)), .null]) (rest := []) (lenOf own_pd6 rfl) rfl (by show 2 * 0 + _ ≤ _; exact Nat.le_of_eq rfl) (hb hby own_d2_6) (fun _ _ => ⟨rfl, e0, (by decide : 0 + 2 ≤ _), (by decide : 0 + 6 ≤ _)⟩)
  dsimp only [Pt.U, Pt.locs, Pt.cells, Pt.slots] at X2 l2 y2 z2 st2 hQ2
  subst l2 y2 z2
  obtain ⟨b2, ln2, cd2, rfl, Nq2, Kq2, Fv2, Fc2, Vb2, LC2⟩ := hQ2
  have N2 := Fr.app N0 Nq2
  have O3 := O0.keep Kq2 (allS g_u0 all0)
  have K3 : Keep h0 T2.heap [u0] := (Keep.refl h0 [u0]).trans Kq2 (allS (Or.inl (List.mem_of_getElem? (i := 0) rfl)) all0)
  refine own_on (B := T2.setTop (mkF m 9 #[rv u0, rv u1] [])) (fun tz kz => st2.trans kz) ?_
  obtain ⟨fs, hr, hrun, hended, hW, hsame⟩ := X2.leave (v := none) (fun _ => rfl)
  refine own_of ⟨_, _, ?_, hrun, hended, _, _, rfl, ?_, ⟨_, rfl⟩, hW, hsame.mono (by decide) (by decide)⟩
  · show sT p e below T2 (mkF m 9 #[rv u0, rv u1] []) _
    exact X2.returnOut hx Bd.returns (hb hby own_d2_9) hr
  · show Q2b Z u0 u1 cS kx x0 x1 h0 n0 _ T2.heap _
    exact ⟨b2, ln2, cd2, rfl, N2, K3, Fv2, Fc2, Vb2, LC2⟩
theorem own_ef_3c (m : MethodId) (x0 : Addr) (x1 : Addr) (x2 : Int32) (x3 : Int32) : entryFrame m #[(.ref x0), (.ref x1), (.int x2), (.int x3), .null] 6 = mkF m 0 #[rv x0, rv x1, iv x2, iv x3, .val .null, .unset] [] := by first | (simp [entryFrame, mkF, argsToLocals, Value.category]; done) | rfl
def Q3c (Z : State) (u0 : Addr) (u1 : Addr) (cS : Int32) (kx : ClassId) (x0 : Int32) (x1 : Int32) (x2 : Int32) (h0 : Heap) (n0 : Nat) (v : Option Value) (h : Heap) (L : List Loc) : Prop := ∃ (b : Addr) (ln cd : Int32), v = none ∧ Fr n0 L ∧ Keep h0 h [u0] ∧ Fld Z h u0 "java/lang/String" "value" "[B" (.ref b) ∧ Fld Z h u0 "java/lang/String" "coder" "B" (.int cd) ∧ OwnArz Z h b .byte ln ∧ OwnLC (3 : Int32) ln cd
set_option maxRecDepth 65536 in
set_option maxHeartbeats 40000000 in
theorem rm3c (l : Launch) (Z : State) (a0 : Array Value) (hw : ∀ d ∈ tables_1, d.before a0 Z = true) (ws : List Jvm.Cond) (u0 : Addr) (u1 : Addr) (cS : Int32) (kx : ClassId) (x0 : Int32) (x1 : Int32) (x2 : Int32) (h0 : Heap) (n0 : Nat) (O0 : Old Z n0 h0) (E_u0 : Exa Z h0 u0 "java/lang/String") (g_u0 : n0 ≤ u0) (F_value : Fld Z h0 u0 "java/lang/String" "value" "[B" .null) (F_coder : Fld Z h0 u0 "java/lang/String" "coder" "B" (.int (0 : Int32))) (S_cs : Sta Z Z.heap "java/lang/String" "COMPACT_STRINGS" "Z" (.int cS)) (hcS : ¬ (cS = (0 : Int32))) (S_as : Sta Z Z.heap "java/lang/StringUTF16" "$assertionsDisabled" "Z" (.int 1)) (S_hi : Sta Z Z.heap "java/lang/StringUTF16" "HI_BYTE_SHIFT" "I" (.int 0)) (S_lo : Sta Z Z.heap "java/lang/StringUTF16" "LO_BYTE_SHIFT" "I" (.int 8)) (Vc : Arv Z h0 u1 kx .char (3 : Int32) [(.int x0), (.int x1), (.int x2)] (.int 0)) (l0 : ¬ x0 < 0) (u0_ : ¬ (65535 : Int32) < x0) (l1 : ¬ x1 < 0) (u1_ : ¬ (65535 : Int32) < x1) (l2 : ¬ x2 < 0) (u2_ : ¬ (65535 : Int32) < x2) :
    MetFree l (⟨"java/lang/String", "<init>", "([CIILjava/lang/Void;)V"⟩ : MethodName) (head1 (Jvm.Cond.code (⟨"java/lang/String", "<init>", "([CIILjava/lang/Void;)V"⟩ : MethodName) jdk_42_method_149_code 6 none :: ws) ({ frames := 4, cells := 2, slots := 9, locals := 60 } : Room)) (fun a U => a = #[(.ref u0), (.ref u1), (.int (0 : Int32)), (.int (3 : Int32)), .null] ∧ Z.Warmed39 U.vm ∧ U.heap = h0) (fun _ _ _ _ _ => True) (fun _ U o U' => ∃ v L, o = .returned v ∧ Q3c Z u0 u1 cS kx x0 x1 x2 h0 n0 v U'.heap L ∧ FrameEnd U o U' L ({ frames := 4, cells := 2, slots := 9, locals := 60 } : Room).cells ({ frames := 4, cells := 2, slots := 9, locals := 60 } : Room).slots) := by
  refine MetFree.of_bodySF (plainFor_of_name own_pn_java_lang_String) hisR ?_
  intro p e s m args below meth c s₁ Bd hml0 hP hK
  obtain ⟨rfl, hZ, hh⟩ := hP
  have hx := Bd.exec
  have hby := Bd.bytes
  have hml : c.maxLocals = 6 := hml0
  have hown : s.vm.findClass "java/lang/String" = some m.cls := findClass_of_methodNamed Bd.named
  have hnm := (name_of_methodNamed Bd.named Bd.method).1
  have X0 : Stand p l e ({ frames := 4, cells := 2, slots := 9, locals := 60 } : Room) s m #[(.ref u0), (.ref u1), (.int (0 : Int32)), (.int (3 : Int32)), .null] below meth c s₁ [] 0 0 := Stand.of_body Bd
  have e0 : s₁.heap = h0 := by rw [← hh, Bd.state]; rfl
  have N0 := Fr.nil n0
  change Go p.tables e below _ _
  refine own_on (B := s₁.setTop (mkF m 0 #[rv u0, rv u1, iv (0 : Int32), iv (3 : Int32), .val .null, .unset] [])) (fun tz kz => castTop (own_ef_3c m u0 u1 (0 : Int32) (3 : Int32)) kz) ?_
  have n01 : u1 ≠ u0 := Ne.symm (Exa.neArv E_u0 Vc (own_w hw 7 rfl))
  refine own_on (B := s₁.setTop (mkF m 1 #[rv u0, rv u1, iv (0 : Int32), iv (3 : Int32), .val .null, .unset] [(.ref u0)])) (fun tz kz => ?_) ?_
  · show sT p e below s₁ (mkF m 0 #[rv u0, rv u1, iv (0 : Int32), iv (3 : Int32), .val .null, .unset] []) tz
    refine XS.aloadN X0.here hx rfl (hb hby own_d3_0) rfl rfl ?_
    exact kz
  obtain ⟨T1, X1, e1, st1⟩ := initO X0 hx hZ hown (own_w hw 17 rfl) (own_w hw 18 rfl) (own_w hw 19 rfl) e0 (g := (mkF m 1 #[rv u0, rv u1, iv (0 : Int32), iv (3 : Int32), .val .null, .unset] [(.ref u0)])) rfl (by rw [hml]; rfl) rfl (hb hby own_d3_1) (by decide) (W := 0) (by show 2 * 0 + _ ≤ _; exact Nat.le_of_eq rfl) (by decide)
  refine own_on (B := T1.setTop (mkF m 4 #[rv u0, rv u1, iv (0 : Int32), iv (3 : Int32), .val .null, .unset] [])) (fun tz kz => st1 _ kz) ?_
  refine own_on (B := T1.setTop (mkF m 27 #[rv u0, rv u1, iv (0 : Int32), iv (3 : Int32), .val .null, .unset] [])) (fun tz kz => ?_) ?_
  · show sT p e below T1 (mkF m 4 #[rv u0, rv u1, iv (0 : Int32), iv (3 : Int32), .val .null, .unset] []) tz
    refine XS.iloadN X1.here hx rfl (hb hby own_d3_4) rfl ?_
    show sT p e below T1 (mkF m 5 #[rv u0, rv u1, iv (0 : Int32), iv (3 : Int32), .val .null, .unset] [(.int (3 : Int32))]) tz
    refine XS.ifYes X1.here hx rfl (pc0 := 5) (pc' := 27) rfl (hb hby own_d3_5) rfl ((if0 _ _).trans (feq (by decide : ¬ ((3 : Int32) = (0 : Int32)))).2) (by decide) (by decide) ?_
    exact kz
  obtain ⟨T2, X2, e2, st2⟩ := getS2 X1 hx hZ hown (host := "") (Or.inl (own_w hw 90 rfl)) Via.refl e1 (S_cs.ext O0.2) (g := (mkF m 27 #[rv u0, rv u1, iv (0 : Int32), iv (3 : Int32), .val .null, .unset] [])) rfl (hb hby own_d3_27)
  refine own_on (B := T2.setTop (mkF m 30 #[rv u0, rv u1, iv (0 : Int32), iv (3 : Int32), .val .null, .unset] [(.int cS)])) (fun tz kz => st2 _ kz) ?_
  refine own_on (B := T2.setTop (mkF m 36 #[rv u0, rv u1, iv (0 : Int32), iv (3 : Int32), .val .null, .unset] [(.int (3 : Int32)), (.int (0 : Int32)), (.ref u1)])) (fun tz kz => ?_) ?_
  · show sT p e below T2 (mkF m 30 #[rv u0, rv u1, iv (0 : Int32), iv (3 : Int32), .val .null, .unset] [(.int cS)]) tz
    refine XS.ifNo X2.here hx rfl (hb hby own_d3_30) rfl ((if0 _ _).trans (feq hcS).1) ?_
    show sT p e below T2 (mkF m 33 #[rv u0, rv u1, iv (0 : Int32), iv (3 : Int32), .val .null, .unset] []) tz
    refine XS.aloadN X2.here hx rfl (hb hby own_d3_33) rfl rfl ?_
    show sT p e below T2 (mkF m 34 #[rv u0, rv u1, iv (0 : Int32), iv (3 : Int32), .val .null, .unset] [(.ref u1)]) tz
    refine XS.iloadN X2.here hx rfl (hb hby own_d3_34) rfl ?_
    show sT p e below T2 (mkF m 35 #[rv u0, rv u1, iv (0 : Int32), iv (3 : Int32), .val .null, .unset] [(.int (0 : Int32)), (.ref u1)]) tz
    refine XS.iloadN X2.here hx rfl (hb hby own_d3_35) rfl ?_
    exact kz
  obtain ⟨_, _, ⟨T3, L3, k3, n3⟩, -, X3, ⟨Lc3, hQ3, l3, y3, z3⟩, st3⟩ := Jvm.LawKit.callS X2 hx (y := (⟨"java/lang/StringUTF16", "compress", "([CII)[B"⟩ : MethodName)) hown (mvT hZ (own_w hw 102 rfl)) (mvT hZ (own_w hw 103 rfl)) (mvT hZ (own_w hw 104 rfl)) (mvT hZ (own_w hw 105 rfl)) (by decide) (backOf (W := 0) (rm18c l Z a0 hw [] u1 kx x0 x1 x2 h0 n0 O0 S_as S_hi S_lo Vc l0 u0_ l1 u1_ l2 u2_) hZ (own_w hw 105 rfl) (own_w hw 104 rfl) (by decide) (by decide)) (g := (mkF m 36 #[rv u0, rv u1, iv (0 : Int32), iv (3 : Int32), .val .null, .unset] [(.int (3 : Int32)), (.int (0 : Int32)), (.ref u1)])) rfl (by rw [hml]; rfl) (argsL := [(.ref u1), (.int (0 : Int32)), (.int (3 : Int32))]) (rest := []) (lenOf own_pd4 rfl) rfl (by show 2 * 0 + _ ≤ _; exact Nat.le_of_eq rfl) (hb hby own_d3_36) (fun _ _ => ⟨rfl, e2, (by decide : 0 + 2 ≤ _), (by decide : 0 + 9 ≤ _)⟩)
  dsimp only [Pt.U, Pt.locs, Pt.cells, Pt.slots] at X3 l3 y3 z3 st3 hQ3
  subst l3 y3 z3
  obtain ⟨d3, ln3, cd3, rfl, Nq3, Kq3, zq3, Vq3, LC3⟩ := hQ3
  have N3 := Fr.app N0 Nq3
  have ne_u0_d3 : u0 ≠ d3 := Nat.ne_of_lt (Nat.lt_of_lt_of_le (E_u0).lt zq3)
  have ne_u1_d3 : u1 ≠ d3 := Nat.ne_of_lt (Nat.lt_of_lt_of_le (Vc).lt zq3)
  have g_d3 : n0 ≤ d3 := Nat.le_trans (own_old O0) zq3
  have sz_d3 : h0.size ≤ d3 := Nat.le_trans (Keep.refl h0 [u0]).1 zq3
  have O4 := O0.keep Kq3 all0
  have K4 : Keep h0 T3.heap [u0] := (Keep.refl h0 [u0]).trans Kq3 all0
  refine own_on (B := T3.setTop (mkF m 39 #[rv u0, rv u1, iv (0 : Int32), iv (3 : Int32), .val .null, .unset] [(.ref d3)])) (fun tz kz => st3 _ kz) ?_
  refine own_on (B := T3.setTop (mkF m 45 #[rv u0, rv u1, iv (0 : Int32), iv (3 : Int32), .val .null, rv d3] [(.int (3 : Int32)), (.ref d3), (.ref u0)])) (fun tz kz => ?_) ?_
  · show sT p e below T3 (mkF m 39 #[rv u0, rv u1, iv (0 : Int32), iv (3 : Int32), .val .null, .unset] [(.ref d3)]) tz
    refine XS.astore X3.here hx rfl (hb hby own_d3_39) rfl rfl (l' := #[rv u0, rv u1, iv (0 : Int32), iv (3 : Int32), .val .null, rv d3]) rfl ?_
    show sT p e below T3 (mkF m 41 #[rv u0, rv u1, iv (0 : Int32), iv (3 : Int32), .val .null, rv d3] []) tz
    refine XS.aloadN X3.here hx rfl (hb hby own_d3_41) rfl rfl ?_
    show sT p e below T3 (mkF m 42 #[rv u0, rv u1, iv (0 : Int32), iv (3 : Int32), .val .null, rv d3] [(.ref u0)]) tz
    refine XS.aload X3.here hx rfl (hb hby own_d3_42) rfl rfl ?_
    show sT p e below T3 (mkF m 44 #[rv u0, rv u1, iv (0 : Int32), iv (3 : Int32), .val .null, rv d3] [(.ref d3), (.ref u0)]) tz
    refine XS.iloadN X3.here hx rfl (hb hby own_d3_44) rfl ?_
    exact kz
  obtain ⟨_, _, ⟨T5, L5, k5, n5⟩, -, X5, ⟨Lc5, hQ5, l5, y5, z5⟩, st5⟩ := Jvm.LawKit.callS X3 hx (y := (⟨"java/lang/StringUTF16", "coderFromArrayLen", "([BI)B"⟩ : MethodName)) hown (mvT hZ (own_w hw 109 rfl)) (mvT hZ (own_w hw 110 rfl)) (mvT hZ (own_w hw 104 rfl)) (mvT hZ (own_w hw 111 rfl)) (by decide) (backOf (W := 1) (rm20 l Z a0 hw [] d3 (3 : Int32) ln3 cd3 T3.heap n0 O4 Vq3 LC3 (by decide) (by decide)) hZ (own_w hw 111 rfl) (own_w hw 104 rfl) (by decide) (by decide)) (g := (mkF m 45 #[rv u0, rv u1, iv (0 : Int32), iv (3 : Int32), .val .null, rv d3] [(.int (3 : Int32)), (.ref d3), (.ref u0)])) rfl (by rw [hml]; rfl) (argsL := [(.ref d3), (.int (3 : Int32))]) (rest := [(.ref u0)]) (lenOf own_pd7 rfl) rfl (by show 2 * 0 + _ ≤ _; exact Nat.le_of_eq rfl) (hb hby own_d3_45) (fun _ _ => ⟨rfl, rfl, (by decide : 2 + 0 ≤ _), (by decide : 9 + 0 ≤ _)⟩)
  dsimp only [Pt.U, Pt.locs, Pt.cells, Pt.slots] at X5 l5 y5 z5 st5 hQ5
  subst l5 y5 z5
  obtain ⟨rfl, Nq5, e5⟩ := hQ5
  have N5 := Fr.app N3 Nq5
  refine own_on (B := T5.setTop (mkF m 48 #[rv u0, rv u1, iv (0 : Int32), iv (3 : Int32), .val .null, rv d3] [(.int cd3), (.ref u0)])) (fun tz kz => st5 _ kz) ?_
  have f_6 := (F_coder.keep Kq3 nin0)
  have f_7 := (E_u0.keep Kq3)
  obtain ⟨T8, h8, X8, e8, W8, st8⟩ := putFN X5 hx hZ hown (own_w hw 27 rfl) Via.refl e5 f_6 f_7 (Or.inr ⟨(own_w hw 23 rfl), rfl, hnm⟩) (own_w hw 7 rfl) (ty := .byte) (v' := (.int cd3)) (by decide) (own_cfn LC3) (own_cff LC3) (g := (mkF m 48 #[rv u0, rv u1, iv (0 : Int32), iv (3 : Int32), .val .null, rv d3] [(.int cd3), (.ref u0)])) rfl rfl (hb hby own_d3_48)
  have Fw8 := f_6.same W8
  have N8 := Fr.snoc X8 N5 g_u0
  have O9 := O4.wr W8 g_u0
  have K9 : Keep h0 h8 [u0] := K4.wr W8 (Or.inl (List.mem_of_getElem? (i := 0) rfl))
  refine own_on (B := T8.setTop (mkF m 51 #[rv u0, rv u1, iv (0 : Int32), iv (3 : Int32), .val .null, rv d3] [])) (fun tz kz => st8 _ kz) ?_
  refine own_on (B := T8.setTop (mkF m 54 #[rv u0, rv u1, iv (0 : Int32), iv (3 : Int32), .val .null, rv d3] [(.ref d3), (.ref u0)])) (fun tz kz => ?_) ?_
  · show sT p e below T8 (mkF m 51 #[rv u0, rv u1, iv (0 : Int32), iv (3 : Int32), .val .null, rv d3] []) tz
    refine XS.aloadN X8.here hx rfl (hb hby own_d3_51) rfl rfl ?_
    show sT p e below T8 (mkF m 52 #[rv u0, rv u1, iv (0 : Int32), iv (3 : Int32), .val .null, rv d3] [(.ref u0)]) tz
    refine XS.aload X8.here hx rfl (hb hby own_d3_52) rfl rfl ?_
    exact kz
  have f_10 := ((F_value.keep Kq3 nin0).other W8 (Or.inr (slot_ne (Or.inr (own_w hw 22 rfl)) (Or.inr (own_w hw 23 rfl)) (by decide) (t := (.array .byte)) (t' := .byte) (by decide) (by decide))))
  have f_11 := (f_7.wr W8)
  obtain ⟨T12, h12, X12, e12, W12, st12⟩ := putF X8 hx hZ hown (host := "") (Or.inl (own_w hw 26 rfl)) Via.refl e8 f_10 f_11 (Or.inr ⟨(own_w hw 22 rfl), rfl, hnm⟩) (own_w hw 7 rfl) (ty := (.array .byte)) (by decide) rfl rfl (g := (mkF m 54 #[rv u0, rv u1, iv (0 : Int32), iv (3 : Int32), .val .null, rv d3] [(.ref d3), (.ref u0)])) rfl rfl (hb hby own_d3_54)
  have Fw12 := f_10.same W12
  have N12 := Fr.snoc X12 N8 g_u0
  have O13 := O9.wr W12 g_u0
  have K13 : Keep h0 h12 [u0] := K9.wr W12 (Or.inl (List.mem_of_getElem? (i := 0) rfl))
  refine own_on (B := T12.setTop (mkF m 57 #[rv u0, rv u1, iv (0 : Int32), iv (3 : Int32), .val .null, rv d3] [])) (fun tz kz => st12 _ kz) ?_
  have f_14 := (Fw8.other W12 (Or.inr (slot_ne (Or.inr (own_w hw 23 rfl)) (Or.inr (own_w hw 22 rfl)) (by decide) (t := .byte) (t' := (.array .byte)) (by decide) (by decide))))
  have f_15 := ((Vq3.other W8 (Ne.symm ne_u0_d3)).other W12 (Ne.symm ne_u0_d3))
  obtain ⟨fs, hr, hrun, hended, hW, hsame⟩ := X12.leave (v := none) (fun _ => rfl)
  refine own_of ⟨_, _, ?_, hrun, hended, _, _, rfl, ?_, ⟨_, rfl⟩, hW, hsame.mono (by decide) (by decide)⟩
  · show sT p e below T12 (mkF m 57 #[rv u0, rv u1, iv (0 : Int32), iv (3 : Int32), .val .null, rv d3] []) _
    exact X12.returnOut hx Bd.returns (hb hby own_d3_57) hr
  · show Q3c Z u0 u1 cS kx x0 x1 x2 h0 n0 _ T12.heap _
    rw [e12]
    exact ⟨d3, ln3, cd3, rfl, N12, K13, Fw12, f_14, f_15, LC3⟩
theorem own_ef_2c (m : MethodId) (x0 : Addr) (x1 : Addr) : entryFrame m #[(.ref x0), (.ref x1)] 2 = mkF m 0 #[rv x0, rv x1] [] := by first | (simp [entryFrame, mkF, argsToLocals, Value.category]; done) | rfl
def Q2c (Z : State) (u0 : Addr) (u1 : Addr) (cS : Int32) (kx : ClassId) (x0 : Int32) (x1 : Int32) (x2 : Int32) (h0 : Heap) (n0 : Nat) (v : Option Value) (h : Heap) (L : List Loc) : Prop := ∃ (b : Addr) (ln cd : Int32), v = none ∧ Fr n0 L ∧ Keep h0 h [u0] ∧ Fld Z h u0 "java/lang/String" "value" "[B" (.ref b) ∧ Fld Z h u0 "java/lang/String" "coder" "B" (.int cd) ∧ OwnArz Z h b .byte ln ∧ OwnLC (3 : Int32) ln cd
set_option maxRecDepth 65536 in
set_option maxHeartbeats 40000000 in
theorem rm2c (l : Launch) (Z : State) (a0 : Array Value) (hw : ∀ d ∈ tables_1, d.before a0 Z = true) (ws : List Jvm.Cond) (u0 : Addr) (u1 : Addr) (cS : Int32) (kx : ClassId) (x0 : Int32) (x1 : Int32) (x2 : Int32) (h0 : Heap) (n0 : Nat) (O0 : Old Z n0 h0) (E_u0 : Exa Z h0 u0 "java/lang/String") (g_u0 : n0 ≤ u0) (F_value : Fld Z h0 u0 "java/lang/String" "value" "[B" .null) (F_coder : Fld Z h0 u0 "java/lang/String" "coder" "B" (.int (0 : Int32))) (S_cs : Sta Z Z.heap "java/lang/String" "COMPACT_STRINGS" "Z" (.int cS)) (hcS : ¬ (cS = (0 : Int32))) (S_as : Sta Z Z.heap "java/lang/StringUTF16" "$assertionsDisabled" "Z" (.int 1)) (S_hi : Sta Z Z.heap "java/lang/StringUTF16" "HI_BYTE_SHIFT" "I" (.int 0)) (S_lo : Sta Z Z.heap "java/lang/StringUTF16" "LO_BYTE_SHIFT" "I" (.int 8)) (Vc : Arv Z h0 u1 kx .char (3 : Int32) [(.int x0), (.int x1), (.int x2)] (.int 0)) (l0 : ¬ x0 < 0) (u0_ : ¬ (65535 : Int32) < x0) (l1 : ¬ x1 < 0) (u1_ : ¬ (65535 : Int32) < x1) (l2 : ¬ x2 < 0) (u2_ : ¬ (65535 : Int32) < x2) :
    MetFree l (⟨"java/lang/String", "<init>", "([C)V"⟩ : MethodName) (head1 (Jvm.Cond.code (⟨"java/lang/String", "<init>", "([C)V"⟩ : MethodName) jdk_42_method_3_code 2 none :: ws) ({ frames := 5, cells := 2, slots := 9, locals := 80 } : Room)) (fun a U => a = #[(.ref u0), (.ref u1)] ∧ Z.Warmed39 U.vm ∧ U.heap = h0) (fun _ _ _ _ _ => True) (fun _ U o U' => ∃ v L, o = .returned v ∧ Q2c Z u0 u1 cS kx x0 x1 x2 h0 n0 v U'.heap L ∧ FrameEnd U o U' L ({ frames := 5, cells := 2, slots := 9, locals := 80 } : Room).cells ({ frames := 5, cells := 2, slots := 9, locals := 80 } : Room).slots) := by
  refine MetFree.of_bodySF (plainFor_of_name own_pn_java_lang_String) hisR ?_
  intro p e s m args below meth c s₁ Bd hml0 hP hK
  obtain ⟨rfl, hZ, hh⟩ := hP
  have hx := Bd.exec
  have hby := Bd.bytes
  have hml : c.maxLocals = 2 := hml0
  have hown : s.vm.findClass "java/lang/String" = some m.cls := findClass_of_methodNamed Bd.named
  have hnm := (name_of_methodNamed Bd.named Bd.method).1
  have X0 : Stand p l e ({ frames := 5, cells := 2, slots := 9, locals := 80 } : Room) s m #[(.ref u0), (.ref u1)] below meth c s₁ [] 0 0 := Stand.of_body Bd
  have e0 : s₁.heap = h0 := by rw [← hh, Bd.state]; rfl
  have N0 := Fr.nil n0
  change Go p.tables e below _ _
  refine own_on (B := s₁.setTop (mkF m 0 #[rv u0, rv u1] [])) (fun tz kz => castTop (own_ef_2c m u0 u1) kz) ?_
  refine own_on (B := s₁.setTop (mkF m 4 #[rv u0, rv u1] [(.ref u1), (.int (0 : Int32)), (.ref u1), (.ref u0)])) (fun tz kz => ?_) ?_
  · show sT p e below s₁ (mkF m 0 #[rv u0, rv u1] []) tz
    refine XS.aloadN X0.here hx rfl (hb hby own_d2_0) rfl rfl ?_
    show sT p e below s₁ (mkF m 1 #[rv u0, rv u1] [(.ref u0)]) tz
    refine XS.aloadN X0.here hx rfl (hb hby own_d2_1) rfl rfl ?_
    show sT p e below s₁ (mkF m 2 #[rv u0, rv u1] [(.ref u1), (.ref u0)]) tz
    refine XS.iconst X0.here hx rfl (hb hby own_d2_2) ?_
    show sT p e below s₁ (mkF m 3 #[rv u0, rv u1] [(.int (0 : Int32)), (.ref u1), (.ref u0)]) tz
    refine XS.aloadN X0.here hx rfl (hb hby own_d2_3) rfl rfl ?_
    exact kz
  obtain ⟨cl1, Ar1, q1, S1, M1, H1, G1⟩ := id Vc
  refine own_on (B := s₁.setTop (mkF m 6 #[rv u0, rv u1] [.null, (.int (3 : Int32)), (.int (0 : Int32)), (.ref u1), (.ref u0)])) (fun tz kz => ?_) ?_
  · show sT p e below s₁ (mkF m 4 #[rv u0, rv u1] [(.ref u1), (.int (0 : Int32)), (.ref u1), (.ref u0)]) tz
    refine X0.arraylength hx (by rw [e0]; exact Ar1.1) (State.isArrayOf_alike hZ.alike Ar1.2.1) (g := (mkF m 4 #[rv u0, rv u1] [(.ref u1), (.int (0 : Int32)), (.ref u1), (.ref u0)])) rfl rfl (hb hby own_d2_4) _ ?_
    rw [len_of S1 M1]
    show sT p e below s₁ (mkF m 5 #[rv u0, rv u1] [(.int (3 : Int32)), (.int (0 : Int32)), (.ref u1), (.ref u0)]) tz
    refine XS.aconstNull X0.here hx rfl (hb hby own_d2_5) ?_
    exact kz
  obtain ⟨_, _, ⟨T2, L2, k2, n2⟩, -, X2, ⟨Lc2, hQ2, l2, y2, z2⟩, st2⟩ := X0.specialBack hx (y := (⟨"java/lang/String", "<init>", "([CIILjava/lang/Void;)V"⟩ : MethodName)) rfl hown (mvT hZ (own_w hw 13 rfl)) (mvT hZ (own_w hw 14 rfl)) (mvT hZ (own_w hw 16 rfl)) (by decide) (backOf (W := 0) (rm3c l Z a0 hw [] u0 u1 cS kx x0 x1 x2 h0 n0 O0 E_u0 g_u0 F_value F_coder S_cs hcS S_as S_hi S_lo Vc l0 u0_ l1 u1_ l2 u2_) hZ (own_w hw 16 rfl) (own_w hw 8 rfl) (by decide) (by decide)) (g := (mkF m 6 #[rv u0, rv u1] [.null, (.int (3 : Int32)), (.int (0 : Int32)), (.ref u1), (.ref u0)])) rfl (by rw [hml]; rfl) (Steps.refl _) (a := u0) (argsL := [(.ref u1), (.int (0 : Int32)), (.int (3 : Int32)), .null]) (rest := []) (lenOf own_pd6 rfl) rfl (by show 2 * 0 + _ ≤ _; exact Nat.le_of_eq rfl) (hb hby own_d2_6) (fun _ _ => ⟨rfl, e0, (by decide : 0 + 2 ≤ _), (by decide : 0 + 9 ≤ _)⟩)
  dsimp only [Pt.U, Pt.locs, Pt.cells, Pt.slots] at X2 l2 y2 z2 st2 hQ2
  subst l2 y2 z2
  obtain ⟨b2, ln2, cd2, rfl, Nq2, Kq2, Fv2, Fc2, Vb2, LC2⟩ := hQ2
  have N2 := Fr.app N0 Nq2
  have O3 := O0.keep Kq2 (allS g_u0 all0)
  have K3 : Keep h0 T2.heap [u0] := (Keep.refl h0 [u0]).trans Kq2 (allS (Or.inl (List.mem_of_getElem? (i := 0) rfl)) all0)
  refine own_on (B := T2.setTop (mkF m 9 #[rv u0, rv u1] [])) (fun tz kz => st2.trans kz) ?_
  obtain ⟨fs, hr, hrun, hended, hW, hsame⟩ := X2.leave (v := none) (fun _ => rfl)
  refine own_of ⟨_, _, ?_, hrun, hended, _, _, rfl, ?_, ⟨_, rfl⟩, hW, hsame.mono (by decide) (by decide)⟩
  · show sT p e below T2 (mkF m 9 #[rv u0, rv u1] []) _
    exact X2.returnOut hx Bd.returns (hb hby own_d2_9) hr
  · show Q2c Z u0 u1 cS kx x0 x1 x2 h0 n0 _ T2.heap _
    exact ⟨b2, ln2, cd2, rfl, N2, K3, Fv2, Fc2, Vb2, LC2⟩
theorem own_ef_3d (m : MethodId) (x0 : Addr) (x1 : Addr) (x2 : Int32) (x3 : Int32) : entryFrame m #[(.ref x0), (.ref x1), (.int x2), (.int x3), .null] 6 = mkF m 0 #[rv x0, rv x1, iv x2, iv x3, .val .null, .unset] [] := by first | (simp [entryFrame, mkF, argsToLocals, Value.category]; done) | rfl
def Q3d (Z : State) (u0 : Addr) (u1 : Addr) (cS : Int32) (kx : ClassId) (x0 : Int32) (x1 : Int32) (x2 : Int32) (x3 : Int32) (h0 : Heap) (n0 : Nat) (v : Option Value) (h : Heap) (L : List Loc) : Prop := ∃ (b : Addr) (ln cd : Int32), v = none ∧ Fr n0 L ∧ Keep h0 h [u0] ∧ Fld Z h u0 "java/lang/String" "value" "[B" (.ref b) ∧ Fld Z h u0 "java/lang/String" "coder" "B" (.int cd) ∧ OwnArz Z h b .byte ln ∧ OwnLC (4 : Int32) ln cd
set_option maxRecDepth 65536 in
set_option maxHeartbeats 40000000 in
theorem rm3d (l : Launch) (Z : State) (a0 : Array Value) (hw : ∀ d ∈ tables_1, d.before a0 Z = true) (ws : List Jvm.Cond) (u0 : Addr) (u1 : Addr) (cS : Int32) (kx : ClassId) (x0 : Int32) (x1 : Int32) (x2 : Int32) (x3 : Int32) (h0 : Heap) (n0 : Nat) (O0 : Old Z n0 h0) (E_u0 : Exa Z h0 u0 "java/lang/String") (g_u0 : n0 ≤ u0) (F_value : Fld Z h0 u0 "java/lang/String" "value" "[B" .null) (F_coder : Fld Z h0 u0 "java/lang/String" "coder" "B" (.int (0 : Int32))) (S_cs : Sta Z Z.heap "java/lang/String" "COMPACT_STRINGS" "Z" (.int cS)) (hcS : ¬ (cS = (0 : Int32))) (S_as : Sta Z Z.heap "java/lang/StringUTF16" "$assertionsDisabled" "Z" (.int 1)) (S_hi : Sta Z Z.heap "java/lang/StringUTF16" "HI_BYTE_SHIFT" "I" (.int 0)) (S_lo : Sta Z Z.heap "java/lang/StringUTF16" "LO_BYTE_SHIFT" "I" (.int 8)) (Vc : Arv Z h0 u1 kx .char (4 : Int32) [(.int x0), (.int x1), (.int x2), (.int x3)] (.int 0)) (l0 : ¬ x0 < 0) (u0_ : ¬ (65535 : Int32) < x0) (l1 : ¬ x1 < 0) (u1_ : ¬ (65535 : Int32) < x1) (l2 : ¬ x2 < 0) (u2_ : ¬ (65535 : Int32) < x2) (l3 : ¬ x3 < 0) (u3_ : ¬ (65535 : Int32) < x3) :
    MetFree l (⟨"java/lang/String", "<init>", "([CIILjava/lang/Void;)V"⟩ : MethodName) (head1 (Jvm.Cond.code (⟨"java/lang/String", "<init>", "([CIILjava/lang/Void;)V"⟩ : MethodName) jdk_42_method_149_code 6 none :: ws) ({ frames := 4, cells := 2, slots := 12, locals := 60 } : Room)) (fun a U => a = #[(.ref u0), (.ref u1), (.int (0 : Int32)), (.int (4 : Int32)), .null] ∧ Z.Warmed39 U.vm ∧ U.heap = h0) (fun _ _ _ _ _ => True) (fun _ U o U' => ∃ v L, o = .returned v ∧ Q3d Z u0 u1 cS kx x0 x1 x2 x3 h0 n0 v U'.heap L ∧ FrameEnd U o U' L ({ frames := 4, cells := 2, slots := 12, locals := 60 } : Room).cells ({ frames := 4, cells := 2, slots := 12, locals := 60 } : Room).slots) := by
  refine MetFree.of_bodySF (plainFor_of_name own_pn_java_lang_String) hisR ?_
  intro p e s m args below meth c s₁ Bd hml0 hP hK
  obtain ⟨rfl, hZ, hh⟩ := hP
  have hx := Bd.exec
  have hby := Bd.bytes
  have hml : c.maxLocals = 6 := hml0
  have hown : s.vm.findClass "java/lang/String" = some m.cls := findClass_of_methodNamed Bd.named
  have hnm := (name_of_methodNamed Bd.named Bd.method).1
  have X0 : Stand p l e ({ frames := 4, cells := 2, slots := 12, locals := 60 } : Room) s m #[(.ref u0), (.ref u1), (.int (0 : Int32)), (.int (4 : Int32)), .null] below meth c s₁ [] 0 0 := Stand.of_body Bd
  have e0 : s₁.heap = h0 := by rw [← hh, Bd.state]; rfl
  have N0 := Fr.nil n0
  change Go p.tables e below _ _
  refine own_on (B := s₁.setTop (mkF m 0 #[rv u0, rv u1, iv (0 : Int32), iv (4 : Int32), .val .null, .unset] [])) (fun tz kz => castTop (own_ef_3d m u0 u1 (0 : Int32) (4 : Int32)) kz) ?_
  have n01 : u1 ≠ u0 := Ne.symm (Exa.neArv E_u0 Vc (own_w hw 7 rfl))
  refine own_on (B := s₁.setTop (mkF m 1 #[rv u0, rv u1, iv (0 : Int32), iv (4 : Int32), .val .null, .unset] [(.ref u0)])) (fun tz kz => ?_) ?_
  · show sT p e below s₁ (mkF m 0 #[rv u0, rv u1, iv (0 : Int32), iv (4 : Int32), .val .null, .unset] []) tz
    refine XS.aloadN X0.here hx rfl (hb hby own_d3_0) rfl rfl ?_
    exact kz
  obtain ⟨T1, X1, e1, st1⟩ := initO X0 hx hZ hown (own_w hw 17 rfl) (own_w hw 18 rfl) (own_w hw 19 rfl) e0 (g := (mkF m 1 #[rv u0, rv u1, iv (0 : Int32), iv (4 : Int32), .val .null, .unset] [(.ref u0)])) rfl (by rw [hml]; rfl) rfl (hb hby own_d3_1) (by decide) (W := 0) (by show 2 * 0 + _ ≤ _; exact Nat.le_of_eq rfl) (by decide)
  refine own_on (B := T1.setTop (mkF m 4 #[rv u0, rv u1, iv (0 : Int32), iv (4 : Int32), .val .null, .unset] [])) (fun tz kz => st1 _ kz) ?_
  refine own_on (B := T1.setTop (mkF m 27 #[rv u0, rv u1, iv (0 : Int32), iv (4 : Int32), .val .null, .unset] [])) (fun tz kz => ?_) ?_
  · show sT p e below T1 (mkF m 4 #[rv u0, rv u1, iv (0 : Int32), iv (4 : Int32), .val .null, .unset] []) tz
    refine XS.iloadN X1.here hx rfl (hb hby own_d3_4) rfl ?_
    show sT p e below T1 (mkF m 5 #[rv u0, rv u1, iv (0 : Int32), iv (4 : Int32), .val .null, .unset] [(.int (4 : Int32))]) tz
    refine XS.ifYes X1.here hx rfl (pc0 := 5) (pc' := 27) rfl (hb hby own_d3_5) rfl ((if0 _ _).trans (feq (by decide : ¬ ((4 : Int32) = (0 : Int32)))).2) (by decide) (by decide) ?_
    exact kz
  obtain ⟨T2, X2, e2, st2⟩ := getS2 X1 hx hZ hown (host := "") (Or.inl (own_w hw 90 rfl)) Via.refl e1 (S_cs.ext O0.2) (g := (mkF m 27 #[rv u0, rv u1, iv (0 : Int32), iv (4 : Int32), .val .null, .unset] [])) rfl (hb hby own_d3_27)
  refine own_on (B := T2.setTop (mkF m 30 #[rv u0, rv u1, iv (0 : Int32), iv (4 : Int32), .val .null, .unset] [(.int cS)])) (fun tz kz => st2 _ kz) ?_
  refine own_on (B := T2.setTop (mkF m 36 #[rv u0, rv u1, iv (0 : Int32), iv (4 : Int32), .val .null, .unset] [(.int (4 : Int32)), (.int (0 : Int32)), (.ref u1)])) (fun tz kz => ?_) ?_
  · show sT p e below T2 (mkF m 30 #[rv u0, rv u1, iv (0 : Int32), iv (4 : Int32), .val .null, .unset] [(.int cS)]) tz
    refine XS.ifNo X2.here hx rfl (hb hby own_d3_30) rfl ((if0 _ _).trans (feq hcS).1) ?_
    show sT p e below T2 (mkF m 33 #[rv u0, rv u1, iv (0 : Int32), iv (4 : Int32), .val .null, .unset] []) tz
    refine XS.aloadN X2.here hx rfl (hb hby own_d3_33) rfl rfl ?_
    show sT p e below T2 (mkF m 34 #[rv u0, rv u1, iv (0 : Int32), iv (4 : Int32), .val .null, .unset] [(.ref u1)]) tz
    refine XS.iloadN X2.here hx rfl (hb hby own_d3_34) rfl ?_
    show sT p e below T2 (mkF m 35 #[rv u0, rv u1, iv (0 : Int32), iv (4 : Int32), .val .null, .unset] [(.int (0 : Int32)), (.ref u1)]) tz
    refine XS.iloadN X2.here hx rfl (hb hby own_d3_35) rfl ?_
    exact kz
  obtain ⟨_, _, ⟨T3, L3, k3, n3⟩, -, X3, ⟨Lc3, hQ3, l3, y3, z3⟩, st3⟩ := Jvm.LawKit.callS X2 hx (y := (⟨"java/lang/StringUTF16", "compress", "([CII)[B"⟩ : MethodName)) hown (mvT hZ (own_w hw 102 rfl)) (mvT hZ (own_w hw 103 rfl)) (mvT hZ (own_w hw 104 rfl)) (mvT hZ (own_w hw 105 rfl)) (by decide) (backOf (W := 0) (rm18d l Z a0 hw [] u1 kx x0 x1 x2 x3 h0 n0 O0 S_as S_hi S_lo Vc l0 u0_ l1 u1_ l2 u2_ l3 u3_) hZ (own_w hw 105 rfl) (own_w hw 104 rfl) (by decide) (by decide)) (g := (mkF m 36 #[rv u0, rv u1, iv (0 : Int32), iv (4 : Int32), .val .null, .unset] [(.int (4 : Int32)), (.int (0 : Int32)), (.ref u1)])) rfl (by rw [hml]; rfl) (argsL := [(.ref u1), (.int (0 : Int32)), (.int (4 : Int32))]) (rest := []) (lenOf own_pd4 rfl) rfl (by show 2 * 0 + _ ≤ _; exact Nat.le_of_eq rfl) (hb hby own_d3_36) (fun _ _ => ⟨rfl, e2, (by decide : 0 + 2 ≤ _), (by decide : 0 + 12 ≤ _)⟩)
  dsimp only [Pt.U, Pt.locs, Pt.cells, Pt.slots] at X3 l3 y3 z3 st3 hQ3
  subst l3 y3 z3
  obtain ⟨d3, ln3, cd3, rfl, Nq3, Kq3, zq3, Vq3, LC3⟩ := hQ3
  have N3 := Fr.app N0 Nq3
  have ne_u0_d3 : u0 ≠ d3 := Nat.ne_of_lt (Nat.lt_of_lt_of_le (E_u0).lt zq3)
  have ne_u1_d3 : u1 ≠ d3 := Nat.ne_of_lt (Nat.lt_of_lt_of_le (Vc).lt zq3)
  have g_d3 : n0 ≤ d3 := Nat.le_trans (own_old O0) zq3
  have sz_d3 : h0.size ≤ d3 := Nat.le_trans (Keep.refl h0 [u0]).1 zq3
  have O4 := O0.keep Kq3 all0
  have K4 : Keep h0 T3.heap [u0] := (Keep.refl h0 [u0]).trans Kq3 all0
  refine own_on (B := T3.setTop (mkF m 39 #[rv u0, rv u1, iv (0 : Int32), iv (4 : Int32), .val .null, .unset] [(.ref d3)])) (fun tz kz => st3 _ kz) ?_
  refine own_on (B := T3.setTop (mkF m 45 #[rv u0, rv u1, iv (0 : Int32), iv (4 : Int32), .val .null, rv d3] [(.int (4 : Int32)), (.ref d3), (.ref u0)])) (fun tz kz => ?_) ?_
  · show sT p e below T3 (mkF m 39 #[rv u0, rv u1, iv (0 : Int32), iv (4 : Int32), .val .null, .unset] [(.ref d3)]) tz
    refine XS.astore X3.here hx rfl (hb hby own_d3_39) rfl rfl (l' := #[rv u0, rv u1, iv (0 : Int32), iv (4 : Int32), .val .null, rv d3]) rfl ?_
    show sT p e below T3 (mkF m 41 #[rv u0, rv u1, iv (0 : Int32), iv (4 : Int32), .val .null, rv d3] []) tz
    refine XS.aloadN X3.here hx rfl (hb hby own_d3_41) rfl rfl ?_
    show sT p e below T3 (mkF m 42 #[rv u0, rv u1, iv (0 : Int32), iv (4 : Int32), .val .null, rv d3] [(.ref u0)]) tz
    refine XS.aload X3.here hx rfl (hb hby own_d3_42) rfl rfl ?_
    show sT p e below T3 (mkF m 44 #[rv u0, rv u1, iv (0 : Int32), iv (4 : Int32), .val .null, rv d3] [(.ref d3), (.ref u0)]) tz
    refine XS.iloadN X3.here hx rfl (hb hby own_d3_44) rfl ?_
    exact kz
  obtain ⟨_, _, ⟨T5, L5, k5, n5⟩, -, X5, ⟨Lc5, hQ5, l5, y5, z5⟩, st5⟩ := Jvm.LawKit.callS X3 hx (y := (⟨"java/lang/StringUTF16", "coderFromArrayLen", "([BI)B"⟩ : MethodName)) hown (mvT hZ (own_w hw 109 rfl)) (mvT hZ (own_w hw 110 rfl)) (mvT hZ (own_w hw 104 rfl)) (mvT hZ (own_w hw 111 rfl)) (by decide) (backOf (W := 1) (rm20 l Z a0 hw [] d3 (4 : Int32) ln3 cd3 T3.heap n0 O4 Vq3 LC3 (by decide) (by decide)) hZ (own_w hw 111 rfl) (own_w hw 104 rfl) (by decide) (by decide)) (g := (mkF m 45 #[rv u0, rv u1, iv (0 : Int32), iv (4 : Int32), .val .null, rv d3] [(.int (4 : Int32)), (.ref d3), (.ref u0)])) rfl (by rw [hml]; rfl) (argsL := [(.ref d3), (.int (4 : Int32))]) (rest := [(.ref u0)]) (lenOf own_pd7 rfl) rfl (by show 2 * 0 + _ ≤ _; exact Nat.le_of_eq rfl) (hb hby own_d3_45) (fun _ _ => ⟨rfl, rfl, (by decide : 2 + 0 ≤ _), (by decide : 12 + 0 ≤ _)⟩)
  dsimp only [Pt.U, Pt.locs, Pt.cells, Pt.slots] at X5 l5 y5 z5 st5 hQ5
  subst l5 y5 z5
  obtain ⟨rfl, Nq5, e5⟩ := hQ5
  have N5 := Fr.app N3 Nq5
  refine own_on (B := T5.setTop (mkF m 48 #[rv u0, rv u1, iv (0 : Int32), iv (4 : Int32), .val .null, rv d3] [(.int cd3), (.ref u0)])) (fun tz kz => st5 _ kz) ?_
  have f_6 := (F_coder.keep Kq3 nin0)
  have f_7 := (E_u0.keep Kq3)
  obtain ⟨T8, h8, X8, e8, W8, st8⟩ := putFN X5 hx hZ hown (own_w hw 27 rfl) Via.refl e5 f_6 f_7 (Or.inr ⟨(own_w hw 23 rfl), rfl, hnm⟩) (own_w hw 7 rfl) (ty := .byte) (v' := (.int cd3)) (by decide) (own_cfn LC3) (own_cff LC3) (g := (mkF m 48 #[rv u0, rv u1, iv (0 : Int32), iv (4 : Int32), .val .null, rv d3] [(.int cd3), (.ref u0)])) rfl rfl (hb hby own_d3_48)
  have Fw8 := f_6.same W8
  have N8 := Fr.snoc X8 N5 g_u0
  have O9 := O4.wr W8 g_u0
  have K9 : Keep h0 h8 [u0] := K4.wr W8 (Or.inl (List.mem_of_getElem? (i := 0) rfl))
  refine own_on (B := T8.setTop (mkF m 51 #[rv u0, rv u1, iv (0 : Int32), iv (4 : Int32), .val .null, rv d3] [])) (fun tz kz => st8 _ kz) ?_
  refine own_on (B := T8.setTop (mkF m 54 #[rv u0, rv u1, iv (0 : Int32), iv (4 : Int32), .val .null, rv d3] [(.ref d3), (.ref u0)])) (fun tz kz => ?_) ?_
  · show sT p e below T8 (mkF m 51 #[rv u0, rv u1, iv (0 : Int32), iv (4 : Int32), .val .null, rv d3] []) tz
    refine XS.aloadN X8.here hx rfl (hb hby own_d3_51) rfl rfl ?_
    show sT p e below T8 (mkF m 52 #[rv u0, rv u1, iv (0 : Int32), iv (4 : Int32), .val .null, rv d3] [(.ref u0)]) tz
    refine XS.aload X8.here hx rfl (hb hby own_d3_52) rfl rfl ?_
    exact kz
  have f_10 := ((F_value.keep Kq3 nin0).other W8 (Or.inr (slot_ne (Or.inr (own_w hw 22 rfl)) (Or.inr (own_w hw 23 rfl)) (by decide) (t := (.array .byte)) (t' := .byte) (by decide) (by decide))))
  have f_11 := (f_7.wr W8)
  obtain ⟨T12, h12, X12, e12, W12, st12⟩ := putF X8 hx hZ hown (host := "") (Or.inl (own_w hw 26 rfl)) Via.refl e8 f_10 f_11 (Or.inr ⟨(own_w hw 22 rfl), rfl, hnm⟩) (own_w hw 7 rfl) (ty := (.array .byte)) (by decide) rfl rfl (g := (mkF m 54 #[rv u0, rv u1, iv (0 : Int32), iv (4 : Int32), .val .null, rv d3] [(.ref d3), (.ref u0)])) rfl rfl (hb hby own_d3_54)
  have Fw12 := f_10.same W12
  have N12 := Fr.snoc X12 N8 g_u0
  have O13 := O9.wr W12 g_u0
  have K13 : Keep h0 h12 [u0] := K9.wr W12 (Or.inl (List.mem_of_getElem? (i := 0) rfl))
  refine own_on (B := T12.setTop (mkF m 57 #[rv u0, rv u1, iv (0 : Int32), iv (4 : Int32), .val .null, rv d3] [])) (fun tz kz => st12 _ kz) ?_
  have f_14 := (Fw8.other W12 (Or.inr (slot_ne (Or.inr (own_w hw 23 rfl)) (Or.inr (own_w hw 22 rfl)) (by decide) (t := .byte) (t' := (.array .byte)) (by decide) (by decide))))
  have f_15 := ((Vq3.other W8 (Ne.symm ne_u0_d3)).other W12 (Ne.symm ne_u0_d3))
  obtain ⟨fs, hr, hrun, hended, hW, hsame⟩ := X12.leave (v := none) (fun _ => rfl)
  refine own_of ⟨_, _, ?_, hrun, hended, _, _, rfl, ?_, ⟨_, rfl⟩, hW, hsame.mono (by decide) (by decide)⟩
  · show sT p e below T12 (mkF m 57 #[rv u0, rv u1, iv (0 : Int32), iv (4 : Int32), .val .null, rv d3] []) _
    exact X12.returnOut hx Bd.returns (hb hby own_d3_57) hr
  · show Q3d Z u0 u1 cS kx x0 x1 x2 x3 h0 n0 _ T12.heap _
    rw [e12]
    exact ⟨d3, ln3, cd3, rfl, N12, K13, Fw12, f_14, f_15, LC3⟩
theorem own_ef_2d (m : MethodId) (x0 : Addr) (x1 : Addr) : entryFrame m #[(.ref x0), (.ref x1)] 2 = mkF m 0 #[rv x0, rv x1] [] := by first | (simp [entryFrame, mkF, argsToLocals, Value.category]; done) | rfl
def Q2d (Z : State) (u0 : Addr) (u1 : Addr) (cS : Int32) (kx : ClassId) (x0 : Int32) (x1 : Int32) (x2 : Int32) (x3 : Int32) (h0 : Heap) (n0 : Nat) (v : Option Value) (h : Heap) (L : List Loc) : Prop := ∃ (b : Addr) (ln cd : Int32), v = none ∧ Fr n0 L ∧ Keep h0 h [u0] ∧ Fld Z h u0 "java/lang/String" "value" "[B" (.ref b) ∧ Fld Z h u0 "java/lang/String" "coder" "B" (.int cd) ∧ OwnArz Z h b .byte ln ∧ OwnLC (4 : Int32) ln cd
set_option maxRecDepth 65536 in
set_option maxHeartbeats 40000000 in
theorem rm2d (l : Launch) (Z : State) (a0 : Array Value) (hw : ∀ d ∈ tables_1, d.before a0 Z = true) (ws : List Jvm.Cond) (u0 : Addr) (u1 : Addr) (cS : Int32) (kx : ClassId) (x0 : Int32) (x1 : Int32) (x2 : Int32) (x3 : Int32) (h0 : Heap) (n0 : Nat) (O0 : Old Z n0 h0) (E_u0 : Exa Z h0 u0 "java/lang/String") (g_u0 : n0 ≤ u0) (F_value : Fld Z h0 u0 "java/lang/String" "value" "[B" .null) (F_coder : Fld Z h0 u0 "java/lang/String" "coder" "B" (.int (0 : Int32))) (S_cs : Sta Z Z.heap "java/lang/String" "COMPACT_STRINGS" "Z" (.int cS)) (hcS : ¬ (cS = (0 : Int32))) (S_as : Sta Z Z.heap "java/lang/StringUTF16" "$assertionsDisabled" "Z" (.int 1)) (S_hi : Sta Z Z.heap "java/lang/StringUTF16" "HI_BYTE_SHIFT" "I" (.int 0)) (S_lo : Sta Z Z.heap "java/lang/StringUTF16" "LO_BYTE_SHIFT" "I" (.int 8)) (Vc : Arv Z h0 u1 kx .char (4 : Int32) [(.int x0), (.int x1), (.int x2), (.int x3)] (.int 0)) (l0 : ¬ x0 < 0) (u0_ : ¬ (65535 : Int32) < x0) (l1 : ¬ x1 < 0) (u1_ : ¬ (65535 : Int32) < x1) (l2 : ¬ x2 < 0) (u2_ : ¬ (65535 : Int32) < x2) (l3 : ¬ x3 < 0) (u3_ : ¬ (65535 : Int32) < x3) :
    MetFree l (⟨"java/lang/String", "<init>", "([C)V"⟩ : MethodName) (head1 (Jvm.Cond.code (⟨"java/lang/String", "<init>", "([C)V"⟩ : MethodName) jdk_42_method_3_code 2 none :: ws) ({ frames := 5, cells := 2, slots := 12, locals := 80 } : Room)) (fun a U => a = #[(.ref u0), (.ref u1)] ∧ Z.Warmed39 U.vm ∧ U.heap = h0) (fun _ _ _ _ _ => True) (fun _ U o U' => ∃ v L, o = .returned v ∧ Q2d Z u0 u1 cS kx x0 x1 x2 x3 h0 n0 v U'.heap L ∧ FrameEnd U o U' L ({ frames := 5, cells := 2, slots := 12, locals := 80 } : Room).cells ({ frames := 5, cells := 2, slots := 12, locals := 80 } : Room).slots) := by
  refine MetFree.of_bodySF (plainFor_of_name own_pn_java_lang_String) hisR ?_
  intro p e s m args below meth c s₁ Bd hml0 hP hK
  obtain ⟨rfl, hZ, hh⟩ := hP
  have hx := Bd.exec
  have hby := Bd.bytes
  have hml : c.maxLocals = 2 := hml0
  have hown : s.vm.findClass "java/lang/String" = some m.cls := findClass_of_methodNamed Bd.named
  have hnm := (name_of_methodNamed Bd.named Bd.method).1
  have X0 : Stand p l e ({ frames := 5, cells := 2, slots := 12, locals := 80 } : Room) s m #[(.ref u0), (.ref u1)] below meth c s₁ [] 0 0 := Stand.of_body Bd
  have e0 : s₁.heap = h0 := by rw [← hh, Bd.state]; rfl
  have N0 := Fr.nil n0
  change Go p.tables e below _ _
  refine own_on (B := s₁.setTop (mkF m 0 #[rv u0, rv u1] [])) (fun tz kz => castTop (own_ef_2d m u0 u1) kz) ?_
  refine own_on (B := s₁.setTop (mkF m 4 #[rv u0, rv u1] [(.ref u1), (.int (0 : Int32)), (.ref u1), (.ref u0)])) (fun tz kz => ?_) ?_
  · show sT p e below s₁ (mkF m 0 #[rv u0, rv u1] []) tz
    refine XS.aloadN X0.here hx rfl (hb hby own_d2_0) rfl rfl ?_
    show sT p e below s₁ (mkF m 1 #[rv u0, rv u1] [(.ref u0)]) tz
    refine XS.aloadN X0.here hx rfl (hb hby own_d2_1) rfl rfl ?_
    show sT p e below s₁ (mkF m 2 #[rv u0, rv u1] [(.ref u1), (.ref u0)]) tz
    refine XS.iconst X0.here hx rfl (hb hby own_d2_2) ?_
    show sT p e below s₁ (mkF m 3 #[rv u0, rv u1] [(.int (0 : Int32)), (.ref u1), (.ref u0)]) tz
    refine XS.aloadN X0.here hx rfl (hb hby own_d2_3) rfl rfl ?_
    exact kz
  obtain ⟨cl1, Ar1, q1, S1, M1, H1, G1⟩ := id Vc
  refine own_on (B := s₁.setTop (mkF m 6 #[rv u0, rv u1] [.null, (.int (4 : Int32)), (.int (0 : Int32)), (.ref u1), (.ref u0)])) (fun tz kz => ?_) ?_
  · show sT p e below s₁ (mkF m 4 #[rv u0, rv u1] [(.ref u1), (.int (0 : Int32)), (.ref u1), (.ref u0)]) tz
    refine X0.arraylength hx (by rw [e0]; exact Ar1.1) (State.isArrayOf_alike hZ.alike Ar1.2.1) (g := (mkF m 4 #[rv u0, rv u1] [(.ref u1), (.int (0 : Int32)), (.ref u1), (.ref u0)])) rfl rfl (hb hby own_d2_4) _ ?_
    rw [len_of S1 M1]
    show sT p e below s₁ (mkF m 5 #[rv u0, rv u1] [(.int (4 : Int32)), (.int (0 : Int32)), (.ref u1), (.ref u0)]) tz
    refine XS.aconstNull X0.here hx rfl (hb hby own_d2_5) ?_
    exact kz
  obtain ⟨_, _, ⟨T2, L2, k2, n2⟩, -, X2, ⟨Lc2, hQ2, l2, y2, z2⟩, st2⟩ := X0.specialBack hx (y := (⟨"java/lang/String", "<init>", "([CIILjava/lang/Void;)V"⟩ : MethodName)) rfl hown (mvT hZ (own_w hw 13 rfl)) (mvT hZ (own_w hw 14 rfl)) (mvT hZ (own_w hw 16 rfl)) (by decide) (backOf (W := 0) (rm3d l Z a0 hw [] u0 u1 cS kx x0 x1 x2 x3 h0 n0 O0 E_u0 g_u0 F_value F_coder S_cs hcS S_as S_hi S_lo Vc l0 u0_ l1 u1_ l2 u2_ l3 u3_) hZ (own_w hw 16 rfl) (own_w hw 8 rfl) (by decide) (by decide)) (g := (mkF m 6 #[rv u0, rv u1] [.null, (.int (4 : Int32)), (.int (0 : Int32)), (.ref u1), (.ref u0)])) rfl (by rw [hml]; rfl) (Steps.refl _) (a := u0) (argsL := [(.ref u1), (.int (0 : Int32)), (.int (4 : Int32)), .null]) (rest := []) (lenOf own_pd6 rfl) rfl (by show 2 * 0 + _ ≤ _; exact Nat.le_of_eq rfl) (hb hby own_d2_6) (fun _ _ => ⟨rfl, e0, (by decide : 0 + 2 ≤ _), (by decide : 0 + 12 ≤ _)⟩)
  dsimp only [Pt.U, Pt.locs, Pt.cells, Pt.slots] at X2 l2 y2 z2 st2 hQ2
  subst l2 y2 z2
  obtain ⟨b2, ln2, cd2, rfl, Nq2, Kq2, Fv2, Fc2, Vb2, LC2⟩ := hQ2
  have N2 := Fr.app N0 Nq2
  have O3 := O0.keep Kq2 (allS g_u0 all0)
  have K3 : Keep h0 T2.heap [u0] := (Keep.refl h0 [u0]).trans Kq2 (allS (Or.inl (List.mem_of_getElem? (i := 0) rfl)) all0)
  refine own_on (B := T2.setTop (mkF m 9 #[rv u0, rv u1] [])) (fun tz kz => st2.trans kz) ?_
  obtain ⟨fs, hr, hrun, hended, hW, hsame⟩ := X2.leave (v := none) (fun _ => rfl)
  refine own_of ⟨_, _, ?_, hrun, hended, _, _, rfl, ?_, ⟨_, rfl⟩, hW, hsame.mono (by decide) (by decide)⟩
  · show sT p e below T2 (mkF m 9 #[rv u0, rv u1] []) _
    exact X2.returnOut hx Bd.returns (hb hby own_d2_9) hr
  · show Q2d Z u0 u1 cS kx x0 x1 x2 x3 h0 n0 _ T2.heap _
    exact ⟨b2, ln2, cd2, rfl, N2, K3, Fv2, Fc2, Vb2, LC2⟩
theorem own_pn_com_example_firm_gate_firmgate_TokenDecisionAcceptPinLaw : plainName "com/example/firm_gate/firmgate/TokenDecisionAcceptPinLaw" = true := by first | (simp [plainName, overriddenIn]; done) | decide +kernel
theorem own_ef_1z (m : MethodId) (x0 : Int32) (x1 : Int32) (x2 : Int32) (x3 : Int32) (x4 : Int32) : entryFrame m #[(.int x0), (.int x1), (.int x2), (.int x3), (.int x4)] 6 = mkF m 0 #[iv x0, iv x1, iv x2, iv x3, iv x4, .unset] [] := by first | (simp [entryFrame, mkF, argsToLocals, Value.category]; done) | rfl
def Q1z (Z : State) (p1 : Int32) (p2 : Int32) (p3 : Int32) (p4 : Int32) (cS : Int32) (h0 : Heap) (n0 : Nat) (v : Option Value) (h : Heap) (L : List Loc) : Prop := ∃ (d b : Addr) (ln cd : Int32), v = some (.ref d) ∧ Fr n0 L ∧ Keep h0 h [] ∧ h0.size ≤ d ∧ Exa Z h d "java/lang/String" ∧ Fld Z h d "java/lang/String" "value" "[B" (.ref b) ∧ Fld Z h d "java/lang/String" "coder" "B" (.int cd) ∧ OwnArz Z h b .byte ln ∧ OwnLC (0 : Int32) ln cd
theorem own_d1_0 : decode method_2_code 0 = .ok (.iload_n 0, 1) := by decide +kernel
theorem own_d1_1 : decode method_2_code 1 = .ok (.ifCond .ne 14, 3) := by decide +kernel
theorem own_d1_4 : decode method_2_code 4 = .ok (.new 7, 3) := by decide +kernel
theorem own_d1_7 : decode method_2_code 7 = .ok (.dup, 1) := by decide +kernel
theorem own_d1_8 : decode method_2_code 8 = .ok (.iconst 0, 1) := by decide +kernel
theorem own_d1_9 : decode method_2_code 9 = .ok (.newarray .char, 2) := by decide +kernel
theorem own_pd8 : parseMethodDescriptor "([C)V" = some ⟨[(.array .char)], none⟩ := by decide +kernel
theorem own_d1_11 : decode method_2_code 11 = .ok (.invokespecial 9, 3) := by decide +kernel
theorem own_d1_14 : decode method_2_code 14 = .ok (.areturn, 1) := by decide +kernel
set_option maxRecDepth 65536 in
set_option maxHeartbeats 40000000 in
theorem rm1z (l : Launch) (Z : State) (a0 : Array Value) (hw : ∀ d ∈ tables_1, d.before a0 Z = true) (ws : List Jvm.Cond) (p1 : Int32) (p2 : Int32) (p3 : Int32) (p4 : Int32) (cS : Int32) (h0 : Heap) (n0 : Nat) (O0 : Old Z n0 h0) (S_cs : Sta Z Z.heap "java/lang/String" "COMPACT_STRINGS" "Z" (.int cS)) (hcS : ¬ (cS = (0 : Int32))) (S_as : Sta Z Z.heap "java/lang/StringUTF16" "$assertionsDisabled" "Z" (.int 1)) (S_hi : Sta Z Z.heap "java/lang/StringUTF16" "HI_BYTE_SHIFT" "I" (.int 0)) (S_lo : Sta Z Z.heap "java/lang/StringUTF16" "LO_BYTE_SHIFT" "I" (.int 8)) (hheld : Jvm.Lit.constHeld Z "java/lang/String" 7) (hcw : Jvm.Lit.compactW.before a0 Z = true) :
    MetFree l (⟨"com/example/firm_gate/firmgate/TokenDecisionAcceptPinLaw", "make", "(ICCCC)Ljava/lang/String;"⟩ : MethodName) (head1 (Jvm.Cond.code (⟨"com/example/firm_gate/firmgate/TokenDecisionAcceptPinLaw", "make", "(ICCCC)Ljava/lang/String;"⟩ : MethodName) method_2_code 6 (some (.object "java/lang/String")) :: ws) ({ frames := 6, cells := 4, slots := 8, locals := 96 } : Room)) (fun a U => a = #[(.int (0 : Int32)), (.int p1), (.int p2), (.int p3), (.int p4)] ∧ Z.Warmed39 U.vm ∧ U.heap = h0 ∧ U.vm.interned = Z.vm.interned) (fun _ _ _ _ _ => True) (fun _ U o U' => ∃ v L, o = .returned v ∧ Q1z Z p1 p2 p3 p4 cS h0 n0 v U'.heap L ∧ ReturnedEndW U o U' L ({ frames := 6, cells := 4, slots := 8, locals := 96 } : Room).cells ({ frames := 6, cells := 4, slots := 8, locals := 96 } : Room).slots) := by
  refine MetFree.of_bodySF (plainFor_of_name own_pn_com_example_firm_gate_firmgate_TokenDecisionAcceptPinLaw) hisR ?_
  intro p e s m args below meth c s₁ Bd hml0 hP hK
  obtain ⟨rfl, hZ, hh, hI⟩ := hP
  have hx := Bd.exec
  have hby := Bd.bytes
  have hml : c.maxLocals = 6 := hml0
  have hown : s.vm.findClass "com/example/firm_gate/firmgate/TokenDecisionAcceptPinLaw" = some m.cls := findClass_of_methodNamed Bd.named
  have hnm := (name_of_methodNamed Bd.named Bd.method).1
  have X0 : Stand p l e ({ frames := 6, cells := 4, slots := 8, locals := 96 } : Room) s m #[(.int (0 : Int32)), (.int p1), (.int p2), (.int p3), (.int p4)] below meth c s₁ [] 0 0 := Stand.of_body Bd
  have e0 : s₁.heap = h0 := by rw [← hh, Bd.state]; rfl
  have N0 := Fr.nil n0
  change Go p.tables e below _ _
  refine own_on (B := s₁.setTop (mkF m 0 #[iv (0 : Int32), iv p1, iv p2, iv p3, iv p4, .unset] [])) (fun tz kz => castTop (own_ef_1z m (0 : Int32) p1 p2 p3 p4) kz) ?_
  refine own_on (B := s₁.setTop (mkF m 4 #[iv (0 : Int32), iv p1, iv p2, iv p3, iv p4, .unset] [])) (fun tz kz => ?_) ?_
  · show sT p e below s₁ (mkF m 0 #[iv (0 : Int32), iv p1, iv p2, iv p3, iv p4, .unset] []) tz
    refine XS.iloadN X0.here hx rfl (hb hby own_d1_0) rfl ?_
    show sT p e below s₁ (mkF m 1 #[iv (0 : Int32), iv p1, iv p2, iv p3, iv p4, .unset] [(.int (0 : Int32))]) tz
    refine XS.ifNo X0.here hx rfl (hb hby own_d1_1) rfl ((if0 _ _).trans (teq rfl).2) ?_
    exact kz
  obtain ⟨T1, h1, X1, e1, E1, A1, D1, -, st1⟩ := newO X0 hx hZ hown (own_w hw 6 rfl) (own_w hw 7 rfl) (own_w hw 8 rfl) e0 (g := (mkF m 4 #[iv (0 : Int32), iv p1, iv p2, iv p3, iv p4, .unset] [])) rfl (hb hby own_d1_4) (by decide) (by decide)
  obtain ⟨b1, g1⟩ : ∃ z, z = h0.size := ⟨_, rfl⟩
  rw [← g1] at A1 D1 st1
  have g_b1 : n0 ≤ b1 := Nat.le_trans (own_old O0) (Nat.le_of_eq g1.symm)
  have sz_b1 : h0.size ≤ b1 := Nat.le_trans (Keep.refl h0 []).1 (Nat.le_of_eq g1.symm)
  have O2 := O0.ext E1
  have K2 : Keep h0 h1 [] := (Keep.refl h0 []).ext E1
  have F1_value : Fld Z h1 b1 "java/lang/String" "value" "[B" .null := D1 (Or.inr (own_w hw 22 rfl)) (ty := (.array .byte)) (by decide)
  have F1_coder : Fld Z h1 b1 "java/lang/String" "coder" "B" (.int (0 : Int32)) := D1 (Or.inr (own_w hw 23 rfl)) (ty := .byte) (by decide)
  refine own_on (B := T1.setTop (mkF m 7 #[iv (0 : Int32), iv p1, iv p2, iv p3, iv p4, .unset] [(.ref b1)])) (fun tz kz => st1 _ kz) ?_
  refine own_on (B := T1.setTop (mkF m 9 #[iv (0 : Int32), iv p1, iv p2, iv p3, iv p4, .unset] [(.int (0 : Int32)), (.ref b1), (.ref b1)])) (fun tz kz => ?_) ?_
  · show sT p e below T1 (mkF m 7 #[iv (0 : Int32), iv p1, iv p2, iv p3, iv p4, .unset] [(.ref b1)]) tz
    refine XS.dup X1.here hx rfl (hb hby own_d1_7) rfl rfl ?_
    show sT p e below T1 (mkF m 8 #[iv (0 : Int32), iv p1, iv p2, iv p3, iv p4, .unset] [(.ref b1), (.ref b1)]) tz
    refine XS.iconst X1.here hx rfl (hb hby own_d1_8) ?_
    exact kz
  obtain ⟨T3, h3, k3, X3, e3, E3, A3, st3⟩ := newP X1 hx hZ (own_w hw 9 rfl) e1 (g := (mkF m 9 #[iv (0 : Int32), iv p1, iv p2, iv p3, iv p4, .unset] [(.int (0 : Int32)), (.ref b1), (.ref b1)])) rfl (hb hby own_d1_9) rfl (by decide) (cap := 0) (by decide) (by decide) (by decide) (by decide)
  obtain ⟨b3, g3⟩ : ∃ z, z = h1.size := ⟨_, rfl⟩
  rw [← g3] at A3 st3
  have ne_b1_b3 : b1 ≠ b3 := Nat.ne_of_lt (Nat.lt_of_lt_of_le (A1).lt (Nat.le_of_eq g3.symm))
  have g_b3 : n0 ≤ b3 := Nat.le_trans (own_old O2) (Nat.le_of_eq g3.symm)
  have sz_b3 : h0.size ≤ b3 := Nat.le_trans K2.1 (Nat.le_of_eq g3.symm)
  have O4 := O2.ext E3
  have K4 : Keep h0 h3 [] := K2.ext E3
  have V3 : Arv Z h3 b3 k3 .char (0 : Int32) [] (.int (0 : Int32)) := (Arv.new A3 (by decide)).pad (pad_rep [] (.int (0 : Int32)) 0)
  refine own_on (B := T3.setTop (mkF m 11 #[iv (0 : Int32), iv p1, iv p2, iv p3, iv p4, .unset] [(.ref b3), (.ref b1), (.ref b1)])) (fun tz kz => st3 _ kz) ?_
  have V5 := OwnArz.of V3
  have f_6 := (A1.ext E3)
  have f_7 := (F1_value.ext E3)
  have f_8 := (F1_coder.ext E3)
  obtain ⟨_, _, ⟨T9, L9, k9, n9⟩, -, X9, hSc9, hgr9, ⟨Lc9, hQ9, l9, y9, z9⟩, st9⟩ := X3.specialBackS hx (y := (⟨"java/lang/String", "<init>", "([C)V"⟩ : MethodName)) rfl hown (mvT hZ (own_w hw 10 rfl)) (mvT hZ (own_w hw 11 rfl)) (mvT hZ (own_w hw 12 rfl)) (by decide) (own_backI (hI := hI) (W := 1) (rm2z l Z a0 hw [] b1 b3  h3 n0 O4 f_6 g_b1 f_7 f_8 hheld hcw V5) hZ (own_w hw 12 rfl) (own_w hw 8 rfl) (by decide) (by decide)) (g := (mkF m 11 #[iv (0 : Int32), iv p1, iv p2, iv p3, iv p4, .unset] [(.ref b3), (.ref b1), (.ref b1)])) rfl (by rw [hml]; rfl) (Steps.refl _) (a := b1) (argsL := [(.ref b3)]) (rest := [(.ref b1)]) (lenOf own_pd8 rfl) rfl (by show 2 * 0 + _ ≤ _; exact Nat.le_of_eq rfl) (hb hby own_d1_11) (fun _ _ => ⟨rfl, e3, (by decide : 2 + 2 ≤ _), (by decide : 4 + 4 ≤ _)⟩)
  dsimp only [Pt.U, Pt.locs, Pt.cells, Pt.slots] at X9 l9 y9 z9 st9 hQ9 hSc9 hgr9
  subst l9 y9 z9
  have hS10 : s.Since s.vm 0 := State.WarmedH.since (State.WarmedH.refl s) 0
  obtain ⟨X9, hS9, hZ, hown⟩ := rebS hS10 (by rw [e3]; exact (Nat.zero_le _)) X9 hSc9 hgr9 hZ hown
  obtain ⟨b9, ln9, cd9, rfl, Nq9, Kq9, Fv9, Fc9, Vb9, LC9⟩ := hQ9
  have N9 := Fr.app N0 Nq9
  have O11 := O4.keep Kq9 (allS g_b1 all0)
  have K11 : Keep h0 T9.heap [] := K4.trans Kq9 (allS (Or.inr sz_b1) all0)
  refine own_on (B := T9.setTop (mkF m 14 #[iv (0 : Int32), iv p1, iv p2, iv p3, iv p4, .unset] [(.ref b1)])) (fun tz kz => st9.trans kz) ?_
  have f_12 := (f_6.keep Kq9)
  obtain ⟨fs, hr, hrun, hended, hRW⟩ := Jvm.Stand.leaveW X9 hS9 ((Nat.le_refl T9.heap.size)) (v := some (.ref b1)) (fun h => by rw [Bd.returns] at h; cases h)
  refine own_of ⟨_, _, ?_, hrun, hended, _, _, rfl, ?_, hRW.1, hRW.2.1, hRW.2.2.1, hRW.2.2.2.mono (by decide) (by decide)⟩
  · show sT p e below T9 (mkF m 14 #[iv (0 : Int32), iv p1, iv p2, iv p3, iv p4, .unset] [(.ref b1)]) _
    exact own_retV X9 hx Bd.returns rfl rfl (hb hby own_d1_14) hr
  · show Q1z Z p1 p2 p3 p4 cS h0 n0 _ T9.heap _
    exact ⟨b1, b9, ln9, cd9, rfl, N9, K11, sz_b1, f_12, Fv9, Fc9, Vb9, LC9⟩
theorem own_ef_1a (m : MethodId) (x0 : Int32) (x1 : Int32) (x2 : Int32) (x3 : Int32) (x4 : Int32) : entryFrame m #[(.int x0), (.int x1), (.int x2), (.int x3), (.int x4)] 6 = mkF m 0 #[iv x0, iv x1, iv x2, iv x3, iv x4, .unset] [] := by first | (simp [entryFrame, mkF, argsToLocals, Value.category]; done) | rfl
def Q1a (Z : State) (p1 : Int32) (p2 : Int32) (p3 : Int32) (p4 : Int32) (cS : Int32) (h0 : Heap) (n0 : Nat) (v : Option Value) (h : Heap) (L : List Loc) : Prop := ∃ (d b : Addr) (ln cd : Int32), v = some (.ref d) ∧ Fr n0 L ∧ Keep h0 h [] ∧ h0.size ≤ d ∧ Exa Z h d "java/lang/String" ∧ Fld Z h d "java/lang/String" "value" "[B" (.ref b) ∧ Fld Z h d "java/lang/String" "coder" "B" (.int cd) ∧ OwnArz Z h b .byte ln ∧ OwnLC (1 : Int32) ln cd
theorem own_d1_15 : decode method_2_code 15 = .ok (.iload_n 0, 1) := by decide +kernel
theorem own_d1_16 : decode method_2_code 16 = .ok (.iconst 1, 1) := by decide +kernel
theorem own_d1_17 : decode method_2_code 17 = .ok (.if_icmp .ne 23, 3) := by decide +kernel
theorem own_d1_20 : decode method_2_code 20 = .ok (.iconst 1, 1) := by decide +kernel
theorem own_d1_21 : decode method_2_code 21 = .ok (.newarray .char, 2) := by decide +kernel
theorem own_d1_23 : decode method_2_code 23 = .ok (.astore 5, 2) := by decide +kernel
theorem own_d1_25 : decode method_2_code 25 = .ok (.aload 5, 2) := by decide +kernel
theorem own_d1_27 : decode method_2_code 27 = .ok (.iconst 0, 1) := by decide +kernel
theorem own_d1_28 : decode method_2_code 28 = .ok (.iload_n 1, 1) := by decide +kernel
theorem own_d1_29 : decode method_2_code 29 = .ok (.castore, 1) := by decide +kernel
theorem own_d1_30 : decode method_2_code 30 = .ok (.new 7, 3) := by decide +kernel
theorem own_d1_33 : decode method_2_code 33 = .ok (.dup, 1) := by decide +kernel
theorem own_d1_34 : decode method_2_code 34 = .ok (.aload 5, 2) := by decide +kernel
theorem own_d1_36 : decode method_2_code 36 = .ok (.invokespecial 9, 3) := by decide +kernel
theorem own_d1_39 : decode method_2_code 39 = .ok (.areturn, 1) := by decide +kernel
set_option maxRecDepth 65536 in
set_option maxHeartbeats 40000000 in
theorem rm1a (l : Launch) (Z : State) (a0 : Array Value) (hw : ∀ d ∈ tables_1, d.before a0 Z = true) (ws : List Jvm.Cond) (p1 : Int32) (p2 : Int32) (p3 : Int32) (p4 : Int32) (cS : Int32) (h0 : Heap) (n0 : Nat) (O0 : Old Z n0 h0) (S_cs : Sta Z Z.heap "java/lang/String" "COMPACT_STRINGS" "Z" (.int cS)) (hcS : ¬ (cS = (0 : Int32))) (S_as : Sta Z Z.heap "java/lang/StringUTF16" "$assertionsDisabled" "Z" (.int 1)) (S_hi : Sta Z Z.heap "java/lang/StringUTF16" "HI_BYTE_SHIFT" "I" (.int 0)) (S_lo : Sta Z Z.heap "java/lang/StringUTF16" "LO_BYTE_SHIFT" "I" (.int 8)) (hheld : Jvm.Lit.constHeld Z "java/lang/String" 7) (hcw : Jvm.Lit.compactW.before a0 Z = true) :
    MetFree l (⟨"com/example/firm_gate/firmgate/TokenDecisionAcceptPinLaw", "make", "(ICCCC)Ljava/lang/String;"⟩ : MethodName) (head1 (Jvm.Cond.code (⟨"com/example/firm_gate/firmgate/TokenDecisionAcceptPinLaw", "make", "(ICCCC)Ljava/lang/String;"⟩ : MethodName) method_2_code 6 (some (.object "java/lang/String")) :: ws) ({ frames := 6, cells := 4, slots := 8, locals := 96 } : Room)) (fun a U => a = #[(.int (1 : Int32)), (.int p1), (.int p2), (.int p3), (.int p4)] ∧ Z.Warmed39 U.vm ∧ U.heap = h0) (fun _ _ _ _ _ => True) (fun _ U o U' => ∃ v L, o = .returned v ∧ Q1a Z p1 p2 p3 p4 cS h0 n0 v U'.heap L ∧ FrameEnd U o U' L ({ frames := 6, cells := 4, slots := 8, locals := 96 } : Room).cells ({ frames := 6, cells := 4, slots := 8, locals := 96 } : Room).slots) := by
  refine MetFree.of_bodySF (plainFor_of_name own_pn_com_example_firm_gate_firmgate_TokenDecisionAcceptPinLaw) hisR ?_
  intro p e s m args below meth c s₁ Bd hml0 hP hK
  obtain ⟨rfl, hZ, hh⟩ := hP
  have hx := Bd.exec
  have hby := Bd.bytes
  have hml : c.maxLocals = 6 := hml0
  have hown : s.vm.findClass "com/example/firm_gate/firmgate/TokenDecisionAcceptPinLaw" = some m.cls := findClass_of_methodNamed Bd.named
  have hnm := (name_of_methodNamed Bd.named Bd.method).1
  have X0 : Stand p l e ({ frames := 6, cells := 4, slots := 8, locals := 96 } : Room) s m #[(.int (1 : Int32)), (.int p1), (.int p2), (.int p3), (.int p4)] below meth c s₁ [] 0 0 := Stand.of_body Bd
  have e0 : s₁.heap = h0 := by rw [← hh, Bd.state]; rfl
  have N0 := Fr.nil n0
  change Go p.tables e below _ _
  refine own_on (B := s₁.setTop (mkF m 0 #[iv (1 : Int32), iv p1, iv p2, iv p3, iv p4, .unset] [])) (fun tz kz => castTop (own_ef_1a m (1 : Int32) p1 p2 p3 p4) kz) ?_
  refine own_on (B := s₁.setTop (mkF m 21 #[iv (1 : Int32), iv p1, iv p2, iv p3, iv p4, .unset] [(.int (1 : Int32))])) (fun tz kz => ?_) ?_
  · show sT p e below s₁ (mkF m 0 #[iv (1 : Int32), iv p1, iv p2, iv p3, iv p4, .unset] []) tz
    refine XS.iloadN X0.here hx rfl (hb hby own_d1_0) rfl ?_
    show sT p e below s₁ (mkF m 1 #[iv (1 : Int32), iv p1, iv p2, iv p3, iv p4, .unset] [(.int (1 : Int32))]) tz
    refine XS.ifYes X0.here hx rfl (pc0 := 1) (pc' := 15) rfl (hb hby own_d1_1) rfl ((if0 _ _).trans (feq (by decide : ¬ ((1 : Int32) = (0 : Int32)))).2) (by decide) (by decide) ?_
    show sT p e below s₁ (mkF m 15 #[iv (1 : Int32), iv p1, iv p2, iv p3, iv p4, .unset] []) tz
    refine XS.iloadN X0.here hx rfl (hb hby own_d1_15) rfl ?_
    show sT p e below s₁ (mkF m 16 #[iv (1 : Int32), iv p1, iv p2, iv p3, iv p4, .unset] [(.int (1 : Int32))]) tz
    refine XS.iconst X0.here hx rfl (hb hby own_d1_16) ?_
    show sT p e below s₁ (mkF m 17 #[iv (1 : Int32), iv p1, iv p2, iv p3, iv p4, .unset] [(.int (1 : Int32)), (.int (1 : Int32))]) tz
    refine XS.icmpNo X0.here hx rfl (hb hby own_d1_17) rfl (teq rfl).2 ?_
    show sT p e below s₁ (mkF m 20 #[iv (1 : Int32), iv p1, iv p2, iv p3, iv p4, .unset] []) tz
    refine XS.iconst X0.here hx rfl (hb hby own_d1_20) ?_
    exact kz
  obtain ⟨T1, h1, k1, X1, e1, E1, A1, st1⟩ := newP X0 hx hZ (own_w hw 9 rfl) e0 (g := (mkF m 21 #[iv (1 : Int32), iv p1, iv p2, iv p3, iv p4, .unset] [(.int (1 : Int32))])) rfl (hb hby own_d1_21) rfl (by decide) (cap := 1) (by decide) (by decide) (by decide) (by decide)
  obtain ⟨b1, g1⟩ : ∃ z, z = h0.size := ⟨_, rfl⟩
  rw [← g1] at A1 st1
  have g_b1 : n0 ≤ b1 := Nat.le_trans (own_old O0) (Nat.le_of_eq g1.symm)
  have sz_b1 : h0.size ≤ b1 := Nat.le_trans (Keep.refl h0 []).1 (Nat.le_of_eq g1.symm)
  have O2 := O0.ext E1
  have K2 : Keep h0 h1 [] := (Keep.refl h0 []).ext E1
  have V1 : Arv Z h1 b1 k1 .char (1 : Int32) [(.int (0 : Int32))] (.int (0 : Int32)) := (Arv.new A1 (by decide)).pad (pad_rep [] (.int (0 : Int32)) 1)
  refine own_on (B := T1.setTop (mkF m 23 #[iv (1 : Int32), iv p1, iv p2, iv p3, iv p4, .unset] [(.ref b1)])) (fun tz kz => st1 _ kz) ?_
  refine own_on (B := T1.setTop (mkF m 29 #[iv (1 : Int32), iv p1, iv p2, iv p3, iv p4, rv b1] [(.int p1), (.int (0 : Int32)), (.ref b1)])) (fun tz kz => ?_) ?_
  · show sT p e below T1 (mkF m 23 #[iv (1 : Int32), iv p1, iv p2, iv p3, iv p4, .unset] [(.ref b1)]) tz
    refine XS.astore X1.here hx rfl (hb hby own_d1_23) rfl rfl (l' := #[iv (1 : Int32), iv p1, iv p2, iv p3, iv p4, rv b1]) rfl ?_
    show sT p e below T1 (mkF m 25 #[iv (1 : Int32), iv p1, iv p2, iv p3, iv p4, rv b1] []) tz
    refine XS.aload X1.here hx rfl (hb hby own_d1_25) rfl rfl ?_
    show sT p e below T1 (mkF m 27 #[iv (1 : Int32), iv p1, iv p2, iv p3, iv p4, rv b1] [(.ref b1)]) tz
    refine XS.iconst X1.here hx rfl (hb hby own_d1_27) ?_
    show sT p e below T1 (mkF m 28 #[iv (1 : Int32), iv p1, iv p2, iv p3, iv p4, rv b1] [(.int (0 : Int32)), (.ref b1)]) tz
    refine XS.iloadN X1.here hx rfl (hb hby own_d1_28) rfl ?_
    exact kz
  obtain ⟨cl3, Ar3, q3, S3, M3, H3, G3⟩ := id V1
  have hin4 : ¬ ((0 : Int32) < 0 ∨ cl3.slots.size ≤ ((0 : Int32)).toNatClampNeg) := inb_of S3 ⟨by decide, by decide⟩
  obtain ⟨T4, h4, X4, e4, W4, st4⟩ := stC X1 hx hZ e1 Ar3 (j := (0 : Int32)) hin4 (g := (mkF m 29 #[iv (1 : Int32), iv p1, iv p2, iv p3, iv p4, rv b1] [(.int p1), (.int (0 : Int32)), (.ref b1)])) rfl rfl (hb hby own_d1_29)
  have V4 : Arv Z h4 b1 k1 .char (1 : Int32) [(.int (nar .char p1))] (.int (0 : Int32)) := Arv.set Ar3 q3 S3 M3 H3 G3 (fits_nar_char _) W4 0 rfl (Nat.le_of_ble_eq_true rfl)
  have N4 := Fr.snoc X4 N0 g_b1
  have O5 := O2.wr W4 g_b1
  have K5 : Keep h0 h4 [] := K2.wr W4 (Or.inr sz_b1)
  refine own_on (B := T4.setTop (mkF m 30 #[iv (1 : Int32), iv p1, iv p2, iv p3, iv p4, rv b1] [])) (fun tz kz => st4 _ kz) ?_
  obtain ⟨T6, h6, X6, e6, E6, A6, D6, -, st6⟩ := newO X4 hx hZ hown (own_w hw 6 rfl) (own_w hw 7 rfl) (own_w hw 8 rfl) e4 (g := (mkF m 30 #[iv (1 : Int32), iv p1, iv p2, iv p3, iv p4, rv b1] [])) rfl (hb hby own_d1_30) (by decide) (by decide)
  obtain ⟨b6, g6⟩ : ∃ z, z = h4.size := ⟨_, rfl⟩
  rw [← g6] at A6 D6 st6
  have ne_b1_b6 : b1 ≠ b6 := Nat.ne_of_lt (Nat.lt_of_lt_of_le (V4).lt (Nat.le_of_eq g6.symm))
  have g_b6 : n0 ≤ b6 := Nat.le_trans (own_old O5) (Nat.le_of_eq g6.symm)
  have sz_b6 : h0.size ≤ b6 := Nat.le_trans K5.1 (Nat.le_of_eq g6.symm)
  have O7 := O5.ext E6
  have K7 : Keep h0 h6 [] := K5.ext E6
  have F6_value : Fld Z h6 b6 "java/lang/String" "value" "[B" .null := D6 (Or.inr (own_w hw 22 rfl)) (ty := (.array .byte)) (by decide)
  have F6_coder : Fld Z h6 b6 "java/lang/String" "coder" "B" (.int (0 : Int32)) := D6 (Or.inr (own_w hw 23 rfl)) (ty := .byte) (by decide)
  refine own_on (B := T6.setTop (mkF m 33 #[iv (1 : Int32), iv p1, iv p2, iv p3, iv p4, rv b1] [(.ref b6)])) (fun tz kz => st6 _ kz) ?_
  have f_8 := (V4.ext E6)
  refine own_on (B := T6.setTop (mkF m 36 #[iv (1 : Int32), iv p1, iv p2, iv p3, iv p4, rv b1] [(.ref b1), (.ref b6), (.ref b6)])) (fun tz kz => ?_) ?_
  · show sT p e below T6 (mkF m 33 #[iv (1 : Int32), iv p1, iv p2, iv p3, iv p4, rv b1] [(.ref b6)]) tz
    refine XS.dup X6.here hx rfl (hb hby own_d1_33) rfl rfl ?_
    show sT p e below T6 (mkF m 34 #[iv (1 : Int32), iv p1, iv p2, iv p3, iv p4, rv b1] [(.ref b6), (.ref b6)]) tz
    refine XS.aload X6.here hx rfl (hb hby own_d1_34) rfl rfl ?_
    exact kz
  obtain ⟨_, _, ⟨T9, L9, k9, n9⟩, -, X9, ⟨Lc9, hQ9, l9, y9, z9⟩, st9⟩ := X6.specialBack hx (y := (⟨"java/lang/String", "<init>", "([C)V"⟩ : MethodName)) rfl hown (mvT hZ (own_w hw 10 rfl)) (mvT hZ (own_w hw 11 rfl)) (mvT hZ (own_w hw 12 rfl)) (by decide) (backOf (W := 1) (rm2a l Z a0 hw [] b6 b1 cS k1 (nar .char p1) h6 n0 O7 A6 g_b6 F6_value F6_coder S_cs hcS S_as S_hi S_lo f_8 (own_chB _).1 (own_chB _).2) hZ (own_w hw 12 rfl) (own_w hw 8 rfl) (by decide) (by decide)) (g := (mkF m 36 #[iv (1 : Int32), iv p1, iv p2, iv p3, iv p4, rv b1] [(.ref b1), (.ref b6), (.ref b6)])) rfl (by rw [hml]; rfl) (Steps.refl _) (a := b6) (argsL := [(.ref b1)]) (rest := [(.ref b6)]) (lenOf own_pd8 rfl) rfl (by show 2 * 0 + _ ≤ _; exact Nat.le_of_eq rfl) (hb hby own_d1_36) (fun _ _ => ⟨rfl, e6, (by decide : 2 + 2 ≤ _), (by decide : 5 + 3 ≤ _)⟩)
  dsimp only [Pt.U, Pt.locs, Pt.cells, Pt.slots] at X9 l9 y9 z9 st9 hQ9
  subst l9 y9 z9
  obtain ⟨b9, ln9, cd9, rfl, Nq9, Kq9, Fv9, Fc9, Vb9, LC9⟩ := hQ9
  have N9 := Fr.app N4 Nq9
  have O10 := O7.keep Kq9 (allS g_b6 all0)
  have K10 : Keep h0 T9.heap [] := K7.trans Kq9 (allS (Or.inr sz_b6) all0)
  refine own_on (B := T9.setTop (mkF m 39 #[iv (1 : Int32), iv p1, iv p2, iv p3, iv p4, rv b1] [(.ref b6)])) (fun tz kz => st9.trans kz) ?_
  have f_11 := (A6.keep Kq9)
  obtain ⟨fs, hr, hrun, hended, hW, hsame⟩ := X9.leave (v := some (.ref b6)) (fun h => by rw [Bd.returns] at h; cases h)
  refine own_of ⟨_, _, ?_, hrun, hended, _, _, rfl, ?_, ⟨_, rfl⟩, hW, hsame.mono (by decide) (by decide)⟩
  · show sT p e below T9 (mkF m 39 #[iv (1 : Int32), iv p1, iv p2, iv p3, iv p4, rv b1] [(.ref b6)]) _
    exact own_retV X9 hx Bd.returns rfl rfl (hb hby own_d1_39) hr
  · show Q1a Z p1 p2 p3 p4 cS h0 n0 _ T9.heap _
    exact ⟨b6, b9, ln9, cd9, rfl, N9, K10, sz_b6, f_11, Fv9, Fc9, Vb9, LC9⟩
theorem own_ef_1b (m : MethodId) (x0 : Int32) (x1 : Int32) (x2 : Int32) (x3 : Int32) (x4 : Int32) : entryFrame m #[(.int x0), (.int x1), (.int x2), (.int x3), (.int x4)] 6 = mkF m 0 #[iv x0, iv x1, iv x2, iv x3, iv x4, .unset] [] := by first | (simp [entryFrame, mkF, argsToLocals, Value.category]; done) | rfl
def Q1b (Z : State) (p1 : Int32) (p2 : Int32) (p3 : Int32) (p4 : Int32) (cS : Int32) (h0 : Heap) (n0 : Nat) (v : Option Value) (h : Heap) (L : List Loc) : Prop := ∃ (d b : Addr) (ln cd : Int32), v = some (.ref d) ∧ Fr n0 L ∧ Keep h0 h [] ∧ h0.size ≤ d ∧ Exa Z h d "java/lang/String" ∧ Fld Z h d "java/lang/String" "value" "[B" (.ref b) ∧ Fld Z h d "java/lang/String" "coder" "B" (.int cd) ∧ OwnArz Z h b .byte ln ∧ OwnLC (2 : Int32) ln cd
theorem own_d1_40 : decode method_2_code 40 = .ok (.iload_n 0, 1) := by decide +kernel
theorem own_d1_41 : decode method_2_code 41 = .ok (.iconst 2, 1) := by decide +kernel
theorem own_d1_42 : decode method_2_code 42 = .ok (.if_icmp .ne 28, 3) := by decide +kernel
theorem own_d1_45 : decode method_2_code 45 = .ok (.iconst 2, 1) := by decide +kernel
theorem own_d1_46 : decode method_2_code 46 = .ok (.newarray .char, 2) := by decide +kernel
theorem own_d1_48 : decode method_2_code 48 = .ok (.astore 5, 2) := by decide +kernel
theorem own_d1_50 : decode method_2_code 50 = .ok (.aload 5, 2) := by decide +kernel
theorem own_d1_52 : decode method_2_code 52 = .ok (.iconst 0, 1) := by decide +kernel
theorem own_d1_53 : decode method_2_code 53 = .ok (.iload_n 1, 1) := by decide +kernel
theorem own_d1_54 : decode method_2_code 54 = .ok (.castore, 1) := by decide +kernel
theorem own_d1_55 : decode method_2_code 55 = .ok (.aload 5, 2) := by decide +kernel
theorem own_d1_57 : decode method_2_code 57 = .ok (.iconst 1, 1) := by decide +kernel
theorem own_d1_58 : decode method_2_code 58 = .ok (.iload_n 2, 1) := by decide +kernel
theorem own_d1_59 : decode method_2_code 59 = .ok (.castore, 1) := by decide +kernel
theorem own_d1_60 : decode method_2_code 60 = .ok (.new 7, 3) := by decide +kernel
theorem own_d1_63 : decode method_2_code 63 = .ok (.dup, 1) := by decide +kernel
theorem own_d1_64 : decode method_2_code 64 = .ok (.aload 5, 2) := by decide +kernel
theorem own_d1_66 : decode method_2_code 66 = .ok (.invokespecial 9, 3) := by decide +kernel
theorem own_d1_69 : decode method_2_code 69 = .ok (.areturn, 1) := by decide +kernel
set_option maxRecDepth 65536 in
set_option maxHeartbeats 40000000 in
theorem rm1b (l : Launch) (Z : State) (a0 : Array Value) (hw : ∀ d ∈ tables_1, d.before a0 Z = true) (ws : List Jvm.Cond) (p1 : Int32) (p2 : Int32) (p3 : Int32) (p4 : Int32) (cS : Int32) (h0 : Heap) (n0 : Nat) (O0 : Old Z n0 h0) (S_cs : Sta Z Z.heap "java/lang/String" "COMPACT_STRINGS" "Z" (.int cS)) (hcS : ¬ (cS = (0 : Int32))) (S_as : Sta Z Z.heap "java/lang/StringUTF16" "$assertionsDisabled" "Z" (.int 1)) (S_hi : Sta Z Z.heap "java/lang/StringUTF16" "HI_BYTE_SHIFT" "I" (.int 0)) (S_lo : Sta Z Z.heap "java/lang/StringUTF16" "LO_BYTE_SHIFT" "I" (.int 8)) (hheld : Jvm.Lit.constHeld Z "java/lang/String" 7) (hcw : Jvm.Lit.compactW.before a0 Z = true) :
    MetFree l (⟨"com/example/firm_gate/firmgate/TokenDecisionAcceptPinLaw", "make", "(ICCCC)Ljava/lang/String;"⟩ : MethodName) (head1 (Jvm.Cond.code (⟨"com/example/firm_gate/firmgate/TokenDecisionAcceptPinLaw", "make", "(ICCCC)Ljava/lang/String;"⟩ : MethodName) method_2_code 6 (some (.object "java/lang/String")) :: ws) ({ frames := 6, cells := 4, slots := 12, locals := 96 } : Room)) (fun a U => a = #[(.int (2 : Int32)), (.int p1), (.int p2), (.int p3), (.int p4)] ∧ Z.Warmed39 U.vm ∧ U.heap = h0) (fun _ _ _ _ _ => True) (fun _ U o U' => ∃ v L, o = .returned v ∧ Q1b Z p1 p2 p3 p4 cS h0 n0 v U'.heap L ∧ FrameEnd U o U' L ({ frames := 6, cells := 4, slots := 12, locals := 96 } : Room).cells ({ frames := 6, cells := 4, slots := 12, locals := 96 } : Room).slots) := by
  refine MetFree.of_bodySF (plainFor_of_name own_pn_com_example_firm_gate_firmgate_TokenDecisionAcceptPinLaw) hisR ?_
  intro p e s m args below meth c s₁ Bd hml0 hP hK
  obtain ⟨rfl, hZ, hh⟩ := hP
  have hx := Bd.exec
  have hby := Bd.bytes
  have hml : c.maxLocals = 6 := hml0
  have hown : s.vm.findClass "com/example/firm_gate/firmgate/TokenDecisionAcceptPinLaw" = some m.cls := findClass_of_methodNamed Bd.named
  have hnm := (name_of_methodNamed Bd.named Bd.method).1
  have X0 : Stand p l e ({ frames := 6, cells := 4, slots := 12, locals := 96 } : Room) s m #[(.int (2 : Int32)), (.int p1), (.int p2), (.int p3), (.int p4)] below meth c s₁ [] 0 0 := Stand.of_body Bd
  have e0 : s₁.heap = h0 := by rw [← hh, Bd.state]; rfl
  have N0 := Fr.nil n0
  change Go p.tables e below _ _
  refine own_on (B := s₁.setTop (mkF m 0 #[iv (2 : Int32), iv p1, iv p2, iv p3, iv p4, .unset] [])) (fun tz kz => castTop (own_ef_1b m (2 : Int32) p1 p2 p3 p4) kz) ?_
  refine own_on (B := s₁.setTop (mkF m 46 #[iv (2 : Int32), iv p1, iv p2, iv p3, iv p4, .unset] [(.int (2 : Int32))])) (fun tz kz => ?_) ?_
  · show sT p e below s₁ (mkF m 0 #[iv (2 : Int32), iv p1, iv p2, iv p3, iv p4, .unset] []) tz
    refine XS.iloadN X0.here hx rfl (hb hby own_d1_0) rfl ?_
    show sT p e below s₁ (mkF m 1 #[iv (2 : Int32), iv p1, iv p2, iv p3, iv p4, .unset] [(.int (2 : Int32))]) tz
    refine XS.ifYes X0.here hx rfl (pc0 := 1) (pc' := 15) rfl (hb hby own_d1_1) rfl ((if0 _ _).trans (feq (by decide : ¬ ((2 : Int32) = (0 : Int32)))).2) (by decide) (by decide) ?_
    show sT p e below s₁ (mkF m 15 #[iv (2 : Int32), iv p1, iv p2, iv p3, iv p4, .unset] []) tz
    refine XS.iloadN X0.here hx rfl (hb hby own_d1_15) rfl ?_
    show sT p e below s₁ (mkF m 16 #[iv (2 : Int32), iv p1, iv p2, iv p3, iv p4, .unset] [(.int (2 : Int32))]) tz
    refine XS.iconst X0.here hx rfl (hb hby own_d1_16) ?_
    show sT p e below s₁ (mkF m 17 #[iv (2 : Int32), iv p1, iv p2, iv p3, iv p4, .unset] [(.int (1 : Int32)), (.int (2 : Int32))]) tz
    refine XS.icmpYes X0.here hx rfl (pc0 := 17) (pc' := 40) rfl (hb hby own_d1_17) rfl (feq (by decide : ¬ ((2 : Int32) = (1 : Int32)))).2 (by decide) (by decide) ?_
    show sT p e below s₁ (mkF m 40 #[iv (2 : Int32), iv p1, iv p2, iv p3, iv p4, .unset] []) tz
    refine XS.iloadN X0.here hx rfl (hb hby own_d1_40) rfl ?_
    show sT p e below s₁ (mkF m 41 #[iv (2 : Int32), iv p1, iv p2, iv p3, iv p4, .unset] [(.int (2 : Int32))]) tz
    refine XS.iconst X0.here hx rfl (hb hby own_d1_41) ?_
    show sT p e below s₁ (mkF m 42 #[iv (2 : Int32), iv p1, iv p2, iv p3, iv p4, .unset] [(.int (2 : Int32)), (.int (2 : Int32))]) tz
    refine XS.icmpNo X0.here hx rfl (hb hby own_d1_42) rfl (teq rfl).2 ?_
    show sT p e below s₁ (mkF m 45 #[iv (2 : Int32), iv p1, iv p2, iv p3, iv p4, .unset] []) tz
    refine XS.iconst X0.here hx rfl (hb hby own_d1_45) ?_
    exact kz
  obtain ⟨T1, h1, k1, X1, e1, E1, A1, st1⟩ := newP X0 hx hZ (own_w hw 9 rfl) e0 (g := (mkF m 46 #[iv (2 : Int32), iv p1, iv p2, iv p3, iv p4, .unset] [(.int (2 : Int32))])) rfl (hb hby own_d1_46) rfl (by decide) (cap := 2) (by decide) (by decide) (by decide) (by decide)
  obtain ⟨b1, g1⟩ : ∃ z, z = h0.size := ⟨_, rfl⟩
  rw [← g1] at A1 st1
  have g_b1 : n0 ≤ b1 := Nat.le_trans (own_old O0) (Nat.le_of_eq g1.symm)
  have sz_b1 : h0.size ≤ b1 := Nat.le_trans (Keep.refl h0 []).1 (Nat.le_of_eq g1.symm)
  have O2 := O0.ext E1
  have K2 : Keep h0 h1 [] := (Keep.refl h0 []).ext E1
  have V1 : Arv Z h1 b1 k1 .char (2 : Int32) [(.int (0 : Int32)), (.int (0 : Int32))] (.int (0 : Int32)) := (Arv.new A1 (by decide)).pad (pad_rep [] (.int (0 : Int32)) 2)
  refine own_on (B := T1.setTop (mkF m 48 #[iv (2 : Int32), iv p1, iv p2, iv p3, iv p4, .unset] [(.ref b1)])) (fun tz kz => st1 _ kz) ?_
  refine own_on (B := T1.setTop (mkF m 54 #[iv (2 : Int32), iv p1, iv p2, iv p3, iv p4, rv b1] [(.int p1), (.int (0 : Int32)), (.ref b1)])) (fun tz kz => ?_) ?_
  · show sT p e below T1 (mkF m 48 #[iv (2 : Int32), iv p1, iv p2, iv p3, iv p4, .unset] [(.ref b1)]) tz
    refine XS.astore X1.here hx rfl (hb hby own_d1_48) rfl rfl (l' := #[iv (2 : Int32), iv p1, iv p2, iv p3, iv p4, rv b1]) rfl ?_
    show sT p e below T1 (mkF m 50 #[iv (2 : Int32), iv p1, iv p2, iv p3, iv p4, rv b1] []) tz
    refine XS.aload X1.here hx rfl (hb hby own_d1_50) rfl rfl ?_
    show sT p e below T1 (mkF m 52 #[iv (2 : Int32), iv p1, iv p2, iv p3, iv p4, rv b1] [(.ref b1)]) tz
    refine XS.iconst X1.here hx rfl (hb hby own_d1_52) ?_
    show sT p e below T1 (mkF m 53 #[iv (2 : Int32), iv p1, iv p2, iv p3, iv p4, rv b1] [(.int (0 : Int32)), (.ref b1)]) tz
    refine XS.iloadN X1.here hx rfl (hb hby own_d1_53) rfl ?_
    exact kz
  obtain ⟨cl3, Ar3, q3, S3, M3, H3, G3⟩ := id V1
  have hin4 : ¬ ((0 : Int32) < 0 ∨ cl3.slots.size ≤ ((0 : Int32)).toNatClampNeg) := inb_of S3 ⟨by decide, by decide⟩
  obtain ⟨T4, h4, X4, e4, W4, st4⟩ := stC X1 hx hZ e1 Ar3 (j := (0 : Int32)) hin4 (g := (mkF m 54 #[iv (2 : Int32), iv p1, iv p2, iv p3, iv p4, rv b1] [(.int p1), (.int (0 : Int32)), (.ref b1)])) rfl rfl (hb hby own_d1_54)
  have V4 : Arv Z h4 b1 k1 .char (2 : Int32) [(.int (nar .char p1)), (.int (0 : Int32))] (.int (0 : Int32)) := Arv.set Ar3 q3 S3 M3 H3 G3 (fits_nar_char _) W4 0 rfl (Nat.le_of_ble_eq_true rfl)
  have N4 := Fr.snoc X4 N0 g_b1
  have O5 := O2.wr W4 g_b1
  have K5 : Keep h0 h4 [] := K2.wr W4 (Or.inr sz_b1)
  refine own_on (B := T4.setTop (mkF m 55 #[iv (2 : Int32), iv p1, iv p2, iv p3, iv p4, rv b1] [])) (fun tz kz => st4 _ kz) ?_
  refine own_on (B := T4.setTop (mkF m 59 #[iv (2 : Int32), iv p1, iv p2, iv p3, iv p4, rv b1] [(.int p2), (.int (1 : Int32)), (.ref b1)])) (fun tz kz => ?_) ?_
  · show sT p e below T4 (mkF m 55 #[iv (2 : Int32), iv p1, iv p2, iv p3, iv p4, rv b1] []) tz
    refine XS.aload X4.here hx rfl (hb hby own_d1_55) rfl rfl ?_
    show sT p e below T4 (mkF m 57 #[iv (2 : Int32), iv p1, iv p2, iv p3, iv p4, rv b1] [(.ref b1)]) tz
    refine XS.iconst X4.here hx rfl (hb hby own_d1_57) ?_
    show sT p e below T4 (mkF m 58 #[iv (2 : Int32), iv p1, iv p2, iv p3, iv p4, rv b1] [(.int (1 : Int32)), (.ref b1)]) tz
    refine XS.iloadN X4.here hx rfl (hb hby own_d1_58) rfl ?_
    exact kz
  obtain ⟨cl6, Ar6, q6, S6, M6, H6, G6⟩ := id V4
  have hin7 : ¬ ((1 : Int32) < 0 ∨ cl6.slots.size ≤ ((1 : Int32)).toNatClampNeg) := inb_of S6 ⟨by decide, by decide⟩
  obtain ⟨T7, h7, X7, e7, W7, st7⟩ := stC X4 hx hZ e4 Ar6 (j := (1 : Int32)) hin7 (g := (mkF m 59 #[iv (2 : Int32), iv p1, iv p2, iv p3, iv p4, rv b1] [(.int p2), (.int (1 : Int32)), (.ref b1)])) rfl rfl (hb hby own_d1_59)
  have V7 : Arv Z h7 b1 k1 .char (2 : Int32) [(.int (nar .char p1)), (.int (nar .char p2))] (.int (0 : Int32)) := Arv.set Ar6 q6 S6 M6 H6 G6 (fits_nar_char _) W7 1 rfl (Nat.le_of_ble_eq_true rfl)
  have N7 := Fr.snoc X7 N4 g_b1
  have O8 := O5.wr W7 g_b1
  have K8 : Keep h0 h7 [] := K5.wr W7 (Or.inr sz_b1)
  refine own_on (B := T7.setTop (mkF m 60 #[iv (2 : Int32), iv p1, iv p2, iv p3, iv p4, rv b1] [])) (fun tz kz => st7 _ kz) ?_
  obtain ⟨T9, h9, X9, e9, E9, A9, D9, -, st9⟩ := newO X7 hx hZ hown (own_w hw 6 rfl) (own_w hw 7 rfl) (own_w hw 8 rfl) e7 (g := (mkF m 60 #[iv (2 : Int32), iv p1, iv p2, iv p3, iv p4, rv b1] [])) rfl (hb hby own_d1_60) (by decide) (by decide)
  obtain ⟨b9, g9⟩ : ∃ z, z = h7.size := ⟨_, rfl⟩
  rw [← g9] at A9 D9 st9
  have ne_b1_b9 : b1 ≠ b9 := Nat.ne_of_lt (Nat.lt_of_lt_of_le (V7).lt (Nat.le_of_eq g9.symm))
  have g_b9 : n0 ≤ b9 := Nat.le_trans (own_old O8) (Nat.le_of_eq g9.symm)
  have sz_b9 : h0.size ≤ b9 := Nat.le_trans K8.1 (Nat.le_of_eq g9.symm)
  have O10 := O8.ext E9
  have K10 : Keep h0 h9 [] := K8.ext E9
  have F9_value : Fld Z h9 b9 "java/lang/String" "value" "[B" .null := D9 (Or.inr (own_w hw 22 rfl)) (ty := (.array .byte)) (by decide)
  have F9_coder : Fld Z h9 b9 "java/lang/String" "coder" "B" (.int (0 : Int32)) := D9 (Or.inr (own_w hw 23 rfl)) (ty := .byte) (by decide)
  refine own_on (B := T9.setTop (mkF m 63 #[iv (2 : Int32), iv p1, iv p2, iv p3, iv p4, rv b1] [(.ref b9)])) (fun tz kz => st9 _ kz) ?_
  have f_11 := (V7.ext E9)
  refine own_on (B := T9.setTop (mkF m 66 #[iv (2 : Int32), iv p1, iv p2, iv p3, iv p4, rv b1] [(.ref b1), (.ref b9), (.ref b9)])) (fun tz kz => ?_) ?_
  · show sT p e below T9 (mkF m 63 #[iv (2 : Int32), iv p1, iv p2, iv p3, iv p4, rv b1] [(.ref b9)]) tz
    refine XS.dup X9.here hx rfl (hb hby own_d1_63) rfl rfl ?_
    show sT p e below T9 (mkF m 64 #[iv (2 : Int32), iv p1, iv p2, iv p3, iv p4, rv b1] [(.ref b9), (.ref b9)]) tz
    refine XS.aload X9.here hx rfl (hb hby own_d1_64) rfl rfl ?_
    exact kz
  obtain ⟨_, _, ⟨T12, L12, k12, n12⟩, -, X12, ⟨Lc12, hQ12, l12, y12, z12⟩, st12⟩ := X9.specialBack hx (y := (⟨"java/lang/String", "<init>", "([C)V"⟩ : MethodName)) rfl hown (mvT hZ (own_w hw 10 rfl)) (mvT hZ (own_w hw 11 rfl)) (mvT hZ (own_w hw 12 rfl)) (by decide) (backOf (W := 1) (rm2b l Z a0 hw [] b9 b1 cS k1 (nar .char p1) (nar .char p2) h9 n0 O10 A9 g_b9 F9_value F9_coder S_cs hcS S_as S_hi S_lo f_11 (own_chB _).1 (own_chB _).2 (own_chB _).1 (own_chB _).2) hZ (own_w hw 12 rfl) (own_w hw 8 rfl) (by decide) (by decide)) (g := (mkF m 66 #[iv (2 : Int32), iv p1, iv p2, iv p3, iv p4, rv b1] [(.ref b1), (.ref b9), (.ref b9)])) rfl (by rw [hml]; rfl) (Steps.refl _) (a := b9) (argsL := [(.ref b1)]) (rest := [(.ref b9)]) (lenOf own_pd8 rfl) rfl (by show 2 * 0 + _ ≤ _; exact Nat.le_of_eq rfl) (hb hby own_d1_66) (fun _ _ => ⟨rfl, e9, (by decide : 2 + 2 ≤ _), (by decide : 6 + 6 ≤ _)⟩)
  dsimp only [Pt.U, Pt.locs, Pt.cells, Pt.slots] at X12 l12 y12 z12 st12 hQ12
  subst l12 y12 z12
  obtain ⟨b12, ln12, cd12, rfl, Nq12, Kq12, Fv12, Fc12, Vb12, LC12⟩ := hQ12
  have N12 := Fr.app N7 Nq12
  have O13 := O10.keep Kq12 (allS g_b9 all0)
  have K13 : Keep h0 T12.heap [] := K10.trans Kq12 (allS (Or.inr sz_b9) all0)
  refine own_on (B := T12.setTop (mkF m 69 #[iv (2 : Int32), iv p1, iv p2, iv p3, iv p4, rv b1] [(.ref b9)])) (fun tz kz => st12.trans kz) ?_
  have f_14 := (A9.keep Kq12)
  obtain ⟨fs, hr, hrun, hended, hW, hsame⟩ := X12.leave (v := some (.ref b9)) (fun h => by rw [Bd.returns] at h; cases h)
  refine own_of ⟨_, _, ?_, hrun, hended, _, _, rfl, ?_, ⟨_, rfl⟩, hW, hsame.mono (by decide) (by decide)⟩
  · show sT p e below T12 (mkF m 69 #[iv (2 : Int32), iv p1, iv p2, iv p3, iv p4, rv b1] [(.ref b9)]) _
    exact own_retV X12 hx Bd.returns rfl rfl (hb hby own_d1_69) hr
  · show Q1b Z p1 p2 p3 p4 cS h0 n0 _ T12.heap _
    exact ⟨b9, b12, ln12, cd12, rfl, N12, K13, sz_b9, f_14, Fv12, Fc12, Vb12, LC12⟩
theorem own_ef_1c (m : MethodId) (x0 : Int32) (x1 : Int32) (x2 : Int32) (x3 : Int32) (x4 : Int32) : entryFrame m #[(.int x0), (.int x1), (.int x2), (.int x3), (.int x4)] 6 = mkF m 0 #[iv x0, iv x1, iv x2, iv x3, iv x4, .unset] [] := by first | (simp [entryFrame, mkF, argsToLocals, Value.category]; done) | rfl
def Q1c (Z : State) (p1 : Int32) (p2 : Int32) (p3 : Int32) (p4 : Int32) (cS : Int32) (h0 : Heap) (n0 : Nat) (v : Option Value) (h : Heap) (L : List Loc) : Prop := ∃ (d b : Addr) (ln cd : Int32), v = some (.ref d) ∧ Fr n0 L ∧ Keep h0 h [] ∧ h0.size ≤ d ∧ Exa Z h d "java/lang/String" ∧ Fld Z h d "java/lang/String" "value" "[B" (.ref b) ∧ Fld Z h d "java/lang/String" "coder" "B" (.int cd) ∧ OwnArz Z h b .byte ln ∧ OwnLC (3 : Int32) ln cd
theorem own_d1_70 : decode method_2_code 70 = .ok (.iload_n 0, 1) := by decide +kernel
theorem own_d1_71 : decode method_2_code 71 = .ok (.iconst 3, 1) := by decide +kernel
theorem own_d1_72 : decode method_2_code 72 = .ok (.if_icmp .ne 33, 3) := by decide +kernel
theorem own_d1_75 : decode method_2_code 75 = .ok (.iconst 3, 1) := by decide +kernel
theorem own_d1_76 : decode method_2_code 76 = .ok (.newarray .char, 2) := by decide +kernel
theorem own_d1_78 : decode method_2_code 78 = .ok (.astore 5, 2) := by decide +kernel
theorem own_d1_80 : decode method_2_code 80 = .ok (.aload 5, 2) := by decide +kernel
theorem own_d1_82 : decode method_2_code 82 = .ok (.iconst 0, 1) := by decide +kernel
theorem own_d1_83 : decode method_2_code 83 = .ok (.iload_n 1, 1) := by decide +kernel
theorem own_d1_84 : decode method_2_code 84 = .ok (.castore, 1) := by decide +kernel
theorem own_d1_85 : decode method_2_code 85 = .ok (.aload 5, 2) := by decide +kernel
theorem own_d1_87 : decode method_2_code 87 = .ok (.iconst 1, 1) := by decide +kernel
theorem own_d1_88 : decode method_2_code 88 = .ok (.iload_n 2, 1) := by decide +kernel
theorem own_d1_89 : decode method_2_code 89 = .ok (.castore, 1) := by decide +kernel
theorem own_d1_90 : decode method_2_code 90 = .ok (.aload 5, 2) := by decide +kernel
theorem own_d1_92 : decode method_2_code 92 = .ok (.iconst 2, 1) := by decide +kernel
theorem own_d1_93 : decode method_2_code 93 = .ok (.iload_n 3, 1) := by decide +kernel
theorem own_d1_94 : decode method_2_code 94 = .ok (.castore, 1) := by decide +kernel
theorem own_d1_95 : decode method_2_code 95 = .ok (.new 7, 3) := by decide +kernel
theorem own_d1_98 : decode method_2_code 98 = .ok (.dup, 1) := by decide +kernel
theorem own_d1_99 : decode method_2_code 99 = .ok (.aload 5, 2) := by decide +kernel
theorem own_d1_101 : decode method_2_code 101 = .ok (.invokespecial 9, 3) := by decide +kernel
theorem own_d1_104 : decode method_2_code 104 = .ok (.areturn, 1) := by decide +kernel
set_option maxRecDepth 65536 in
set_option maxHeartbeats 40000000 in
theorem rm1c (l : Launch) (Z : State) (a0 : Array Value) (hw : ∀ d ∈ tables_1, d.before a0 Z = true) (ws : List Jvm.Cond) (p1 : Int32) (p2 : Int32) (p3 : Int32) (p4 : Int32) (cS : Int32) (h0 : Heap) (n0 : Nat) (O0 : Old Z n0 h0) (S_cs : Sta Z Z.heap "java/lang/String" "COMPACT_STRINGS" "Z" (.int cS)) (hcS : ¬ (cS = (0 : Int32))) (S_as : Sta Z Z.heap "java/lang/StringUTF16" "$assertionsDisabled" "Z" (.int 1)) (S_hi : Sta Z Z.heap "java/lang/StringUTF16" "HI_BYTE_SHIFT" "I" (.int 0)) (S_lo : Sta Z Z.heap "java/lang/StringUTF16" "LO_BYTE_SHIFT" "I" (.int 8)) (hheld : Jvm.Lit.constHeld Z "java/lang/String" 7) (hcw : Jvm.Lit.compactW.before a0 Z = true) :
    MetFree l (⟨"com/example/firm_gate/firmgate/TokenDecisionAcceptPinLaw", "make", "(ICCCC)Ljava/lang/String;"⟩ : MethodName) (head1 (Jvm.Cond.code (⟨"com/example/firm_gate/firmgate/TokenDecisionAcceptPinLaw", "make", "(ICCCC)Ljava/lang/String;"⟩ : MethodName) method_2_code 6 (some (.object "java/lang/String")) :: ws) ({ frames := 6, cells := 4, slots := 16, locals := 96 } : Room)) (fun a U => a = #[(.int (3 : Int32)), (.int p1), (.int p2), (.int p3), (.int p4)] ∧ Z.Warmed39 U.vm ∧ U.heap = h0) (fun _ _ _ _ _ => True) (fun _ U o U' => ∃ v L, o = .returned v ∧ Q1c Z p1 p2 p3 p4 cS h0 n0 v U'.heap L ∧ FrameEnd U o U' L ({ frames := 6, cells := 4, slots := 16, locals := 96 } : Room).cells ({ frames := 6, cells := 4, slots := 16, locals := 96 } : Room).slots) := by
  refine MetFree.of_bodySF (plainFor_of_name own_pn_com_example_firm_gate_firmgate_TokenDecisionAcceptPinLaw) hisR ?_
  intro p e s m args below meth c s₁ Bd hml0 hP hK
  obtain ⟨rfl, hZ, hh⟩ := hP
  have hx := Bd.exec
  have hby := Bd.bytes
  have hml : c.maxLocals = 6 := hml0
  have hown : s.vm.findClass "com/example/firm_gate/firmgate/TokenDecisionAcceptPinLaw" = some m.cls := findClass_of_methodNamed Bd.named
  have hnm := (name_of_methodNamed Bd.named Bd.method).1
  have X0 : Stand p l e ({ frames := 6, cells := 4, slots := 16, locals := 96 } : Room) s m #[(.int (3 : Int32)), (.int p1), (.int p2), (.int p3), (.int p4)] below meth c s₁ [] 0 0 := Stand.of_body Bd
  have e0 : s₁.heap = h0 := by rw [← hh, Bd.state]; rfl
  have N0 := Fr.nil n0
  change Go p.tables e below _ _
  refine own_on (B := s₁.setTop (mkF m 0 #[iv (3 : Int32), iv p1, iv p2, iv p3, iv p4, .unset] [])) (fun tz kz => castTop (own_ef_1c m (3 : Int32) p1 p2 p3 p4) kz) ?_
  refine own_on (B := s₁.setTop (mkF m 76 #[iv (3 : Int32), iv p1, iv p2, iv p3, iv p4, .unset] [(.int (3 : Int32))])) (fun tz kz => ?_) ?_
  · show sT p e below s₁ (mkF m 0 #[iv (3 : Int32), iv p1, iv p2, iv p3, iv p4, .unset] []) tz
    refine XS.iloadN X0.here hx rfl (hb hby own_d1_0) rfl ?_
    show sT p e below s₁ (mkF m 1 #[iv (3 : Int32), iv p1, iv p2, iv p3, iv p4, .unset] [(.int (3 : Int32))]) tz
    refine XS.ifYes X0.here hx rfl (pc0 := 1) (pc' := 15) rfl (hb hby own_d1_1) rfl ((if0 _ _).trans (feq (by decide : ¬ ((3 : Int32) = (0 : Int32)))).2) (by decide) (by decide) ?_
    show sT p e below s₁ (mkF m 15 #[iv (3 : Int32), iv p1, iv p2, iv p3, iv p4, .unset] []) tz
    refine XS.iloadN X0.here hx rfl (hb hby own_d1_15) rfl ?_
    show sT p e below s₁ (mkF m 16 #[iv (3 : Int32), iv p1, iv p2, iv p3, iv p4, .unset] [(.int (3 : Int32))]) tz
    refine XS.iconst X0.here hx rfl (hb hby own_d1_16) ?_
    show sT p e below s₁ (mkF m 17 #[iv (3 : Int32), iv p1, iv p2, iv p3, iv p4, .unset] [(.int (1 : Int32)), (.int (3 : Int32))]) tz
    refine XS.icmpYes X0.here hx rfl (pc0 := 17) (pc' := 40) rfl (hb hby own_d1_17) rfl (feq (by decide : ¬ ((3 : Int32) = (1 : Int32)))).2 (by decide) (by decide) ?_
    show sT p e below s₁ (mkF m 40 #[iv (3 : Int32), iv p1, iv p2, iv p3, iv p4, .unset] []) tz
    refine XS.iloadN X0.here hx rfl (hb hby own_d1_40) rfl ?_
    show sT p e below s₁ (mkF m 41 #[iv (3 : Int32), iv p1, iv p2, iv p3, iv p4, .unset] [(.int (3 : Int32))]) tz
    refine XS.iconst X0.here hx rfl (hb hby own_d1_41) ?_
    show sT p e below s₁ (mkF m 42 #[iv (3 : Int32), iv p1, iv p2, iv p3, iv p4, .unset] [(.int (2 : Int32)), (.int (3 : Int32))]) tz
    refine XS.icmpYes X0.here hx rfl (pc0 := 42) (pc' := 70) rfl (hb hby own_d1_42) rfl (feq (by decide : ¬ ((3 : Int32) = (2 : Int32)))).2 (by decide) (by decide) ?_
    show sT p e below s₁ (mkF m 70 #[iv (3 : Int32), iv p1, iv p2, iv p3, iv p4, .unset] []) tz
    refine XS.iloadN X0.here hx rfl (hb hby own_d1_70) rfl ?_
    show sT p e below s₁ (mkF m 71 #[iv (3 : Int32), iv p1, iv p2, iv p3, iv p4, .unset] [(.int (3 : Int32))]) tz
    refine XS.iconst X0.here hx rfl (hb hby own_d1_71) ?_
    show sT p e below s₁ (mkF m 72 #[iv (3 : Int32), iv p1, iv p2, iv p3, iv p4, .unset] [(.int (3 : Int32)), (.int (3 : Int32))]) tz
    refine XS.icmpNo X0.here hx rfl (hb hby own_d1_72) rfl (teq rfl).2 ?_
    show sT p e below s₁ (mkF m 75 #[iv (3 : Int32), iv p1, iv p2, iv p3, iv p4, .unset] []) tz
    refine XS.iconst X0.here hx rfl (hb hby own_d1_75) ?_
    exact kz
  obtain ⟨T1, h1, k1, X1, e1, E1, A1, st1⟩ := newP X0 hx hZ (own_w hw 9 rfl) e0 (g := (mkF m 76 #[iv (3 : Int32), iv p1, iv p2, iv p3, iv p4, .unset] [(.int (3 : Int32))])) rfl (hb hby own_d1_76) rfl (by decide) (cap := 3) (by decide) (by decide) (by decide) (by decide)
  obtain ⟨b1, g1⟩ : ∃ z, z = h0.size := ⟨_, rfl⟩
  rw [← g1] at A1 st1
  have g_b1 : n0 ≤ b1 := Nat.le_trans (own_old O0) (Nat.le_of_eq g1.symm)
  have sz_b1 : h0.size ≤ b1 := Nat.le_trans (Keep.refl h0 []).1 (Nat.le_of_eq g1.symm)
  have O2 := O0.ext E1
  have K2 : Keep h0 h1 [] := (Keep.refl h0 []).ext E1
  have V1 : Arv Z h1 b1 k1 .char (3 : Int32) [(.int (0 : Int32)), (.int (0 : Int32)), (.int (0 : Int32))] (.int (0 : Int32)) := (Arv.new A1 (by decide)).pad (pad_rep [] (.int (0 : Int32)) 3)
  refine own_on (B := T1.setTop (mkF m 78 #[iv (3 : Int32), iv p1, iv p2, iv p3, iv p4, .unset] [(.ref b1)])) (fun tz kz => st1 _ kz) ?_
  refine own_on (B := T1.setTop (mkF m 84 #[iv (3 : Int32), iv p1, iv p2, iv p3, iv p4, rv b1] [(.int p1), (.int (0 : Int32)), (.ref b1)])) (fun tz kz => ?_) ?_
  · show sT p e below T1 (mkF m 78 #[iv (3 : Int32), iv p1, iv p2, iv p3, iv p4, .unset] [(.ref b1)]) tz
    refine XS.astore X1.here hx rfl (hb hby own_d1_78) rfl rfl (l' := #[iv (3 : Int32), iv p1, iv p2, iv p3, iv p4, rv b1]) rfl ?_
    show sT p e below T1 (mkF m 80 #[iv (3 : Int32), iv p1, iv p2, iv p3, iv p4, rv b1] []) tz
    refine XS.aload X1.here hx rfl (hb hby own_d1_80) rfl rfl ?_
    show sT p e below T1 (mkF m 82 #[iv (3 : Int32), iv p1, iv p2, iv p3, iv p4, rv b1] [(.ref b1)]) tz
    refine XS.iconst X1.here hx rfl (hb hby own_d1_82) ?_
    show sT p e below T1 (mkF m 83 #[iv (3 : Int32), iv p1, iv p2, iv p3, iv p4, rv b1] [(.int (0 : Int32)), (.ref b1)]) tz
    refine XS.iloadN X1.here hx rfl (hb hby own_d1_83) rfl ?_
    exact kz
  obtain ⟨cl3, Ar3, q3, S3, M3, H3, G3⟩ := id V1
  have hin4 : ¬ ((0 : Int32) < 0 ∨ cl3.slots.size ≤ ((0 : Int32)).toNatClampNeg) := inb_of S3 ⟨by decide, by decide⟩
  obtain ⟨T4, h4, X4, e4, W4, st4⟩ := stC X1 hx hZ e1 Ar3 (j := (0 : Int32)) hin4 (g := (mkF m 84 #[iv (3 : Int32), iv p1, iv p2, iv p3, iv p4, rv b1] [(.int p1), (.int (0 : Int32)), (.ref b1)])) rfl rfl (hb hby own_d1_84)
  have V4 : Arv Z h4 b1 k1 .char (3 : Int32) [(.int (nar .char p1)), (.int (0 : Int32)), (.int (0 : Int32))] (.int (0 : Int32)) := Arv.set Ar3 q3 S3 M3 H3 G3 (fits_nar_char _) W4 0 rfl (Nat.le_of_ble_eq_true rfl)
  have N4 := Fr.snoc X4 N0 g_b1
  have O5 := O2.wr W4 g_b1
  have K5 : Keep h0 h4 [] := K2.wr W4 (Or.inr sz_b1)
  refine own_on (B := T4.setTop (mkF m 85 #[iv (3 : Int32), iv p1, iv p2, iv p3, iv p4, rv b1] [])) (fun tz kz => st4 _ kz) ?_
  refine own_on (B := T4.setTop (mkF m 89 #[iv (3 : Int32), iv p1, iv p2, iv p3, iv p4, rv b1] [(.int p2), (.int (1 : Int32)), (.ref b1)])) (fun tz kz => ?_) ?_
  · show sT p e below T4 (mkF m 85 #[iv (3 : Int32), iv p1, iv p2, iv p3, iv p4, rv b1] []) tz
    refine XS.aload X4.here hx rfl (hb hby own_d1_85) rfl rfl ?_
    show sT p e below T4 (mkF m 87 #[iv (3 : Int32), iv p1, iv p2, iv p3, iv p4, rv b1] [(.ref b1)]) tz
    refine XS.iconst X4.here hx rfl (hb hby own_d1_87) ?_
    show sT p e below T4 (mkF m 88 #[iv (3 : Int32), iv p1, iv p2, iv p3, iv p4, rv b1] [(.int (1 : Int32)), (.ref b1)]) tz
    refine XS.iloadN X4.here hx rfl (hb hby own_d1_88) rfl ?_
    exact kz
  obtain ⟨cl6, Ar6, q6, S6, M6, H6, G6⟩ := id V4
  have hin7 : ¬ ((1 : Int32) < 0 ∨ cl6.slots.size ≤ ((1 : Int32)).toNatClampNeg) := inb_of S6 ⟨by decide, by decide⟩
  obtain ⟨T7, h7, X7, e7, W7, st7⟩ := stC X4 hx hZ e4 Ar6 (j := (1 : Int32)) hin7 (g := (mkF m 89 #[iv (3 : Int32), iv p1, iv p2, iv p3, iv p4, rv b1] [(.int p2), (.int (1 : Int32)), (.ref b1)])) rfl rfl (hb hby own_d1_89)
  have V7 : Arv Z h7 b1 k1 .char (3 : Int32) [(.int (nar .char p1)), (.int (nar .char p2)), (.int (0 : Int32))] (.int (0 : Int32)) := Arv.set Ar6 q6 S6 M6 H6 G6 (fits_nar_char _) W7 1 rfl (Nat.le_of_ble_eq_true rfl)
  have N7 := Fr.snoc X7 N4 g_b1
  have O8 := O5.wr W7 g_b1
  have K8 : Keep h0 h7 [] := K5.wr W7 (Or.inr sz_b1)
  refine own_on (B := T7.setTop (mkF m 90 #[iv (3 : Int32), iv p1, iv p2, iv p3, iv p4, rv b1] [])) (fun tz kz => st7 _ kz) ?_
  refine own_on (B := T7.setTop (mkF m 94 #[iv (3 : Int32), iv p1, iv p2, iv p3, iv p4, rv b1] [(.int p3), (.int (2 : Int32)), (.ref b1)])) (fun tz kz => ?_) ?_
  · show sT p e below T7 (mkF m 90 #[iv (3 : Int32), iv p1, iv p2, iv p3, iv p4, rv b1] []) tz
    refine XS.aload X7.here hx rfl (hb hby own_d1_90) rfl rfl ?_
    show sT p e below T7 (mkF m 92 #[iv (3 : Int32), iv p1, iv p2, iv p3, iv p4, rv b1] [(.ref b1)]) tz
    refine XS.iconst X7.here hx rfl (hb hby own_d1_92) ?_
    show sT p e below T7 (mkF m 93 #[iv (3 : Int32), iv p1, iv p2, iv p3, iv p4, rv b1] [(.int (2 : Int32)), (.ref b1)]) tz
    refine XS.iloadN X7.here hx rfl (hb hby own_d1_93) rfl ?_
    exact kz
  obtain ⟨cl9, Ar9, q9, S9, M9, H9, G9⟩ := id V7
  have hin10 : ¬ ((2 : Int32) < 0 ∨ cl9.slots.size ≤ ((2 : Int32)).toNatClampNeg) := inb_of S9 ⟨by decide, by decide⟩
  obtain ⟨T10, h10, X10, e10, W10, st10⟩ := stC X7 hx hZ e7 Ar9 (j := (2 : Int32)) hin10 (g := (mkF m 94 #[iv (3 : Int32), iv p1, iv p2, iv p3, iv p4, rv b1] [(.int p3), (.int (2 : Int32)), (.ref b1)])) rfl rfl (hb hby own_d1_94)
  have V10 : Arv Z h10 b1 k1 .char (3 : Int32) [(.int (nar .char p1)), (.int (nar .char p2)), (.int (nar .char p3))] (.int (0 : Int32)) := Arv.set Ar9 q9 S9 M9 H9 G9 (fits_nar_char _) W10 2 rfl (Nat.le_of_ble_eq_true rfl)
  have N10 := Fr.snoc X10 N7 g_b1
  have O11 := O8.wr W10 g_b1
  have K11 : Keep h0 h10 [] := K8.wr W10 (Or.inr sz_b1)
  refine own_on (B := T10.setTop (mkF m 95 #[iv (3 : Int32), iv p1, iv p2, iv p3, iv p4, rv b1] [])) (fun tz kz => st10 _ kz) ?_
  obtain ⟨T12, h12, X12, e12, E12, A12, D12, -, st12⟩ := newO X10 hx hZ hown (own_w hw 6 rfl) (own_w hw 7 rfl) (own_w hw 8 rfl) e10 (g := (mkF m 95 #[iv (3 : Int32), iv p1, iv p2, iv p3, iv p4, rv b1] [])) rfl (hb hby own_d1_95) (by decide) (by decide)
  obtain ⟨b12, g12⟩ : ∃ z, z = h10.size := ⟨_, rfl⟩
  rw [← g12] at A12 D12 st12
  have ne_b1_b12 : b1 ≠ b12 := Nat.ne_of_lt (Nat.lt_of_lt_of_le (V10).lt (Nat.le_of_eq g12.symm))
  have g_b12 : n0 ≤ b12 := Nat.le_trans (own_old O11) (Nat.le_of_eq g12.symm)
  have sz_b12 : h0.size ≤ b12 := Nat.le_trans K11.1 (Nat.le_of_eq g12.symm)
  have O13 := O11.ext E12
  have K13 : Keep h0 h12 [] := K11.ext E12
  have F12_value : Fld Z h12 b12 "java/lang/String" "value" "[B" .null := D12 (Or.inr (own_w hw 22 rfl)) (ty := (.array .byte)) (by decide)
  have F12_coder : Fld Z h12 b12 "java/lang/String" "coder" "B" (.int (0 : Int32)) := D12 (Or.inr (own_w hw 23 rfl)) (ty := .byte) (by decide)
  refine own_on (B := T12.setTop (mkF m 98 #[iv (3 : Int32), iv p1, iv p2, iv p3, iv p4, rv b1] [(.ref b12)])) (fun tz kz => st12 _ kz) ?_
  have f_14 := (V10.ext E12)
  refine own_on (B := T12.setTop (mkF m 101 #[iv (3 : Int32), iv p1, iv p2, iv p3, iv p4, rv b1] [(.ref b1), (.ref b12), (.ref b12)])) (fun tz kz => ?_) ?_
  · show sT p e below T12 (mkF m 98 #[iv (3 : Int32), iv p1, iv p2, iv p3, iv p4, rv b1] [(.ref b12)]) tz
    refine XS.dup X12.here hx rfl (hb hby own_d1_98) rfl rfl ?_
    show sT p e below T12 (mkF m 99 #[iv (3 : Int32), iv p1, iv p2, iv p3, iv p4, rv b1] [(.ref b12), (.ref b12)]) tz
    refine XS.aload X12.here hx rfl (hb hby own_d1_99) rfl rfl ?_
    exact kz
  obtain ⟨_, _, ⟨T15, L15, k15, n15⟩, -, X15, ⟨Lc15, hQ15, l15, y15, z15⟩, st15⟩ := X12.specialBack hx (y := (⟨"java/lang/String", "<init>", "([C)V"⟩ : MethodName)) rfl hown (mvT hZ (own_w hw 10 rfl)) (mvT hZ (own_w hw 11 rfl)) (mvT hZ (own_w hw 12 rfl)) (by decide) (backOf (W := 1) (rm2c l Z a0 hw [] b12 b1 cS k1 (nar .char p1) (nar .char p2) (nar .char p3) h12 n0 O13 A12 g_b12 F12_value F12_coder S_cs hcS S_as S_hi S_lo f_14 (own_chB _).1 (own_chB _).2 (own_chB _).1 (own_chB _).2 (own_chB _).1 (own_chB _).2) hZ (own_w hw 12 rfl) (own_w hw 8 rfl) (by decide) (by decide)) (g := (mkF m 101 #[iv (3 : Int32), iv p1, iv p2, iv p3, iv p4, rv b1] [(.ref b1), (.ref b12), (.ref b12)])) rfl (by rw [hml]; rfl) (Steps.refl _) (a := b12) (argsL := [(.ref b1)]) (rest := [(.ref b12)]) (lenOf own_pd8 rfl) rfl (by show 2 * 0 + _ ≤ _; exact Nat.le_of_eq rfl) (hb hby own_d1_101) (fun _ _ => ⟨rfl, e12, (by decide : 2 + 2 ≤ _), (by decide : 7 + 9 ≤ _)⟩)
  dsimp only [Pt.U, Pt.locs, Pt.cells, Pt.slots] at X15 l15 y15 z15 st15 hQ15
  subst l15 y15 z15
  obtain ⟨b15, ln15, cd15, rfl, Nq15, Kq15, Fv15, Fc15, Vb15, LC15⟩ := hQ15
  have N15 := Fr.app N10 Nq15
  have O16 := O13.keep Kq15 (allS g_b12 all0)
  have K16 : Keep h0 T15.heap [] := K13.trans Kq15 (allS (Or.inr sz_b12) all0)
  refine own_on (B := T15.setTop (mkF m 104 #[iv (3 : Int32), iv p1, iv p2, iv p3, iv p4, rv b1] [(.ref b12)])) (fun tz kz => st15.trans kz) ?_
  have f_17 := (A12.keep Kq15)
  obtain ⟨fs, hr, hrun, hended, hW, hsame⟩ := X15.leave (v := some (.ref b12)) (fun h => by rw [Bd.returns] at h; cases h)
  refine own_of ⟨_, _, ?_, hrun, hended, _, _, rfl, ?_, ⟨_, rfl⟩, hW, hsame.mono (by decide) (by decide)⟩
  · show sT p e below T15 (mkF m 104 #[iv (3 : Int32), iv p1, iv p2, iv p3, iv p4, rv b1] [(.ref b12)]) _
    exact own_retV X15 hx Bd.returns rfl rfl (hb hby own_d1_104) hr
  · show Q1c Z p1 p2 p3 p4 cS h0 n0 _ T15.heap _
    exact ⟨b12, b15, ln15, cd15, rfl, N15, K16, sz_b12, f_17, Fv15, Fc15, Vb15, LC15⟩
theorem own_ef_1d (m : MethodId) (x0 : Int32) (x1 : Int32) (x2 : Int32) (x3 : Int32) (x4 : Int32) : entryFrame m #[(.int x0), (.int x1), (.int x2), (.int x3), (.int x4)] 6 = mkF m 0 #[iv x0, iv x1, iv x2, iv x3, iv x4, .unset] [] := by first | (simp [entryFrame, mkF, argsToLocals, Value.category]; done) | rfl
def Q1d (Z : State) (p1 : Int32) (p2 : Int32) (p3 : Int32) (p4 : Int32) (cS : Int32) (h0 : Heap) (n0 : Nat) (v : Option Value) (h : Heap) (L : List Loc) : Prop := ∃ (d b : Addr) (ln cd : Int32), v = some (.ref d) ∧ Fr n0 L ∧ Keep h0 h [] ∧ h0.size ≤ d ∧ Exa Z h d "java/lang/String" ∧ Fld Z h d "java/lang/String" "value" "[B" (.ref b) ∧ Fld Z h d "java/lang/String" "coder" "B" (.int cd) ∧ OwnArz Z h b .byte ln ∧ OwnLC (4 : Int32) ln cd
theorem own_d1_105 : decode method_2_code 105 = .ok (.iconst 4, 1) := by decide +kernel
theorem own_d1_106 : decode method_2_code 106 = .ok (.newarray .char, 2) := by decide +kernel
theorem own_d1_108 : decode method_2_code 108 = .ok (.astore 5, 2) := by decide +kernel
theorem own_d1_110 : decode method_2_code 110 = .ok (.aload 5, 2) := by decide +kernel
theorem own_d1_112 : decode method_2_code 112 = .ok (.iconst 0, 1) := by decide +kernel
theorem own_d1_113 : decode method_2_code 113 = .ok (.iload_n 1, 1) := by decide +kernel
theorem own_d1_114 : decode method_2_code 114 = .ok (.castore, 1) := by decide +kernel
theorem own_d1_115 : decode method_2_code 115 = .ok (.aload 5, 2) := by decide +kernel
theorem own_d1_117 : decode method_2_code 117 = .ok (.iconst 1, 1) := by decide +kernel
theorem own_d1_118 : decode method_2_code 118 = .ok (.iload_n 2, 1) := by decide +kernel
theorem own_d1_119 : decode method_2_code 119 = .ok (.castore, 1) := by decide +kernel
theorem own_d1_120 : decode method_2_code 120 = .ok (.aload 5, 2) := by decide +kernel
theorem own_d1_122 : decode method_2_code 122 = .ok (.iconst 2, 1) := by decide +kernel
theorem own_d1_123 : decode method_2_code 123 = .ok (.iload_n 3, 1) := by decide +kernel
theorem own_d1_124 : decode method_2_code 124 = .ok (.castore, 1) := by decide +kernel
theorem own_d1_125 : decode method_2_code 125 = .ok (.aload 5, 2) := by decide +kernel
theorem own_d1_127 : decode method_2_code 127 = .ok (.iconst 3, 1) := by decide +kernel
theorem own_d1_128 : decode method_2_code 128 = .ok (.iload 4, 2) := by decide +kernel
theorem own_d1_130 : decode method_2_code 130 = .ok (.castore, 1) := by decide +kernel
theorem own_d1_131 : decode method_2_code 131 = .ok (.new 7, 3) := by decide +kernel
theorem own_d1_134 : decode method_2_code 134 = .ok (.dup, 1) := by decide +kernel
theorem own_d1_135 : decode method_2_code 135 = .ok (.aload 5, 2) := by decide +kernel
theorem own_d1_137 : decode method_2_code 137 = .ok (.invokespecial 9, 3) := by decide +kernel
theorem own_d1_140 : decode method_2_code 140 = .ok (.areturn, 1) := by decide +kernel
set_option maxRecDepth 65536 in
set_option maxHeartbeats 40000000 in
theorem rm1d (l : Launch) (Z : State) (a0 : Array Value) (hw : ∀ d ∈ tables_1, d.before a0 Z = true) (ws : List Jvm.Cond) (p1 : Int32) (p2 : Int32) (p3 : Int32) (p4 : Int32) (cS : Int32) (h0 : Heap) (n0 : Nat) (O0 : Old Z n0 h0) (S_cs : Sta Z Z.heap "java/lang/String" "COMPACT_STRINGS" "Z" (.int cS)) (hcS : ¬ (cS = (0 : Int32))) (S_as : Sta Z Z.heap "java/lang/StringUTF16" "$assertionsDisabled" "Z" (.int 1)) (S_hi : Sta Z Z.heap "java/lang/StringUTF16" "HI_BYTE_SHIFT" "I" (.int 0)) (S_lo : Sta Z Z.heap "java/lang/StringUTF16" "LO_BYTE_SHIFT" "I" (.int 8)) (hheld : Jvm.Lit.constHeld Z "java/lang/String" 7) (hcw : Jvm.Lit.compactW.before a0 Z = true) :
    MetFree l (⟨"com/example/firm_gate/firmgate/TokenDecisionAcceptPinLaw", "make", "(ICCCC)Ljava/lang/String;"⟩ : MethodName) (head1 (Jvm.Cond.code (⟨"com/example/firm_gate/firmgate/TokenDecisionAcceptPinLaw", "make", "(ICCCC)Ljava/lang/String;"⟩ : MethodName) method_2_code 6 (some (.object "java/lang/String")) :: ws) ({ frames := 6, cells := 4, slots := 20, locals := 96 } : Room)) (fun a U => a = #[(.int (4 : Int32)), (.int p1), (.int p2), (.int p3), (.int p4)] ∧ Z.Warmed39 U.vm ∧ U.heap = h0) (fun _ _ _ _ _ => True) (fun _ U o U' => ∃ v L, o = .returned v ∧ Q1d Z p1 p2 p3 p4 cS h0 n0 v U'.heap L ∧ FrameEnd U o U' L ({ frames := 6, cells := 4, slots := 20, locals := 96 } : Room).cells ({ frames := 6, cells := 4, slots := 20, locals := 96 } : Room).slots) := by
  refine MetFree.of_bodySF (plainFor_of_name own_pn_com_example_firm_gate_firmgate_TokenDecisionAcceptPinLaw) hisR ?_
  intro p e s m args below meth c s₁ Bd hml0 hP hK
  obtain ⟨rfl, hZ, hh⟩ := hP
  have hx := Bd.exec
  have hby := Bd.bytes
  have hml : c.maxLocals = 6 := hml0
  have hown : s.vm.findClass "com/example/firm_gate/firmgate/TokenDecisionAcceptPinLaw" = some m.cls := findClass_of_methodNamed Bd.named
  have hnm := (name_of_methodNamed Bd.named Bd.method).1
  have X0 : Stand p l e ({ frames := 6, cells := 4, slots := 20, locals := 96 } : Room) s m #[(.int (4 : Int32)), (.int p1), (.int p2), (.int p3), (.int p4)] below meth c s₁ [] 0 0 := Stand.of_body Bd
  have e0 : s₁.heap = h0 := by rw [← hh, Bd.state]; rfl
  have N0 := Fr.nil n0
  change Go p.tables e below _ _
  refine own_on (B := s₁.setTop (mkF m 0 #[iv (4 : Int32), iv p1, iv p2, iv p3, iv p4, .unset] [])) (fun tz kz => castTop (own_ef_1d m (4 : Int32) p1 p2 p3 p4) kz) ?_
  refine own_on (B := s₁.setTop (mkF m 106 #[iv (4 : Int32), iv p1, iv p2, iv p3, iv p4, .unset] [(.int (4 : Int32))])) (fun tz kz => ?_) ?_
  · show sT p e below s₁ (mkF m 0 #[iv (4 : Int32), iv p1, iv p2, iv p3, iv p4, .unset] []) tz
    refine XS.iloadN X0.here hx rfl (hb hby own_d1_0) rfl ?_
    show sT p e below s₁ (mkF m 1 #[iv (4 : Int32), iv p1, iv p2, iv p3, iv p4, .unset] [(.int (4 : Int32))]) tz
    refine XS.ifYes X0.here hx rfl (pc0 := 1) (pc' := 15) rfl (hb hby own_d1_1) rfl ((if0 _ _).trans (feq (by decide : ¬ ((4 : Int32) = (0 : Int32)))).2) (by decide) (by decide) ?_
    show sT p e below s₁ (mkF m 15 #[iv (4 : Int32), iv p1, iv p2, iv p3, iv p4, .unset] []) tz
    refine XS.iloadN X0.here hx rfl (hb hby own_d1_15) rfl ?_
    show sT p e below s₁ (mkF m 16 #[iv (4 : Int32), iv p1, iv p2, iv p3, iv p4, .unset] [(.int (4 : Int32))]) tz
    refine XS.iconst X0.here hx rfl (hb hby own_d1_16) ?_
    show sT p e below s₁ (mkF m 17 #[iv (4 : Int32), iv p1, iv p2, iv p3, iv p4, .unset] [(.int (1 : Int32)), (.int (4 : Int32))]) tz
    refine XS.icmpYes X0.here hx rfl (pc0 := 17) (pc' := 40) rfl (hb hby own_d1_17) rfl (feq (by decide : ¬ ((4 : Int32) = (1 : Int32)))).2 (by decide) (by decide) ?_
    show sT p e below s₁ (mkF m 40 #[iv (4 : Int32), iv p1, iv p2, iv p3, iv p4, .unset] []) tz
    refine XS.iloadN X0.here hx rfl (hb hby own_d1_40) rfl ?_
    show sT p e below s₁ (mkF m 41 #[iv (4 : Int32), iv p1, iv p2, iv p3, iv p4, .unset] [(.int (4 : Int32))]) tz
    refine XS.iconst X0.here hx rfl (hb hby own_d1_41) ?_
    show sT p e below s₁ (mkF m 42 #[iv (4 : Int32), iv p1, iv p2, iv p3, iv p4, .unset] [(.int (2 : Int32)), (.int (4 : Int32))]) tz
    refine XS.icmpYes X0.here hx rfl (pc0 := 42) (pc' := 70) rfl (hb hby own_d1_42) rfl (feq (by decide : ¬ ((4 : Int32) = (2 : Int32)))).2 (by decide) (by decide) ?_
    show sT p e below s₁ (mkF m 70 #[iv (4 : Int32), iv p1, iv p2, iv p3, iv p4, .unset] []) tz
    refine XS.iloadN X0.here hx rfl (hb hby own_d1_70) rfl ?_
    show sT p e below s₁ (mkF m 71 #[iv (4 : Int32), iv p1, iv p2, iv p3, iv p4, .unset] [(.int (4 : Int32))]) tz
    refine XS.iconst X0.here hx rfl (hb hby own_d1_71) ?_
    show sT p e below s₁ (mkF m 72 #[iv (4 : Int32), iv p1, iv p2, iv p3, iv p4, .unset] [(.int (3 : Int32)), (.int (4 : Int32))]) tz
    refine XS.icmpYes X0.here hx rfl (pc0 := 72) (pc' := 105) rfl (hb hby own_d1_72) rfl (feq (by decide : ¬ ((4 : Int32) = (3 : Int32)))).2 (by decide) (by decide) ?_
    show sT p e below s₁ (mkF m 105 #[iv (4 : Int32), iv p1, iv p2, iv p3, iv p4, .unset] []) tz
    refine XS.iconst X0.here hx rfl (hb hby own_d1_105) ?_
    exact kz
  obtain ⟨T1, h1, k1, X1, e1, E1, A1, st1⟩ := newP X0 hx hZ (own_w hw 9 rfl) e0 (g := (mkF m 106 #[iv (4 : Int32), iv p1, iv p2, iv p3, iv p4, .unset] [(.int (4 : Int32))])) rfl (hb hby own_d1_106) rfl (by decide) (cap := 4) (by decide) (by decide) (by decide) (by decide)
  obtain ⟨b1, g1⟩ : ∃ z, z = h0.size := ⟨_, rfl⟩
  rw [← g1] at A1 st1
  have g_b1 : n0 ≤ b1 := Nat.le_trans (own_old O0) (Nat.le_of_eq g1.symm)
  have sz_b1 : h0.size ≤ b1 := Nat.le_trans (Keep.refl h0 []).1 (Nat.le_of_eq g1.symm)
  have O2 := O0.ext E1
  have K2 : Keep h0 h1 [] := (Keep.refl h0 []).ext E1
  have V1 : Arv Z h1 b1 k1 .char (4 : Int32) [(.int (0 : Int32)), (.int (0 : Int32)), (.int (0 : Int32)), (.int (0 : Int32))] (.int (0 : Int32)) := (Arv.new A1 (by decide)).pad (pad_rep [] (.int (0 : Int32)) 4)
  refine own_on (B := T1.setTop (mkF m 108 #[iv (4 : Int32), iv p1, iv p2, iv p3, iv p4, .unset] [(.ref b1)])) (fun tz kz => st1 _ kz) ?_
  refine own_on (B := T1.setTop (mkF m 114 #[iv (4 : Int32), iv p1, iv p2, iv p3, iv p4, rv b1] [(.int p1), (.int (0 : Int32)), (.ref b1)])) (fun tz kz => ?_) ?_
  · show sT p e below T1 (mkF m 108 #[iv (4 : Int32), iv p1, iv p2, iv p3, iv p4, .unset] [(.ref b1)]) tz
    refine XS.astore X1.here hx rfl (hb hby own_d1_108) rfl rfl (l' := #[iv (4 : Int32), iv p1, iv p2, iv p3, iv p4, rv b1]) rfl ?_
    show sT p e below T1 (mkF m 110 #[iv (4 : Int32), iv p1, iv p2, iv p3, iv p4, rv b1] []) tz
    refine XS.aload X1.here hx rfl (hb hby own_d1_110) rfl rfl ?_
    show sT p e below T1 (mkF m 112 #[iv (4 : Int32), iv p1, iv p2, iv p3, iv p4, rv b1] [(.ref b1)]) tz
    refine XS.iconst X1.here hx rfl (hb hby own_d1_112) ?_
    show sT p e below T1 (mkF m 113 #[iv (4 : Int32), iv p1, iv p2, iv p3, iv p4, rv b1] [(.int (0 : Int32)), (.ref b1)]) tz
    refine XS.iloadN X1.here hx rfl (hb hby own_d1_113) rfl ?_
    exact kz
  obtain ⟨cl3, Ar3, q3, S3, M3, H3, G3⟩ := id V1
  have hin4 : ¬ ((0 : Int32) < 0 ∨ cl3.slots.size ≤ ((0 : Int32)).toNatClampNeg) := inb_of S3 ⟨by decide, by decide⟩
  obtain ⟨T4, h4, X4, e4, W4, st4⟩ := stC X1 hx hZ e1 Ar3 (j := (0 : Int32)) hin4 (g := (mkF m 114 #[iv (4 : Int32), iv p1, iv p2, iv p3, iv p4, rv b1] [(.int p1), (.int (0 : Int32)), (.ref b1)])) rfl rfl (hb hby own_d1_114)
  have V4 : Arv Z h4 b1 k1 .char (4 : Int32) [(.int (nar .char p1)), (.int (0 : Int32)), (.int (0 : Int32)), (.int (0 : Int32))] (.int (0 : Int32)) := Arv.set Ar3 q3 S3 M3 H3 G3 (fits_nar_char _) W4 0 rfl (Nat.le_of_ble_eq_true rfl)
  have N4 := Fr.snoc X4 N0 g_b1
  have O5 := O2.wr W4 g_b1
  have K5 : Keep h0 h4 [] := K2.wr W4 (Or.inr sz_b1)
  refine own_on (B := T4.setTop (mkF m 115 #[iv (4 : Int32), iv p1, iv p2, iv p3, iv p4, rv b1] [])) (fun tz kz => st4 _ kz) ?_
  refine own_on (B := T4.setTop (mkF m 119 #[iv (4 : Int32), iv p1, iv p2, iv p3, iv p4, rv b1] [(.int p2), (.int (1 : Int32)), (.ref b1)])) (fun tz kz => ?_) ?_
  · show sT p e below T4 (mkF m 115 #[iv (4 : Int32), iv p1, iv p2, iv p3, iv p4, rv b1] []) tz
    refine XS.aload X4.here hx rfl (hb hby own_d1_115) rfl rfl ?_
    show sT p e below T4 (mkF m 117 #[iv (4 : Int32), iv p1, iv p2, iv p3, iv p4, rv b1] [(.ref b1)]) tz
    refine XS.iconst X4.here hx rfl (hb hby own_d1_117) ?_
    show sT p e below T4 (mkF m 118 #[iv (4 : Int32), iv p1, iv p2, iv p3, iv p4, rv b1] [(.int (1 : Int32)), (.ref b1)]) tz
    refine XS.iloadN X4.here hx rfl (hb hby own_d1_118) rfl ?_
    exact kz
  obtain ⟨cl6, Ar6, q6, S6, M6, H6, G6⟩ := id V4
  have hin7 : ¬ ((1 : Int32) < 0 ∨ cl6.slots.size ≤ ((1 : Int32)).toNatClampNeg) := inb_of S6 ⟨by decide, by decide⟩
  obtain ⟨T7, h7, X7, e7, W7, st7⟩ := stC X4 hx hZ e4 Ar6 (j := (1 : Int32)) hin7 (g := (mkF m 119 #[iv (4 : Int32), iv p1, iv p2, iv p3, iv p4, rv b1] [(.int p2), (.int (1 : Int32)), (.ref b1)])) rfl rfl (hb hby own_d1_119)
  have V7 : Arv Z h7 b1 k1 .char (4 : Int32) [(.int (nar .char p1)), (.int (nar .char p2)), (.int (0 : Int32)), (.int (0 : Int32))] (.int (0 : Int32)) := Arv.set Ar6 q6 S6 M6 H6 G6 (fits_nar_char _) W7 1 rfl (Nat.le_of_ble_eq_true rfl)
  have N7 := Fr.snoc X7 N4 g_b1
  have O8 := O5.wr W7 g_b1
  have K8 : Keep h0 h7 [] := K5.wr W7 (Or.inr sz_b1)
  refine own_on (B := T7.setTop (mkF m 120 #[iv (4 : Int32), iv p1, iv p2, iv p3, iv p4, rv b1] [])) (fun tz kz => st7 _ kz) ?_
  refine own_on (B := T7.setTop (mkF m 124 #[iv (4 : Int32), iv p1, iv p2, iv p3, iv p4, rv b1] [(.int p3), (.int (2 : Int32)), (.ref b1)])) (fun tz kz => ?_) ?_
  · show sT p e below T7 (mkF m 120 #[iv (4 : Int32), iv p1, iv p2, iv p3, iv p4, rv b1] []) tz
    refine XS.aload X7.here hx rfl (hb hby own_d1_120) rfl rfl ?_
    show sT p e below T7 (mkF m 122 #[iv (4 : Int32), iv p1, iv p2, iv p3, iv p4, rv b1] [(.ref b1)]) tz
    refine XS.iconst X7.here hx rfl (hb hby own_d1_122) ?_
    show sT p e below T7 (mkF m 123 #[iv (4 : Int32), iv p1, iv p2, iv p3, iv p4, rv b1] [(.int (2 : Int32)), (.ref b1)]) tz
    refine XS.iloadN X7.here hx rfl (hb hby own_d1_123) rfl ?_
    exact kz
  obtain ⟨cl9, Ar9, q9, S9, M9, H9, G9⟩ := id V7
  have hin10 : ¬ ((2 : Int32) < 0 ∨ cl9.slots.size ≤ ((2 : Int32)).toNatClampNeg) := inb_of S9 ⟨by decide, by decide⟩
  obtain ⟨T10, h10, X10, e10, W10, st10⟩ := stC X7 hx hZ e7 Ar9 (j := (2 : Int32)) hin10 (g := (mkF m 124 #[iv (4 : Int32), iv p1, iv p2, iv p3, iv p4, rv b1] [(.int p3), (.int (2 : Int32)), (.ref b1)])) rfl rfl (hb hby own_d1_124)
  have V10 : Arv Z h10 b1 k1 .char (4 : Int32) [(.int (nar .char p1)), (.int (nar .char p2)), (.int (nar .char p3)), (.int (0 : Int32))] (.int (0 : Int32)) := Arv.set Ar9 q9 S9 M9 H9 G9 (fits_nar_char _) W10 2 rfl (Nat.le_of_ble_eq_true rfl)
  have N10 := Fr.snoc X10 N7 g_b1
  have O11 := O8.wr W10 g_b1
  have K11 : Keep h0 h10 [] := K8.wr W10 (Or.inr sz_b1)
  refine own_on (B := T10.setTop (mkF m 125 #[iv (4 : Int32), iv p1, iv p2, iv p3, iv p4, rv b1] [])) (fun tz kz => st10 _ kz) ?_
  refine own_on (B := T10.setTop (mkF m 130 #[iv (4 : Int32), iv p1, iv p2, iv p3, iv p4, rv b1] [(.int p4), (.int (3 : Int32)), (.ref b1)])) (fun tz kz => ?_) ?_
  · show sT p e below T10 (mkF m 125 #[iv (4 : Int32), iv p1, iv p2, iv p3, iv p4, rv b1] []) tz
    refine XS.aload X10.here hx rfl (hb hby own_d1_125) rfl rfl ?_
    show sT p e below T10 (mkF m 127 #[iv (4 : Int32), iv p1, iv p2, iv p3, iv p4, rv b1] [(.ref b1)]) tz
    refine XS.iconst X10.here hx rfl (hb hby own_d1_127) ?_
    show sT p e below T10 (mkF m 128 #[iv (4 : Int32), iv p1, iv p2, iv p3, iv p4, rv b1] [(.int (3 : Int32)), (.ref b1)]) tz
    refine XS.iload X10.here hx rfl (hb hby own_d1_128) rfl ?_
    exact kz
  obtain ⟨cl12, Ar12, q12, S12, M12, H12, G12⟩ := id V10
  have hin13 : ¬ ((3 : Int32) < 0 ∨ cl12.slots.size ≤ ((3 : Int32)).toNatClampNeg) := inb_of S12 ⟨by decide, by decide⟩
  obtain ⟨T13, h13, X13, e13, W13, st13⟩ := stC X10 hx hZ e10 Ar12 (j := (3 : Int32)) hin13 (g := (mkF m 130 #[iv (4 : Int32), iv p1, iv p2, iv p3, iv p4, rv b1] [(.int p4), (.int (3 : Int32)), (.ref b1)])) rfl rfl (hb hby own_d1_130)
  have V13 : Arv Z h13 b1 k1 .char (4 : Int32) [(.int (nar .char p1)), (.int (nar .char p2)), (.int (nar .char p3)), (.int (nar .char p4))] (.int (0 : Int32)) := Arv.set Ar12 q12 S12 M12 H12 G12 (fits_nar_char _) W13 3 rfl (Nat.le_of_ble_eq_true rfl)
  have N13 := Fr.snoc X13 N10 g_b1
  have O14 := O11.wr W13 g_b1
  have K14 : Keep h0 h13 [] := K11.wr W13 (Or.inr sz_b1)
  refine own_on (B := T13.setTop (mkF m 131 #[iv (4 : Int32), iv p1, iv p2, iv p3, iv p4, rv b1] [])) (fun tz kz => st13 _ kz) ?_
  obtain ⟨T15, h15, X15, e15, E15, A15, D15, -, st15⟩ := newO X13 hx hZ hown (own_w hw 6 rfl) (own_w hw 7 rfl) (own_w hw 8 rfl) e13 (g := (mkF m 131 #[iv (4 : Int32), iv p1, iv p2, iv p3, iv p4, rv b1] [])) rfl (hb hby own_d1_131) (by decide) (by decide)
  obtain ⟨b15, g15⟩ : ∃ z, z = h13.size := ⟨_, rfl⟩
  rw [← g15] at A15 D15 st15
  have ne_b1_b15 : b1 ≠ b15 := Nat.ne_of_lt (Nat.lt_of_lt_of_le (V13).lt (Nat.le_of_eq g15.symm))
  have g_b15 : n0 ≤ b15 := Nat.le_trans (own_old O14) (Nat.le_of_eq g15.symm)
  have sz_b15 : h0.size ≤ b15 := Nat.le_trans K14.1 (Nat.le_of_eq g15.symm)
  have O16 := O14.ext E15
  have K16 : Keep h0 h15 [] := K14.ext E15
  have F15_value : Fld Z h15 b15 "java/lang/String" "value" "[B" .null := D15 (Or.inr (own_w hw 22 rfl)) (ty := (.array .byte)) (by decide)
  have F15_coder : Fld Z h15 b15 "java/lang/String" "coder" "B" (.int (0 : Int32)) := D15 (Or.inr (own_w hw 23 rfl)) (ty := .byte) (by decide)
  refine own_on (B := T15.setTop (mkF m 134 #[iv (4 : Int32), iv p1, iv p2, iv p3, iv p4, rv b1] [(.ref b15)])) (fun tz kz => st15 _ kz) ?_
  have f_17 := (V13.ext E15)
  refine own_on (B := T15.setTop (mkF m 137 #[iv (4 : Int32), iv p1, iv p2, iv p3, iv p4, rv b1] [(.ref b1), (.ref b15), (.ref b15)])) (fun tz kz => ?_) ?_
  · show sT p e below T15 (mkF m 134 #[iv (4 : Int32), iv p1, iv p2, iv p3, iv p4, rv b1] [(.ref b15)]) tz
    refine XS.dup X15.here hx rfl (hb hby own_d1_134) rfl rfl ?_
    show sT p e below T15 (mkF m 135 #[iv (4 : Int32), iv p1, iv p2, iv p3, iv p4, rv b1] [(.ref b15), (.ref b15)]) tz
    refine XS.aload X15.here hx rfl (hb hby own_d1_135) rfl rfl ?_
    exact kz
  obtain ⟨_, _, ⟨T18, L18, k18, n18⟩, -, X18, ⟨Lc18, hQ18, l18, y18, z18⟩, st18⟩ := X15.specialBack hx (y := (⟨"java/lang/String", "<init>", "([C)V"⟩ : MethodName)) rfl hown (mvT hZ (own_w hw 10 rfl)) (mvT hZ (own_w hw 11 rfl)) (mvT hZ (own_w hw 12 rfl)) (by decide) (backOf (W := 1) (rm2d l Z a0 hw [] b15 b1 cS k1 (nar .char p1) (nar .char p2) (nar .char p3) (nar .char p4) h15 n0 O16 A15 g_b15 F15_value F15_coder S_cs hcS S_as S_hi S_lo f_17 (own_chB _).1 (own_chB _).2 (own_chB _).1 (own_chB _).2 (own_chB _).1 (own_chB _).2 (own_chB _).1 (own_chB _).2) hZ (own_w hw 12 rfl) (own_w hw 8 rfl) (by decide) (by decide)) (g := (mkF m 137 #[iv (4 : Int32), iv p1, iv p2, iv p3, iv p4, rv b1] [(.ref b1), (.ref b15), (.ref b15)])) rfl (by rw [hml]; rfl) (Steps.refl _) (a := b15) (argsL := [(.ref b1)]) (rest := [(.ref b15)]) (lenOf own_pd8 rfl) rfl (by show 2 * 0 + _ ≤ _; exact Nat.le_of_eq rfl) (hb hby own_d1_137) (fun _ _ => ⟨rfl, e15, (by decide : 2 + 2 ≤ _), (by decide : 8 + 12 ≤ _)⟩)
  dsimp only [Pt.U, Pt.locs, Pt.cells, Pt.slots] at X18 l18 y18 z18 st18 hQ18
  subst l18 y18 z18
  obtain ⟨b18, ln18, cd18, rfl, Nq18, Kq18, Fv18, Fc18, Vb18, LC18⟩ := hQ18
  have N18 := Fr.app N13 Nq18
  have O19 := O16.keep Kq18 (allS g_b15 all0)
  have K19 : Keep h0 T18.heap [] := K16.trans Kq18 (allS (Or.inr sz_b15) all0)
  refine own_on (B := T18.setTop (mkF m 140 #[iv (4 : Int32), iv p1, iv p2, iv p3, iv p4, rv b1] [(.ref b15)])) (fun tz kz => st18.trans kz) ?_
  have f_20 := (A15.keep Kq18)
  obtain ⟨fs, hr, hrun, hended, hW, hsame⟩ := X18.leave (v := some (.ref b15)) (fun h => by rw [Bd.returns] at h; cases h)
  refine own_of ⟨_, _, ?_, hrun, hended, _, _, rfl, ?_, ⟨_, rfl⟩, hW, hsame.mono (by decide) (by decide)⟩
  · show sT p e below T18 (mkF m 140 #[iv (4 : Int32), iv p1, iv p2, iv p3, iv p4, rv b1] [(.ref b15)]) _
    exact own_retV X18 hx Bd.returns rfl rfl (hb hby own_d1_140) hr
  · show Q1d Z p1 p2 p3 p4 cS h0 n0 _ T18.heap _
    exact ⟨b15, b18, ln18, cd18, rfl, N18, K19, sz_b15, f_20, Fv18, Fc18, Vb18, LC18⟩
theorem own_ef_15 (m : MethodId) (x0 : Addr) : entryFrame m #[(.ref x0)] 1 = mkF m 0 #[rv x0] [] := by first | (simp [entryFrame, mkF, argsToLocals, Value.category]; done) | rfl
def Q15 (Z : State) (u0 : Addr) (cS : Int32) (cd : Int32) (h0 : Heap) (n0 : Nat) (v : Option Value) (h : Heap) (L : List Loc) : Prop := v = some (.int cd) ∧ Fr n0 L ∧ h = h0
theorem own_d15_0 : decode jdk_42_method_152_code 0 = .ok (.getstatic 38, 3) := by decide +kernel
theorem own_d15_3 : decode jdk_42_method_152_code 3 = .ok (.ifCond .eq 10, 3) := by decide +kernel
theorem own_d15_6 : decode jdk_42_method_152_code 6 = .ok (.aload_n 0, 1) := by decide +kernel
theorem own_d15_7 : decode jdk_42_method_152_code 7 = .ok (.getfield 15, 3) := by decide +kernel
theorem own_d15_10 : decode jdk_42_method_152_code 10 = .ok (.goto 4, 3) := by decide +kernel
theorem own_d15_14 : decode jdk_42_method_152_code 14 = .ok (.ireturn, 1) := by decide +kernel
set_option maxRecDepth 65536 in
set_option maxHeartbeats 40000000 in
theorem rm15 (l : Launch) (Z : State) (a0 : Array Value) (hw : ∀ d ∈ tables_1, d.before a0 Z = true) (ws : List Jvm.Cond) (u0 : Addr) (cS : Int32) (cd : Int32) (h0 : Heap) (n0 : Nat) (O0 : Old Z n0 h0) (S_cs : Sta Z Z.heap "java/lang/String" "COMPACT_STRINGS" "Z" (.int cS)) (hcS : ¬ (cS = (0 : Int32))) (Fc : Fld Z h0 u0 "java/lang/String" "coder" "B" (.int cd)) (hcd : nar .byte cd = cd) :
    MetFree l (⟨"java/lang/String", "coder", "()B"⟩ : MethodName) (head1 (Jvm.Cond.code (⟨"java/lang/String", "coder", "()B"⟩ : MethodName) jdk_42_method_152_code 1 (some .byte) :: ws) ({ frames := 0, cells := 0, slots := 0, locals := 0 } : Room)) (fun a U => a = #[(.ref u0)] ∧ Z.Warmed39 U.vm ∧ U.heap = h0) (fun _ _ _ _ _ => True) (fun _ U o U' => ∃ v L, o = .returned v ∧ Q15 Z u0 cS cd h0 n0 v U'.heap L ∧ FrameEnd U o U' L ({ frames := 0, cells := 0, slots := 0, locals := 0 } : Room).cells ({ frames := 0, cells := 0, slots := 0, locals := 0 } : Room).slots) := by
  refine MetFree.of_bodySF (plainFor_of_name own_pn_java_lang_String) hisR ?_
  intro p e s m args below meth c s₁ Bd hml0 hP hK
  obtain ⟨rfl, hZ, hh⟩ := hP
  have hx := Bd.exec
  have hby := Bd.bytes
  have hml : c.maxLocals = 1 := hml0
  have hown : s.vm.findClass "java/lang/String" = some m.cls := findClass_of_methodNamed Bd.named
  have hnm := (name_of_methodNamed Bd.named Bd.method).1
  have X0 : Stand p l e ({ frames := 0, cells := 0, slots := 0, locals := 0 } : Room) s m #[(.ref u0)] below meth c s₁ [] 0 0 := Stand.of_body Bd
  have e0 : s₁.heap = h0 := by rw [← hh, Bd.state]; rfl
  have N0 := Fr.nil n0
  change Go p.tables e below _ _
  refine own_on (B := s₁.setTop (mkF m 0 #[rv u0] [])) (fun tz kz => castTop (own_ef_15 m u0) kz) ?_
  obtain ⟨T1, X1, e1, st1⟩ := getS2 X0 hx hZ hown (host := "") (Or.inl (own_w hw 90 rfl)) Via.refl e0 (S_cs.ext O0.2) (g := (mkF m 0 #[rv u0] [])) rfl (hb hby own_d15_0)
  refine own_on (B := T1.setTop (mkF m 3 #[rv u0] [(.int cS)])) (fun tz kz => st1 _ kz) ?_
  refine own_on (B := T1.setTop (mkF m 7 #[rv u0] [(.ref u0)])) (fun tz kz => ?_) ?_
  · show sT p e below T1 (mkF m 3 #[rv u0] [(.int cS)]) tz
    refine XS.ifNo X1.here hx rfl (hb hby own_d15_3) rfl ((if0 _ _).trans (feq hcS).1) ?_
    show sT p e below T1 (mkF m 6 #[rv u0] []) tz
    refine XS.aloadN X1.here hx rfl (hb hby own_d15_6) rfl rfl ?_
    exact kz
  obtain ⟨T2, X2, e2, st2⟩ := getF X1 hx hZ hown (host := "") (Or.inl (own_w hw 27 rfl)) Via.refl e1 Fc (g := (mkF m 7 #[rv u0] [(.ref u0)])) rfl rfl (hb hby own_d15_7)
  refine own_on (B := T2.setTop (mkF m 10 #[rv u0] [(.int cd)])) (fun tz kz => st2 _ kz) ?_
  refine own_on (B := T2.setTop (mkF m 14 #[rv u0] [(.int cd)])) (fun tz kz => ?_) ?_
  · show sT p e below T2 (mkF m 10 #[rv u0] [(.int cd)]) tz
    refine XS.goto X2.here hx rfl (pc0 := 10) (pc' := 14) rfl (hb hby own_d15_10) (by decide) (by decide) ?_
    exact kz
  obtain ⟨fs, hr, hrun, hended, hW, hsame⟩ := X2.leave (v := some (.int cd)) (fun h => by rw [Bd.returns] at h; cases h)
  refine own_of ⟨_, _, ?_, hrun, hended, _, _, rfl, ?_, ⟨_, rfl⟩, hW, hsame.mono (by decide) (by decide)⟩
  · show sT p e below T2 (mkF m 14 #[rv u0] [(.int cd)]) _
    exact own_retN X2 hx (t := .byte) Bd.returns (by simp) hcd (hb hby own_d15_14) hr
  · show Q15 Z u0 cS cd h0 n0 _ T2.heap _
    rw [e2]
    exact ⟨rfl, N0, rfl⟩
theorem own_ef_14 (m : MethodId) (x0 : Addr) : entryFrame m #[(.ref x0)] 1 = mkF m 0 #[rv x0] [] := by first | (simp [entryFrame, mkF, argsToLocals, Value.category]; done) | rfl
def Q14 (Z : State) (u0 : Addr) (cS : Int32) (bb : Addr) (ln : Int32) (cd : Int32) (rz : Int32) (h0 : Heap) (n0 : Nat) (v : Option Value) (h : Heap) (L : List Loc) : Prop := v = some (.int rz) ∧ Fr n0 L ∧ h = h0
theorem own_d14_0 : decode jdk_42_method_54_code 0 = .ok (.aload_n 0, 1) := by decide +kernel
theorem own_d14_1 : decode jdk_42_method_54_code 1 = .ok (.getfield 9, 3) := by decide +kernel
theorem own_d14_4 : decode jdk_42_method_54_code 4 = .ok (.arraylength, 1) := by decide +kernel
theorem own_d14_5 : decode jdk_42_method_54_code 5 = .ok (.aload_n 0, 1) := by decide +kernel
theorem own_pd9 : parseMethodDescriptor "()B" = some ⟨[], some .byte⟩ := by decide +kernel
theorem own_d14_6 : decode jdk_42_method_54_code 6 = .ok (.invokevirtual 335, 3) := by decide +kernel
theorem own_d14_9 : decode jdk_42_method_54_code 9 = .ok (.ishr, 1) := by decide +kernel
theorem own_d14_10 : decode jdk_42_method_54_code 10 = .ok (.ireturn, 1) := by decide +kernel
set_option maxRecDepth 65536 in
set_option maxHeartbeats 40000000 in
theorem rm14 (l : Launch) (Z : State) (a0 : Array Value) (hw : ∀ d ∈ tables_1, d.before a0 Z = true) (ws : List Jvm.Cond) (u0 : Addr) (cS : Int32) (bb : Addr) (ln : Int32) (cd : Int32) (rz : Int32) (h0 : Heap) (n0 : Nat) (O0 : Old Z n0 h0) (S_cs : Sta Z Z.heap "java/lang/String" "COMPACT_STRINGS" "Z" (.int cS)) (hcS : ¬ (cS = (0 : Int32))) (E_u0 : Exa Z h0 u0 "java/lang/String") (Fv : Fld Z h0 u0 "java/lang/String" "value" "[B" (.ref bb)) (Fc : Fld Z h0 u0 "java/lang/String" "coder" "B" (.int cd)) (Vb : OwnArz Z h0 bb .byte ln) (hcd : nar .byte cd = cd) (hrv : (ln >>> (cd &&& 31)) = rz) :
    MetFree l (⟨"java/lang/String", "length", "()I"⟩ : MethodName) (head1 (Jvm.Cond.code (⟨"java/lang/String", "length", "()I"⟩ : MethodName) jdk_42_method_54_code 1 (some .int) :: ws) ({ frames := 1, cells := 0, slots := 0, locals := 24 } : Room)) (fun a U => a = #[(.ref u0)] ∧ Z.Warmed39 U.vm ∧ U.heap = h0) (fun _ _ _ _ _ => True) (fun _ U o U' => ∃ v L, o = .returned v ∧ Q14 Z u0 cS bb ln cd rz h0 n0 v U'.heap L ∧ FrameEnd U o U' L ({ frames := 1, cells := 0, slots := 0, locals := 24 } : Room).cells ({ frames := 1, cells := 0, slots := 0, locals := 24 } : Room).slots) := by
  refine MetFree.of_bodySF (plainFor_of_name own_pn_java_lang_String) hisR ?_
  intro p e s m args below meth c s₁ Bd hml0 hP hK
  obtain ⟨rfl, hZ, hh⟩ := hP
  have hx := Bd.exec
  have hby := Bd.bytes
  have hml : c.maxLocals = 1 := hml0
  have hown : s.vm.findClass "java/lang/String" = some m.cls := findClass_of_methodNamed Bd.named
  have hnm := (name_of_methodNamed Bd.named Bd.method).1
  have X0 : Stand p l e ({ frames := 1, cells := 0, slots := 0, locals := 24 } : Room) s m #[(.ref u0)] below meth c s₁ [] 0 0 := Stand.of_body Bd
  have e0 : s₁.heap = h0 := by rw [← hh, Bd.state]; rfl
  have N0 := Fr.nil n0
  change Go p.tables e below _ _
  refine own_on (B := s₁.setTop (mkF m 0 #[rv u0] [])) (fun tz kz => castTop (own_ef_14 m u0) kz) ?_
  refine own_on (B := s₁.setTop (mkF m 1 #[rv u0] [(.ref u0)])) (fun tz kz => ?_) ?_
  · show sT p e below s₁ (mkF m 0 #[rv u0] []) tz
    refine XS.aloadN X0.here hx rfl (hb hby own_d14_0) rfl rfl ?_
    exact kz
  obtain ⟨T1, X1, e1, st1⟩ := getF X0 hx hZ hown (host := "") (Or.inl (own_w hw 26 rfl)) Via.refl e0 Fv (g := (mkF m 1 #[rv u0] [(.ref u0)])) rfl rfl (hb hby own_d14_1)
  refine own_on (B := T1.setTop (mkF m 4 #[rv u0] [(.ref bb)])) (fun tz kz => st1 _ kz) ?_
  obtain ⟨cl2, Ar2, S2, M2⟩ := id Vb
  refine own_on (B := T1.setTop (mkF m 6 #[rv u0] [(.ref u0), (.int ln)])) (fun tz kz => ?_) ?_
  · show sT p e below T1 (mkF m 4 #[rv u0] [(.ref bb)]) tz
    refine X1.arraylength hx (by rw [e1]; exact Ar2.1) (State.isArrayOf_alike hZ.alike Ar2.2.1) (g := (mkF m 4 #[rv u0] [(.ref bb)])) rfl rfl (hb hby own_d14_4) _ ?_
    rw [len_of S2 M2]
    show sT p e below T1 (mkF m 5 #[rv u0] [(.int ln)]) tz
    refine XS.aloadN X1.here hx rfl (hb hby own_d14_5) rfl rfl ?_
    exact kz
  obtain ⟨cq3, kq3, q3a, q3b, q3c⟩ := isOf hZ e1 E_u0
  obtain ⟨_, _, ⟨T3, L3, k3, n3⟩, -, X3, ⟨Lc3, hQ3, l3, y3, z3⟩, st3⟩ := X1.virtualBack hx (y := (⟨"java/lang/String", "coder", "()B"⟩ : MethodName)) (z := (⟨"java/lang/String", "coder", "()B"⟩ : MethodName)) hown (mvT hZ (own_w hw 85 rfl)) (mvT hZ (own_w hw 86 rfl)) (notFace_of_selects (args := #[]) (mvT hZ (own_w hw 88 rfl))) (mvT hZ (own_w hw 88 rfl)) (mvT hZ (own_w hw 87 rfl)) (by decide) (backOf (W := 1) (rm15 l Z a0 hw [] u0 cS cd h0 n0 O0 S_cs hcS Fc hcd) hZ (own_w hw 89 rfl) (own_w hw 8 rfl) (by decide) (by decide)) q3a q3c (g := (mkF m 6 #[rv u0] [(.ref u0), (.int ln)])) rfl (by rw [hml]; rfl) (Steps.refl _) (argsL := []) (rest := [(.int ln)]) (lenOf own_pd9 rfl) rfl (by show 2 * 0 + _ ≤ _; exact Nat.le_of_eq rfl) (hb hby own_d14_6) (fun _ _ => ⟨rfl, e1, (by decide : 0 + 0 ≤ _), (by decide : 0 + 0 ≤ _)⟩)
  dsimp only [Pt.U, Pt.locs, Pt.cells, Pt.slots] at X3 l3 y3 z3 st3 hQ3
  subst l3 y3 z3
  obtain ⟨rfl, Nq3, e3⟩ := hQ3
  have N3 := Fr.app N0 Nq3
  refine own_on (B := T3.setTop (mkF m 9 #[rv u0] [(.int cd), (.int ln)])) (fun tz kz => st3.trans kz) ?_
  refine own_on (B := T3.setTop (mkF m 10 #[rv u0] [(.int (ln >>> (cd &&& 31)))])) (fun tz kz => ?_) ?_
  · show sT p e below T3 (mkF m 9 #[rv u0] [(.int cd), (.int ln)]) tz
    refine XS.ishr X3.here hx rfl (hb hby own_d14_9) rfl ?_
    exact kz
  rw [hrv]
  obtain ⟨fs, hr, hrun, hended, hW, hsame⟩ := X3.leave (v := some (.int rz)) (fun h => by rw [Bd.returns] at h; cases h)
  refine own_of ⟨_, _, ?_, hrun, hended, _, _, rfl, ?_, ⟨_, rfl⟩, hW, hsame.mono (by decide) (by decide)⟩
  · show sT p e below T3 (mkF m 10 #[rv u0] [(.int rz)]) _
    exact own_retI X3 hx Bd.returns (hb hby own_d14_10) hr
  · show Q14 Z u0 cS bb ln cd rz h0 n0 _ T3.heap _
    rw [e3]
    exact ⟨rfl, N3, rfl⟩
theorem own_ef_16 (m : MethodId) (x0 : Addr) (x1 : Addr) : entryFrame m #[(.ref x0), (.ref x1)] 3 = mkF m 0 #[rv x0, rv x1, .unset] [] := by first | (simp [entryFrame, mkF, argsToLocals, Value.category]; done) | rfl
def Q16 (Z : State) (u0 : Addr) (h0 : Heap) (n0 : Nat) (v : Option Value) (h : Heap) (L : List Loc) : Prop := v = some (.int 1) ∧ Fr n0 L ∧ h = h0
theorem own_d16_0 : decode jdk_42_method_66_code 0 = .ok (.aload_n 0, 1) := by decide +kernel
theorem own_d16_1 : decode jdk_42_method_66_code 1 = .ok (.aload_n 1, 1) := by decide +kernel
theorem own_d16_2 : decode jdk_42_method_66_code 2 = .ok (.if_acmp .ne 5, 3) := by decide +kernel
theorem own_d16_5 : decode jdk_42_method_66_code 5 = .ok (.iconst 1, 1) := by decide +kernel
theorem own_d16_6 : decode jdk_42_method_66_code 6 = .ok (.ireturn, 1) := by decide +kernel
set_option maxRecDepth 65536 in
set_option maxHeartbeats 40000000 in
theorem rm16 (l : Launch) (Z : State) (a0 : Array Value) (hw : ∀ d ∈ tables_1, d.before a0 Z = true) (ws : List Jvm.Cond) (u0 : Addr) (h0 : Heap) (n0 : Nat) (O0 : Old Z n0 h0) :
    MetFree l (⟨"java/lang/String", "equals", "(Ljava/lang/Object;)Z"⟩ : MethodName) (head1 (Jvm.Cond.code (⟨"java/lang/String", "equals", "(Ljava/lang/Object;)Z"⟩ : MethodName) jdk_42_method_66_code 3 (some .boolean) :: ws) ({ frames := 0, cells := 0, slots := 0, locals := 0 } : Room)) (fun a U => a = #[(.ref u0), (.ref u0)] ∧ Z.Warmed39 U.vm ∧ U.heap = h0) (fun _ _ _ _ _ => True) (fun _ U o U' => ∃ v L, o = .returned v ∧ Q16 Z u0 h0 n0 v U'.heap L ∧ FrameEnd U o U' L ({ frames := 0, cells := 0, slots := 0, locals := 0 } : Room).cells ({ frames := 0, cells := 0, slots := 0, locals := 0 } : Room).slots) := by
  refine MetFree.of_bodySF (plainFor_of_name own_pn_java_lang_String) hisR ?_
  intro p e s m args below meth c s₁ Bd hml0 hP hK
  obtain ⟨rfl, hZ, hh⟩ := hP
  have hx := Bd.exec
  have hby := Bd.bytes
  have hml : c.maxLocals = 3 := hml0
  have hown : s.vm.findClass "java/lang/String" = some m.cls := findClass_of_methodNamed Bd.named
  have hnm := (name_of_methodNamed Bd.named Bd.method).1
  have X0 : Stand p l e ({ frames := 0, cells := 0, slots := 0, locals := 0 } : Room) s m #[(.ref u0), (.ref u0)] below meth c s₁ [] 0 0 := Stand.of_body Bd
  have e0 : s₁.heap = h0 := by rw [← hh, Bd.state]; rfl
  have N0 := Fr.nil n0
  change Go p.tables e below _ _
  refine own_on (B := s₁.setTop (mkF m 0 #[rv u0, rv u0, .unset] [])) (fun tz kz => castTop (own_ef_16 m u0 u0) kz) ?_
  refine own_on (B := s₁.setTop (mkF m 6 #[rv u0, rv u0, .unset] [(.int (1 : Int32))])) (fun tz kz => ?_) ?_
  · show sT p e below s₁ (mkF m 0 #[rv u0, rv u0, .unset] []) tz
    refine XS.aloadN X0.here hx rfl (hb hby own_d16_0) rfl rfl ?_
    show sT p e below s₁ (mkF m 1 #[rv u0, rv u0, .unset] [(.ref u0)]) tz
    refine XS.aloadN X0.here hx rfl (hb hby own_d16_1) rfl rfl ?_
    show sT p e below s₁ (mkF m 2 #[rv u0, rv u0, .unset] [(.ref u0), (.ref u0)]) tz
    refine Jvm.RoadKit.acmp (g := (mkF m 2 #[rv u0, rv u0, .unset] [(.ref u0), (.ref u0)])) X0 hx rfl rfl rfl (pc0 := 2) (pc' := 5) (same := true) rfl (hb hby own_d16_2) rfl (decide_eq_true (congrArg Value.ref rfl)) (by decide) (by decide) ?_
    show sT p e below s₁ (mkF m 5 #[rv u0, rv u0, .unset] []) tz
    refine XS.iconst X0.here hx rfl (hb hby own_d16_5) ?_
    exact kz
  obtain ⟨fs, hr, hrun, hended, hW, hsame⟩ := X0.leave (v := some (.int (1 : Int32))) (fun h => by rw [Bd.returns] at h; cases h)
  refine own_of ⟨_, _, ?_, hrun, hended, _, _, rfl, ?_, ⟨_, rfl⟩, hW, hsame.mono (by decide) (by decide)⟩
  · show sT p e below s₁ (mkF m 6 #[rv u0, rv u0, .unset] [(.int (1 : Int32))]) _
    exact own_retN X0 hx (t := .boolean) Bd.returns (by simp) (by first | rfl | (split <;> first | rfl | (split <;> first | rfl | (split <;> rfl)))) (hb hby own_d16_6) hr
  · show Q16 Z u0 h0 n0 _ s₁.heap _
    rw [e0]
    exact ⟨rfl, N0, rfl⟩
theorem own_pn_java_util_Objects : plainName "java/util/Objects" = true := by first | (simp [plainName, overriddenIn]; done) | decide +kernel
theorem own_ef_6 (m : MethodId) (x0 : Addr) : entryFrame m #[(.ref x0)] 1 = mkF m 0 #[rv x0] [] := by first | (simp [entryFrame, mkF, argsToLocals, Value.category]; done) | rfl
def Q6 (Z : State) (u0 : Addr) (h0 : Heap) (n0 : Nat) (v : Option Value) (h : Heap) (L : List Loc) : Prop := v = some (.ref u0) ∧ Fr n0 L ∧ h = h0
theorem own_d6_0 : decode jdk_31_method_10_code 0 = .ok (.aload_n 0, 1) := by decide +kernel
theorem own_d6_1 : decode jdk_31_method_10_code 1 = .ok (.ifnonnull 11, 3) := by decide +kernel
theorem own_d6_12 : decode jdk_31_method_10_code 12 = .ok (.aload_n 0, 1) := by decide +kernel
theorem own_d6_13 : decode jdk_31_method_10_code 13 = .ok (.areturn, 1) := by decide +kernel
set_option maxRecDepth 65536 in
set_option maxHeartbeats 40000000 in
theorem rm6 (l : Launch) (Z : State) (a0 : Array Value) (hw : ∀ d ∈ tables_1, d.before a0 Z = true) (ws : List Jvm.Cond) (u0 : Addr) (h0 : Heap) (n0 : Nat) (O0 : Old Z n0 h0) :
    MetFree l (⟨"java/util/Objects", "requireNonNull", "(Ljava/lang/Object;)Ljava/lang/Object;"⟩ : MethodName) (head1 (Jvm.Cond.code (⟨"java/util/Objects", "requireNonNull", "(Ljava/lang/Object;)Ljava/lang/Object;"⟩ : MethodName) jdk_31_method_10_code 1 (some (.object "java/lang/Object")) :: ws) ({ frames := 0, cells := 0, slots := 0, locals := 0 } : Room)) (fun a U => a = #[(.ref u0)] ∧ Z.Warmed39 U.vm ∧ U.heap = h0) (fun _ _ _ _ _ => True) (fun _ U o U' => ∃ v L, o = .returned v ∧ Q6 Z u0 h0 n0 v U'.heap L ∧ FrameEnd U o U' L ({ frames := 0, cells := 0, slots := 0, locals := 0 } : Room).cells ({ frames := 0, cells := 0, slots := 0, locals := 0 } : Room).slots) := by
  refine MetFree.of_bodySF (plainFor_of_name own_pn_java_util_Objects) hisR ?_
  intro p e s m args below meth c s₁ Bd hml0 hP hK
  obtain ⟨rfl, hZ, hh⟩ := hP
  have hx := Bd.exec
  have hby := Bd.bytes
  have hml : c.maxLocals = 1 := hml0
  have hown : s.vm.findClass "java/util/Objects" = some m.cls := findClass_of_methodNamed Bd.named
  have hnm := (name_of_methodNamed Bd.named Bd.method).1
  have X0 : Stand p l e ({ frames := 0, cells := 0, slots := 0, locals := 0 } : Room) s m #[(.ref u0)] below meth c s₁ [] 0 0 := Stand.of_body Bd
  have e0 : s₁.heap = h0 := by rw [← hh, Bd.state]; rfl
  have N0 := Fr.nil n0
  change Go p.tables e below _ _
  refine own_on (B := s₁.setTop (mkF m 0 #[rv u0] [])) (fun tz kz => castTop (own_ef_6 m u0) kz) ?_
  refine own_on (B := s₁.setTop (mkF m 13 #[rv u0] [(.ref u0)])) (fun tz kz => ?_) ?_
  · show sT p e below s₁ (mkF m 0 #[rv u0] []) tz
    refine XS.aloadN X0.here hx rfl (hb hby own_d6_0) rfl rfl ?_
    show sT p e below s₁ (mkF m 1 #[rv u0] [(.ref u0)]) tz
    refine XS.ifnonnullYes X0.here hx rfl (pc0 := 1) (pc' := 12) rfl (hb hby own_d6_1) rfl (by decide) (by decide) ?_
    show sT p e below s₁ (mkF m 12 #[rv u0] []) tz
    refine XS.aloadN X0.here hx rfl (hb hby own_d6_12) rfl rfl ?_
    exact kz
  obtain ⟨fs, hr, hrun, hended, hW, hsame⟩ := X0.leave (v := some (.ref u0)) (fun h => by rw [Bd.returns] at h; cases h)
  refine own_of ⟨_, _, ?_, hrun, hended, _, _, rfl, ?_, ⟨_, rfl⟩, hW, hsame.mono (by decide) (by decide)⟩
  · show sT p e below s₁ (mkF m 13 #[rv u0] [(.ref u0)]) _
    exact own_retV X0 hx Bd.returns rfl rfl (hb hby own_d6_13) hr
  · show Q6 Z u0 h0 n0 _ s₁.heap _
    rw [e0]
    exact ⟨rfl, N0, rfl⟩
theorem own_pn_com_example_firm_gate_firmgate_TokenDecision : plainName "com/example/firm_gate/firmgate/TokenDecision" = true := by first | (simp [plainName, overriddenIn]; done) | decide +kernel
theorem own_ef_7 (m : MethodId) (x0 : Addr) (x1 : Addr) : entryFrame m #[(.ref x0), (.ref x1), .null] 3 = mkF m 0 #[rv x0, rv x1, .val .null] [] := by first | (simp [entryFrame, mkF, argsToLocals, Value.category]; done) | rfl
def Q7 (Z : State) (u0 : Addr) (u1 : Addr) (h0 : Heap) (n0 : Nat) (v : Option Value) (h : Heap) (L : List Loc) : Prop := v = none ∧ Fr n0 L ∧ Keep h0 h [u0] ∧ Fld Z h u0 "com/example/firm_gate/firmgate/TokenDecision" "principal" "Ljava/lang/String;" (.ref u1) ∧ Fld Z h u0 "com/example/firm_gate/firmgate/TokenDecision" "reason" "Lcom/example/firm_gate/firmgate/RefusalReason;" .null
theorem own_d7_0 : decode prog_13_method_1_code 0 = .ok (.aload_n 0, 1) := by decide +kernel
theorem own_d7_1 : decode prog_13_method_1_code 1 = .ok (.invokespecial 1, 3) := by decide +kernel
theorem own_d7_4 : decode prog_13_method_1_code 4 = .ok (.aload_n 0, 1) := by decide +kernel
theorem own_d7_5 : decode prog_13_method_1_code 5 = .ok (.aload_n 1, 1) := by decide +kernel
theorem own_d7_6 : decode prog_13_method_1_code 6 = .ok (.putfield 7, 3) := by decide +kernel
theorem own_d7_9 : decode prog_13_method_1_code 9 = .ok (.aload_n 0, 1) := by decide +kernel
theorem own_d7_10 : decode prog_13_method_1_code 10 = .ok (.aload_n 2, 1) := by decide +kernel
theorem own_d7_11 : decode prog_13_method_1_code 11 = .ok (.putfield 13, 3) := by decide +kernel
theorem own_d7_14 : decode prog_13_method_1_code 14 = .ok (.return_, 1) := by decide +kernel
set_option maxRecDepth 65536 in
set_option maxHeartbeats 40000000 in
theorem rm7 (l : Launch) (Z : State) (a0 : Array Value) (hw : ∀ d ∈ tables_1, d.before a0 Z = true) (ws : List Jvm.Cond) (u0 : Addr) (u1 : Addr) (h0 : Heap) (n0 : Nat) (O0 : Old Z n0 h0) (E_u0 : Exa Z h0 u0 "com/example/firm_gate/firmgate/TokenDecision") (g_u0 : n0 ≤ u0) (F_principal : Fld Z h0 u0 "com/example/firm_gate/firmgate/TokenDecision" "principal" "Ljava/lang/String;" .null) (F_reason : Fld Z h0 u0 "com/example/firm_gate/firmgate/TokenDecision" "reason" "Lcom/example/firm_gate/firmgate/RefusalReason;" .null) :
    MetFree l (⟨"com/example/firm_gate/firmgate/TokenDecision", "<init>", "(Ljava/lang/String;Lcom/example/firm_gate/firmgate/RefusalReason;)V"⟩ : MethodName) (head1 (Jvm.Cond.code (⟨"com/example/firm_gate/firmgate/TokenDecision", "<init>", "(Ljava/lang/String;Lcom/example/firm_gate/firmgate/RefusalReason;)V"⟩ : MethodName) prog_13_method_1_code 3 none :: ws) ({ frames := 1, cells := 0, slots := 0, locals := 12 } : Room)) (fun a U => a = #[(.ref u0), (.ref u1), .null] ∧ Z.Warmed39 U.vm ∧ U.heap = h0) (fun _ _ _ _ _ => True) (fun _ U o U' => ∃ v L, o = .returned v ∧ Q7 Z u0 u1 h0 n0 v U'.heap L ∧ FrameEnd U o U' L ({ frames := 1, cells := 0, slots := 0, locals := 12 } : Room).cells ({ frames := 1, cells := 0, slots := 0, locals := 12 } : Room).slots) := by
  refine MetFree.of_bodySF (plainFor_of_name own_pn_com_example_firm_gate_firmgate_TokenDecision) hisR ?_
  intro p e s m args below meth c s₁ Bd hml0 hP hK
  obtain ⟨rfl, hZ, hh⟩ := hP
  have hx := Bd.exec
  have hby := Bd.bytes
  have hml : c.maxLocals = 3 := hml0
  have hown : s.vm.findClass "com/example/firm_gate/firmgate/TokenDecision" = some m.cls := findClass_of_methodNamed Bd.named
  have hnm := (name_of_methodNamed Bd.named Bd.method).1
  have X0 : Stand p l e ({ frames := 1, cells := 0, slots := 0, locals := 12 } : Room) s m #[(.ref u0), (.ref u1), .null] below meth c s₁ [] 0 0 := Stand.of_body Bd
  have e0 : s₁.heap = h0 := by rw [← hh, Bd.state]; rfl
  have N0 := Fr.nil n0
  change Go p.tables e below _ _
  refine own_on (B := s₁.setTop (mkF m 0 #[rv u0, rv u1, .val .null] [])) (fun tz kz => castTop (own_ef_7 m u0 u1) kz) ?_
  refine own_on (B := s₁.setTop (mkF m 1 #[rv u0, rv u1, .val .null] [(.ref u0)])) (fun tz kz => ?_) ?_
  · show sT p e below s₁ (mkF m 0 #[rv u0, rv u1, .val .null] []) tz
    refine XS.aloadN X0.here hx rfl (hb hby own_d7_0) rfl rfl ?_
    exact kz
  obtain ⟨T1, X1, e1, st1⟩ := initO X0 hx hZ hown (own_w hw 42 rfl) (own_w hw 18 rfl) (own_w hw 19 rfl) e0 (g := (mkF m 1 #[rv u0, rv u1, .val .null] [(.ref u0)])) rfl (by rw [hml]; rfl) rfl (hb hby own_d7_1) (by decide) (W := 0) (by show 2 * 0 + _ ≤ _; exact Nat.le_of_eq rfl) (by decide)
  refine own_on (B := T1.setTop (mkF m 4 #[rv u0, rv u1, .val .null] [])) (fun tz kz => st1 _ kz) ?_
  refine own_on (B := T1.setTop (mkF m 6 #[rv u0, rv u1, .val .null] [(.ref u1), (.ref u0)])) (fun tz kz => ?_) ?_
  · show sT p e below T1 (mkF m 4 #[rv u0, rv u1, .val .null] []) tz
    refine XS.aloadN X1.here hx rfl (hb hby own_d7_4) rfl rfl ?_
    show sT p e below T1 (mkF m 5 #[rv u0, rv u1, .val .null] [(.ref u0)]) tz
    refine XS.aloadN X1.here hx rfl (hb hby own_d7_5) rfl rfl ?_
    exact kz
  obtain ⟨T2, h2, X2, e2, W2, st2⟩ := putF X1 hx hZ hown (host := "") (Or.inl (own_w hw 43 rfl)) Via.refl e1 F_principal E_u0 (Or.inr ⟨(own_w hw 44 rfl), rfl, hnm⟩) (own_w hw 33 rfl) (ty := (.object "java/lang/String")) (by decide) rfl rfl (g := (mkF m 6 #[rv u0, rv u1, .val .null] [(.ref u1), (.ref u0)])) rfl rfl (hb hby own_d7_6)
  have Fw2 := F_principal.same W2
  have N2 := Fr.snoc X2 N0 g_u0
  have O3 := O0.wr W2 g_u0
  have K3 : Keep h0 h2 [u0] := (Keep.refl h0 [u0]).wr W2 (Or.inl (List.mem_of_getElem? (i := 0) rfl))
  refine own_on (B := T2.setTop (mkF m 9 #[rv u0, rv u1, .val .null] [])) (fun tz kz => st2 _ kz) ?_
  refine own_on (B := T2.setTop (mkF m 11 #[rv u0, rv u1, .val .null] [.null, (.ref u0)])) (fun tz kz => ?_) ?_
  · show sT p e below T2 (mkF m 9 #[rv u0, rv u1, .val .null] []) tz
    refine XS.aloadN X2.here hx rfl (hb hby own_d7_9) rfl rfl ?_
    show sT p e below T2 (mkF m 10 #[rv u0, rv u1, .val .null] [(.ref u0)]) tz
    refine XS.aloadN X2.here hx rfl (hb hby own_d7_10) rfl rfl ?_
    exact kz
  have f_4 := (F_reason.other W2 (Or.inr (slot_ne (Or.inr (own_w hw 46 rfl)) (Or.inr (own_w hw 44 rfl)) (by decide) (t := (.object "com/example/firm_gate/firmgate/RefusalReason")) (t' := (.object "java/lang/String")) (by decide) (by decide))))
  have f_5 := (E_u0.wr W2)
  obtain ⟨T6, h6, X6, e6, W6, st6⟩ := putF X2 hx hZ hown (host := "") (Or.inl (own_w hw 45 rfl)) Via.refl e2 f_4 f_5 (Or.inr ⟨(own_w hw 46 rfl), rfl, hnm⟩) (own_w hw 33 rfl) (ty := (.object "com/example/firm_gate/firmgate/RefusalReason")) (by decide) rfl rfl (g := (mkF m 11 #[rv u0, rv u1, .val .null] [.null, (.ref u0)])) rfl rfl (hb hby own_d7_11)
  have Fw6 := f_4.same W6
  have N6 := Fr.snoc X6 N2 g_u0
  have O7 := O3.wr W6 g_u0
  have K7 : Keep h0 h6 [u0] := K3.wr W6 (Or.inl (List.mem_of_getElem? (i := 0) rfl))
  refine own_on (B := T6.setTop (mkF m 14 #[rv u0, rv u1, .val .null] [])) (fun tz kz => st6 _ kz) ?_
  have f_8 := (Fw2.other W6 (Or.inr (slot_ne (Or.inr (own_w hw 44 rfl)) (Or.inr (own_w hw 46 rfl)) (by decide) (t := (.object "java/lang/String")) (t' := (.object "com/example/firm_gate/firmgate/RefusalReason")) (by decide) (by decide))))
  obtain ⟨fs, hr, hrun, hended, hW, hsame⟩ := X6.leave (v := none) (fun _ => rfl)
  refine own_of ⟨_, _, ?_, hrun, hended, _, _, rfl, ?_, ⟨_, rfl⟩, hW, hsame.mono (by decide) (by decide)⟩
  · show sT p e below T6 (mkF m 14 #[rv u0, rv u1, .val .null] []) _
    exact X6.returnOut hx Bd.returns (hb hby own_d7_14) hr
  · show Q7 Z u0 u1 h0 n0 _ T6.heap _
    rw [e6]
    exact ⟨rfl, N6, K7, f_8, Fw6⟩
theorem own_pn_java_util_Optional : plainName "java/util/Optional" = true := by first | (simp [plainName, overriddenIn]; done) | decide +kernel
theorem own_ef_11 (m : MethodId) (x0 : Addr) (x1 : Addr) : entryFrame m #[(.ref x0), (.ref x1)] 2 = mkF m 0 #[rv x0, rv x1] [] := by first | (simp [entryFrame, mkF, argsToLocals, Value.category]; done) | rfl
def Q11 (Z : State) (u0 : Addr) (u1 : Addr) (h0 : Heap) (n0 : Nat) (v : Option Value) (h : Heap) (L : List Loc) : Prop := v = none ∧ Fr n0 L ∧ Keep h0 h [u0] ∧ Fld Z h u0 "java/util/Optional" "value" "Ljava/lang/Object;" (.ref u1)
theorem own_d11_0 : decode jdk_32_method_2_code 0 = .ok (.aload_n 0, 1) := by decide +kernel
theorem own_d11_1 : decode jdk_32_method_2_code 1 = .ok (.invokespecial 7, 3) := by decide +kernel
theorem own_d11_4 : decode jdk_32_method_2_code 4 = .ok (.aload_n 0, 1) := by decide +kernel
theorem own_d11_5 : decode jdk_32_method_2_code 5 = .ok (.aload_n 1, 1) := by decide +kernel
theorem own_d11_6 : decode jdk_32_method_2_code 6 = .ok (.putfield 13, 3) := by decide +kernel
theorem own_d11_9 : decode jdk_32_method_2_code 9 = .ok (.return_, 1) := by decide +kernel
set_option maxRecDepth 65536 in
set_option maxHeartbeats 40000000 in
theorem rm11 (l : Launch) (Z : State) (a0 : Array Value) (hw : ∀ d ∈ tables_1, d.before a0 Z = true) (ws : List Jvm.Cond) (u0 : Addr) (u1 : Addr) (h0 : Heap) (n0 : Nat) (O0 : Old Z n0 h0) (E_u0 : Exa Z h0 u0 "java/util/Optional") (g_u0 : n0 ≤ u0) (F_value : Fld Z h0 u0 "java/util/Optional" "value" "Ljava/lang/Object;" .null) :
    MetFree l (⟨"java/util/Optional", "<init>", "(Ljava/lang/Object;)V"⟩ : MethodName) (head1 (Jvm.Cond.code (⟨"java/util/Optional", "<init>", "(Ljava/lang/Object;)V"⟩ : MethodName) jdk_32_method_2_code 2 none :: ws) ({ frames := 1, cells := 0, slots := 0, locals := 12 } : Room)) (fun a U => a = #[(.ref u0), (.ref u1)] ∧ Z.Warmed39 U.vm ∧ U.heap = h0) (fun _ _ _ _ _ => True) (fun _ U o U' => ∃ v L, o = .returned v ∧ Q11 Z u0 u1 h0 n0 v U'.heap L ∧ FrameEnd U o U' L ({ frames := 1, cells := 0, slots := 0, locals := 12 } : Room).cells ({ frames := 1, cells := 0, slots := 0, locals := 12 } : Room).slots) := by
  refine MetFree.of_bodySF (plainFor_of_name own_pn_java_util_Optional) hisR ?_
  intro p e s m args below meth c s₁ Bd hml0 hP hK
  obtain ⟨rfl, hZ, hh⟩ := hP
  have hx := Bd.exec
  have hby := Bd.bytes
  have hml : c.maxLocals = 2 := hml0
  have hown : s.vm.findClass "java/util/Optional" = some m.cls := findClass_of_methodNamed Bd.named
  have hnm := (name_of_methodNamed Bd.named Bd.method).1
  have X0 : Stand p l e ({ frames := 1, cells := 0, slots := 0, locals := 12 } : Room) s m #[(.ref u0), (.ref u1)] below meth c s₁ [] 0 0 := Stand.of_body Bd
  have e0 : s₁.heap = h0 := by rw [← hh, Bd.state]; rfl
  have N0 := Fr.nil n0
  change Go p.tables e below _ _
  refine own_on (B := s₁.setTop (mkF m 0 #[rv u0, rv u1] [])) (fun tz kz => castTop (own_ef_11 m u0 u1) kz) ?_
  refine own_on (B := s₁.setTop (mkF m 1 #[rv u0, rv u1] [(.ref u0)])) (fun tz kz => ?_) ?_
  · show sT p e below s₁ (mkF m 0 #[rv u0, rv u1] []) tz
    refine XS.aloadN X0.here hx rfl (hb hby own_d11_0) rfl rfl ?_
    exact kz
  obtain ⟨T1, X1, e1, st1⟩ := initO X0 hx hZ hown (own_w hw 67 rfl) (own_w hw 18 rfl) (own_w hw 19 rfl) e0 (g := (mkF m 1 #[rv u0, rv u1] [(.ref u0)])) rfl (by rw [hml]; rfl) rfl (hb hby own_d11_1) (by decide) (W := 0) (by show 2 * 0 + _ ≤ _; exact Nat.le_of_eq rfl) (by decide)
  refine own_on (B := T1.setTop (mkF m 4 #[rv u0, rv u1] [])) (fun tz kz => st1 _ kz) ?_
  refine own_on (B := T1.setTop (mkF m 6 #[rv u0, rv u1] [(.ref u1), (.ref u0)])) (fun tz kz => ?_) ?_
  · show sT p e below T1 (mkF m 4 #[rv u0, rv u1] []) tz
    refine XS.aloadN X1.here hx rfl (hb hby own_d11_4) rfl rfl ?_
    show sT p e below T1 (mkF m 5 #[rv u0, rv u1] [(.ref u0)]) tz
    refine XS.aloadN X1.here hx rfl (hb hby own_d11_5) rfl rfl ?_
    exact kz
  obtain ⟨T2, h2, X2, e2, W2, st2⟩ := putF X1 hx hZ hown (host := "") (Or.inl (own_w hw 68 rfl)) Via.refl e1 F_value E_u0 (Or.inr ⟨(own_w hw 69 rfl), rfl, hnm⟩) (own_w hw 62 rfl) (ty := (.object "java/lang/Object")) (by decide) rfl rfl (g := (mkF m 6 #[rv u0, rv u1] [(.ref u1), (.ref u0)])) rfl rfl (hb hby own_d11_6)
  have Fw2 := F_value.same W2
  have N2 := Fr.snoc X2 N0 g_u0
  have O3 := O0.wr W2 g_u0
  have K3 : Keep h0 h2 [u0] := (Keep.refl h0 [u0]).wr W2 (Or.inl (List.mem_of_getElem? (i := 0) rfl))
  refine own_on (B := T2.setTop (mkF m 9 #[rv u0, rv u1] [])) (fun tz kz => st2 _ kz) ?_
  obtain ⟨fs, hr, hrun, hended, hW, hsame⟩ := X2.leave (v := none) (fun _ => rfl)
  refine own_of ⟨_, _, ?_, hrun, hended, _, _, rfl, ?_, ⟨_, rfl⟩, hW, hsame.mono (by decide) (by decide)⟩
  · show sT p e below T2 (mkF m 9 #[rv u0, rv u1] []) _
    exact X2.returnOut hx Bd.returns (hb hby own_d11_9) hr
  · show Q11 Z u0 u1 h0 n0 _ T2.heap _
    rw [e2]
    exact ⟨rfl, N2, K3, Fw2⟩
theorem own_ef_5 (m : MethodId) (x0 : Addr) : entryFrame m #[(.ref x0)] 1 = mkF m 0 #[rv x0] [] := by first | (simp [entryFrame, mkF, argsToLocals, Value.category]; done) | rfl
def Q5 (Z : State) (u0 : Addr) (h0 : Heap) (n0 : Nat) (v : Option Value) (h : Heap) (L : List Loc) : Prop := ∃ d : Addr, v = some (.ref d) ∧ Fr n0 L ∧ Keep h0 h [] ∧ h0.size ≤ d ∧ Exa Z h d "com/example/firm_gate/firmgate/TokenDecision" ∧ Fld Z h d "com/example/firm_gate/firmgate/TokenDecision" "principal" "Ljava/lang/String;" (.ref u0) ∧ Fld Z h d "com/example/firm_gate/firmgate/TokenDecision" "reason" "Lcom/example/firm_gate/firmgate/RefusalReason;" .null
theorem own_d5_0 : decode prog_13_method_2_code 0 = .ok (.new 8, 3) := by decide +kernel
theorem own_d5_3 : decode prog_13_method_2_code 3 = .ok (.dup, 1) := by decide +kernel
theorem own_d5_4 : decode prog_13_method_2_code 4 = .ok (.aload_n 0, 1) := by decide +kernel
theorem own_pd10 : parseMethodDescriptor "(Ljava/lang/Object;)Ljava/lang/Object;" = some ⟨[(.object "java/lang/Object")], some (.object "java/lang/Object")⟩ := by decide +kernel
theorem own_d5_5 : decode prog_13_method_2_code 5 = .ok (.invokestatic 17, 3) := by decide +kernel
theorem own_d5_8 : decode prog_13_method_2_code 8 = .ok (.checkcast 23, 3) := by decide +kernel
theorem own_d5_11 : decode prog_13_method_2_code 11 = .ok (.aconst_null, 1) := by decide +kernel
theorem own_pd11 : parseMethodDescriptor "(Ljava/lang/String;Lcom/example/firm_gate/firmgate/RefusalReason;)V" = some ⟨[(.object "java/lang/String"), (.object "com/example/firm_gate/firmgate/RefusalReason")], none⟩ := by decide +kernel
theorem own_d5_12 : decode prog_13_method_2_code 12 = .ok (.invokespecial 25, 3) := by decide +kernel
theorem own_d5_15 : decode prog_13_method_2_code 15 = .ok (.areturn, 1) := by decide +kernel
set_option maxRecDepth 65536 in
set_option maxHeartbeats 40000000 in
theorem rm5 (l : Launch) (Z : State) (a0 : Array Value) (hw : ∀ d ∈ tables_1, d.before a0 Z = true) (ws : List Jvm.Cond) (u0 : Addr) (h0 : Heap) (n0 : Nat) (O0 : Old Z n0 h0) (E_u0 : Exa Z h0 u0 "java/lang/String") :
    MetFree l (⟨"com/example/firm_gate/firmgate/TokenDecision", "accept", "(Ljava/lang/String;)Lcom/example/firm_gate/firmgate/TokenDecision;"⟩ : MethodName) (head1 (Jvm.Cond.code (⟨"com/example/firm_gate/firmgate/TokenDecision", "accept", "(Ljava/lang/String;)Lcom/example/firm_gate/firmgate/TokenDecision;"⟩ : MethodName) prog_13_method_2_code 1 (some (.object "com/example/firm_gate/firmgate/TokenDecision")) :: ws) ({ frames := 2, cells := 1, slots := 2, locals := 40 } : Room)) (fun a U => a = #[(.ref u0)] ∧ Z.Warmed39 U.vm ∧ U.heap = h0) (fun _ _ _ _ _ => True) (fun _ U o U' => ∃ v L, o = .returned v ∧ Q5 Z u0 h0 n0 v U'.heap L ∧ FrameEnd U o U' L ({ frames := 2, cells := 1, slots := 2, locals := 40 } : Room).cells ({ frames := 2, cells := 1, slots := 2, locals := 40 } : Room).slots) := by
  refine MetFree.of_bodySF (plainFor_of_name own_pn_com_example_firm_gate_firmgate_TokenDecision) hisR ?_
  intro p e s m args below meth c s₁ Bd hml0 hP hK
  obtain ⟨rfl, hZ, hh⟩ := hP
  have hx := Bd.exec
  have hby := Bd.bytes
  have hml : c.maxLocals = 1 := hml0
  have hown : s.vm.findClass "com/example/firm_gate/firmgate/TokenDecision" = some m.cls := findClass_of_methodNamed Bd.named
  have hnm := (name_of_methodNamed Bd.named Bd.method).1
  have X0 : Stand p l e ({ frames := 2, cells := 1, slots := 2, locals := 40 } : Room) s m #[(.ref u0)] below meth c s₁ [] 0 0 := Stand.of_body Bd
  have e0 : s₁.heap = h0 := by rw [← hh, Bd.state]; rfl
  have N0 := Fr.nil n0
  change Go p.tables e below _ _
  refine own_on (B := s₁.setTop (mkF m 0 #[rv u0] [])) (fun tz kz => castTop (own_ef_5 m u0) kz) ?_
  obtain ⟨T1, h1, X1, e1, E1, A1, D1, -, st1⟩ := newO X0 hx hZ hown (own_w hw 32 rfl) (own_w hw 33 rfl) (own_w hw 30 rfl) e0 (g := (mkF m 0 #[rv u0] [])) rfl (hb hby own_d5_0) (by decide) (by decide)
  obtain ⟨b1, g1⟩ : ∃ z, z = h0.size := ⟨_, rfl⟩
  rw [← g1] at A1 D1 st1
  have ne_u0_b1 : u0 ≠ b1 := Nat.ne_of_lt (Nat.lt_of_lt_of_le (E_u0).lt (Nat.le_of_eq g1.symm))
  have g_b1 : n0 ≤ b1 := Nat.le_trans (own_old O0) (Nat.le_of_eq g1.symm)
  have sz_b1 : h0.size ≤ b1 := Nat.le_trans (Keep.refl h0 []).1 (Nat.le_of_eq g1.symm)
  have O2 := O0.ext E1
  have K2 : Keep h0 h1 [] := (Keep.refl h0 []).ext E1
  have F1_principal : Fld Z h1 b1 "com/example/firm_gate/firmgate/TokenDecision" "principal" "Ljava/lang/String;" .null := D1 (Or.inr (own_w hw 44 rfl)) (ty := (.object "java/lang/String")) (by decide)
  have F1_reason : Fld Z h1 b1 "com/example/firm_gate/firmgate/TokenDecision" "reason" "Lcom/example/firm_gate/firmgate/RefusalReason;" .null := D1 (Or.inr (own_w hw 46 rfl)) (ty := (.object "com/example/firm_gate/firmgate/RefusalReason")) (by decide)
  refine own_on (B := T1.setTop (mkF m 3 #[rv u0] [(.ref b1)])) (fun tz kz => st1 _ kz) ?_
  refine own_on (B := T1.setTop (mkF m 5 #[rv u0] [(.ref u0), (.ref b1), (.ref b1)])) (fun tz kz => ?_) ?_
  · show sT p e below T1 (mkF m 3 #[rv u0] [(.ref b1)]) tz
    refine XS.dup X1.here hx rfl (hb hby own_d5_3) rfl rfl ?_
    show sT p e below T1 (mkF m 4 #[rv u0] [(.ref b1), (.ref b1)]) tz
    refine XS.aloadN X1.here hx rfl (hb hby own_d5_4) rfl rfl ?_
    exact kz
  obtain ⟨_, _, ⟨T3, L3, k3, n3⟩, -, X3, ⟨Lc3, hQ3, l3, y3, z3⟩, st3⟩ := Jvm.LawKit.callS X1 hx (y := (⟨"java/util/Objects", "requireNonNull", "(Ljava/lang/Object;)Ljava/lang/Object;"⟩ : MethodName)) hown (mvT hZ (own_w hw 34 rfl)) (mvT hZ (own_w hw 35 rfl)) (mvT hZ (own_w hw 36 rfl)) (mvT hZ (own_w hw 37 rfl)) (by decide) (backOf (W := 2) (rm6 l Z a0 hw [] u0  h1 n0 O2 ) hZ (own_w hw 37 rfl) (own_w hw 36 rfl) (by decide) (by decide)) (g := (mkF m 5 #[rv u0] [(.ref u0), (.ref b1), (.ref b1)])) rfl (by rw [hml]; rfl) (argsL := [(.ref u0)]) (rest := [(.ref b1), (.ref b1)]) (lenOf own_pd10 rfl) rfl (by show 2 * 0 + _ ≤ _; exact Nat.le_of_eq rfl) (hb hby own_d5_5) (fun _ _ => ⟨rfl, e1, (by decide : 1 + 0 ≤ _), (by decide : 2 + 0 ≤ _)⟩)
  dsimp only [Pt.U, Pt.locs, Pt.cells, Pt.slots] at X3 l3 y3 z3 st3 hQ3
  subst l3 y3 z3
  obtain ⟨rfl, Nq3, e3⟩ := hQ3
  have N3 := Fr.app N0 Nq3
  refine own_on (B := T3.setTop (mkF m 8 #[rv u0] [(.ref u0), (.ref b1), (.ref b1)])) (fun tz kz => st3 _ kz) ?_
  have f_4 := (E_u0.ext E1)
  obtain ⟨T5, X5, e5, st5⟩ := castY X3 hx hZ hown (own_w hw 38 rfl) e3 (Ins.self f_4) (g := (mkF m 8 #[rv u0] [(.ref u0), (.ref b1), (.ref b1)])) rfl rfl (hb hby own_d5_8)
  refine own_on (B := T5.setTop (mkF m 11 #[rv u0] [(.ref u0), (.ref b1), (.ref b1)])) (fun tz kz => st5 _ kz) ?_
  refine own_on (B := T5.setTop (mkF m 12 #[rv u0] [.null, (.ref u0), (.ref b1), (.ref b1)])) (fun tz kz => ?_) ?_
  · show sT p e below T5 (mkF m 11 #[rv u0] [(.ref u0), (.ref b1), (.ref b1)]) tz
    refine XS.aconstNull X5.here hx rfl (hb hby own_d5_11) ?_
    exact kz
  obtain ⟨_, _, ⟨T6, L6, k6, n6⟩, -, X6, ⟨Lc6, hQ6, l6, y6, z6⟩, st6⟩ := X5.specialBack hx (y := (⟨"com/example/firm_gate/firmgate/TokenDecision", "<init>", "(Ljava/lang/String;Lcom/example/firm_gate/firmgate/RefusalReason;)V"⟩ : MethodName)) rfl hown (mvT hZ (own_w hw 39 rfl)) (mvT hZ (own_w hw 40 rfl)) (mvT hZ (own_w hw 41 rfl)) (by decide) (backOf (W := 1) (rm7 l Z a0 hw [] b1 u0  h1 n0 O2 A1 g_b1 F1_principal F1_reason) hZ (own_w hw 41 rfl) (own_w hw 30 rfl) (by decide) (by decide)) (g := (mkF m 12 #[rv u0] [.null, (.ref u0), (.ref b1), (.ref b1)])) rfl (by rw [hml]; rfl) (Steps.refl _) (a := b1) (argsL := [(.ref u0), .null]) (rest := [(.ref b1)]) (lenOf own_pd11 rfl) rfl (by show 2 * 0 + _ ≤ _; exact Nat.le_of_eq rfl) (hb hby own_d5_12) (fun _ _ => ⟨rfl, e5, (by decide : 1 + 0 ≤ _), (by decide : 2 + 0 ≤ _)⟩)
  dsimp only [Pt.U, Pt.locs, Pt.cells, Pt.slots] at X6 l6 y6 z6 st6 hQ6
  subst l6 y6 z6
  obtain ⟨rfl, Nq6, Kq6, Fp6, Fq6⟩ := hQ6
  have N6 := Fr.app N3 Nq6
  have O7 := O2.keep Kq6 (allS g_b1 all0)
  have K7 : Keep h0 T6.heap [] := K2.trans Kq6 (allS (Or.inr sz_b1) all0)
  refine own_on (B := T6.setTop (mkF m 15 #[rv u0] [(.ref b1)])) (fun tz kz => st6.trans kz) ?_
  have f_8 := (A1.keep Kq6)
  obtain ⟨fs, hr, hrun, hended, hW, hsame⟩ := X6.leave (v := some (.ref b1)) (fun h => by rw [Bd.returns] at h; cases h)
  refine own_of ⟨_, _, ?_, hrun, hended, _, _, rfl, ?_, ⟨_, rfl⟩, hW, hsame.mono (by decide) (by decide)⟩
  · show sT p e below T6 (mkF m 15 #[rv u0] [(.ref b1)]) _
    exact own_retV X6 hx Bd.returns rfl rfl (hb hby own_d5_15) hr
  · show Q5 Z u0 h0 n0 _ T6.heap _
    exact ⟨b1, rfl, N6, K7, sz_b1, f_8, Fp6, Fq6⟩
theorem own_ef_8 (m : MethodId) (x0 : Addr) : entryFrame m #[(.ref x0)] 1 = mkF m 0 #[rv x0] [] := by first | (simp [entryFrame, mkF, argsToLocals, Value.category]; done) | rfl
def Q8 (Z : State) (u0 : Addr) (h0 : Heap) (n0 : Nat) (v : Option Value) (h : Heap) (L : List Loc) : Prop := v = some (.int 1) ∧ Fr n0 L ∧ h = h0
theorem own_d8_0 : decode prog_13_method_4_code 0 = .ok (.aload_n 0, 1) := by decide +kernel
theorem own_d8_1 : decode prog_13_method_4_code 1 = .ok (.getfield 13, 3) := by decide +kernel
theorem own_d8_4 : decode prog_13_method_4_code 4 = .ok (.ifnonnull 7, 3) := by decide +kernel
theorem own_d8_7 : decode prog_13_method_4_code 7 = .ok (.iconst 1, 1) := by decide +kernel
theorem own_d8_8 : decode prog_13_method_4_code 8 = .ok (.goto 4, 3) := by decide +kernel
theorem own_d8_12 : decode prog_13_method_4_code 12 = .ok (.ireturn, 1) := by decide +kernel
set_option maxRecDepth 65536 in
set_option maxHeartbeats 40000000 in
theorem rm8 (l : Launch) (Z : State) (a0 : Array Value) (hw : ∀ d ∈ tables_1, d.before a0 Z = true) (ws : List Jvm.Cond) (u0 : Addr) (h0 : Heap) (n0 : Nat) (O0 : Old Z n0 h0) (Ff : Fld Z h0 u0 "com/example/firm_gate/firmgate/TokenDecision" "reason" "Lcom/example/firm_gate/firmgate/RefusalReason;" .null) :
    MetFree l (⟨"com/example/firm_gate/firmgate/TokenDecision", "accepted", "()Z"⟩ : MethodName) (head1 (Jvm.Cond.code (⟨"com/example/firm_gate/firmgate/TokenDecision", "accepted", "()Z"⟩ : MethodName) prog_13_method_4_code 1 (some .boolean) :: ws) ({ frames := 0, cells := 0, slots := 0, locals := 0 } : Room)) (fun a U => a = #[(.ref u0)] ∧ Z.Warmed39 U.vm ∧ U.heap = h0) (fun _ _ _ _ _ => True) (fun _ U o U' => ∃ v L, o = .returned v ∧ Q8 Z u0 h0 n0 v U'.heap L ∧ FrameEnd U o U' L ({ frames := 0, cells := 0, slots := 0, locals := 0 } : Room).cells ({ frames := 0, cells := 0, slots := 0, locals := 0 } : Room).slots) := by
  refine MetFree.of_bodySF (plainFor_of_name own_pn_com_example_firm_gate_firmgate_TokenDecision) hisR ?_
  intro p e s m args below meth c s₁ Bd hml0 hP hK
  obtain ⟨rfl, hZ, hh⟩ := hP
  have hx := Bd.exec
  have hby := Bd.bytes
  have hml : c.maxLocals = 1 := hml0
  have hown : s.vm.findClass "com/example/firm_gate/firmgate/TokenDecision" = some m.cls := findClass_of_methodNamed Bd.named
  have hnm := (name_of_methodNamed Bd.named Bd.method).1
  have X0 : Stand p l e ({ frames := 0, cells := 0, slots := 0, locals := 0 } : Room) s m #[(.ref u0)] below meth c s₁ [] 0 0 := Stand.of_body Bd
  have e0 : s₁.heap = h0 := by rw [← hh, Bd.state]; rfl
  have N0 := Fr.nil n0
  change Go p.tables e below _ _
  refine own_on (B := s₁.setTop (mkF m 0 #[rv u0] [])) (fun tz kz => castTop (own_ef_8 m u0) kz) ?_
  refine own_on (B := s₁.setTop (mkF m 1 #[rv u0] [(.ref u0)])) (fun tz kz => ?_) ?_
  · show sT p e below s₁ (mkF m 0 #[rv u0] []) tz
    refine XS.aloadN X0.here hx rfl (hb hby own_d8_0) rfl rfl ?_
    exact kz
  obtain ⟨T1, X1, e1, st1⟩ := getF X0 hx hZ hown (host := "") (Or.inl (own_w hw 45 rfl)) Via.refl e0 Ff (g := (mkF m 1 #[rv u0] [(.ref u0)])) rfl rfl (hb hby own_d8_1)
  refine own_on (B := T1.setTop (mkF m 4 #[rv u0] [.null])) (fun tz kz => st1 _ kz) ?_
  refine own_on (B := T1.setTop (mkF m 12 #[rv u0] [(.int (1 : Int32))])) (fun tz kz => ?_) ?_
  · show sT p e below T1 (mkF m 4 #[rv u0] [.null]) tz
    refine XS.ifnonnullNo X1.here hx rfl (hb hby own_d8_4) rfl ?_
    show sT p e below T1 (mkF m 7 #[rv u0] []) tz
    refine XS.iconst X1.here hx rfl (hb hby own_d8_7) ?_
    show sT p e below T1 (mkF m 8 #[rv u0] [(.int (1 : Int32))]) tz
    refine XS.goto X1.here hx rfl (pc0 := 8) (pc' := 12) rfl (hb hby own_d8_8) (by decide) (by decide) ?_
    exact kz
  obtain ⟨fs, hr, hrun, hended, hW, hsame⟩ := X1.leave (v := some (.int (1 : Int32))) (fun h => by rw [Bd.returns] at h; cases h)
  refine own_of ⟨_, _, ?_, hrun, hended, _, _, rfl, ?_, ⟨_, rfl⟩, hW, hsame.mono (by decide) (by decide)⟩
  · show sT p e below T1 (mkF m 12 #[rv u0] [(.int (1 : Int32))]) _
    exact own_retN X1 hx (t := .boolean) Bd.returns (by simp) (by first | rfl | (split <;> first | rfl | (split <;> first | rfl | (split <;> rfl)))) (hb hby own_d8_12) hr
  · show Q8 Z u0 h0 n0 _ T1.heap _
    rw [e1]
    exact ⟨rfl, N0, rfl⟩
theorem own_ef_10a (m : MethodId)  : entryFrame m #[.null] 1 = mkF m 0 #[.val .null] [] := by first | (simp [entryFrame, mkF, argsToLocals, Value.category]; done) | rfl
def Q10a (Z : State) (wE : Addr) (h0 : Heap) (n0 : Nat) (v : Option Value) (h : Heap) (L : List Loc) : Prop := v = some (.ref wE) ∧ Fr n0 L ∧ h = h0
theorem own_d10_0 : decode jdk_32_method_4_code 0 = .ok (.aload_n 0, 1) := by decide +kernel
theorem own_d10_1 : decode jdk_32_method_4_code 1 = .ok (.ifnonnull 9, 3) := by decide +kernel
theorem own_d10_4 : decode jdk_32_method_4_code 4 = .ok (.getstatic 1, 3) := by decide +kernel
theorem own_d10_7 : decode jdk_32_method_4_code 7 = .ok (.goto 11, 3) := by decide +kernel
theorem own_d10_18 : decode jdk_32_method_4_code 18 = .ok (.areturn, 1) := by decide +kernel
set_option maxRecDepth 65536 in
set_option maxHeartbeats 40000000 in
theorem rm10a (l : Launch) (Z : State) (a0 : Array Value) (hw : ∀ d ∈ tables_1, d.before a0 Z = true) (ws : List Jvm.Cond) (wE : Addr) (h0 : Heap) (n0 : Nat) (O0 : Old Z n0 h0) (S_E : Sta Z Z.heap "java/util/Optional" "EMPTY" "Ljava/util/Optional;" (.ref wE)) :
    MetFree l (⟨"java/util/Optional", "ofNullable", "(Ljava/lang/Object;)Ljava/util/Optional;"⟩ : MethodName) (head1 (Jvm.Cond.code (⟨"java/util/Optional", "ofNullable", "(Ljava/lang/Object;)Ljava/util/Optional;"⟩ : MethodName) jdk_32_method_4_code 1 (some (.object "java/util/Optional")) :: ws) ({ frames := 0, cells := 0, slots := 0, locals := 0 } : Room)) (fun a U => a = #[.null] ∧ Z.Warmed39 U.vm ∧ U.heap = h0) (fun _ _ _ _ _ => True) (fun _ U o U' => ∃ v L, o = .returned v ∧ Q10a Z wE h0 n0 v U'.heap L ∧ FrameEnd U o U' L ({ frames := 0, cells := 0, slots := 0, locals := 0 } : Room).cells ({ frames := 0, cells := 0, slots := 0, locals := 0 } : Room).slots) := by
  refine MetFree.of_bodySF (plainFor_of_name own_pn_java_util_Optional) hisR ?_
  intro p e s m args below meth c s₁ Bd hml0 hP hK
  obtain ⟨rfl, hZ, hh⟩ := hP
  have hx := Bd.exec
  have hby := Bd.bytes
  have hml : c.maxLocals = 1 := hml0
  have hown : s.vm.findClass "java/util/Optional" = some m.cls := findClass_of_methodNamed Bd.named
  have hnm := (name_of_methodNamed Bd.named Bd.method).1
  have X0 : Stand p l e ({ frames := 0, cells := 0, slots := 0, locals := 0 } : Room) s m #[.null] below meth c s₁ [] 0 0 := Stand.of_body Bd
  have e0 : s₁.heap = h0 := by rw [← hh, Bd.state]; rfl
  have N0 := Fr.nil n0
  change Go p.tables e below _ _
  refine own_on (B := s₁.setTop (mkF m 0 #[.val .null] [])) (fun tz kz => castTop (own_ef_10a m ) kz) ?_
  refine own_on (B := s₁.setTop (mkF m 4 #[.val .null] [])) (fun tz kz => ?_) ?_
  · show sT p e below s₁ (mkF m 0 #[.val .null] []) tz
    refine XS.aloadN X0.here hx rfl (hb hby own_d10_0) rfl rfl ?_
    show sT p e below s₁ (mkF m 1 #[.val .null] [.null]) tz
    refine XS.ifnonnullNo X0.here hx rfl (hb hby own_d10_1) rfl ?_
    exact kz
  obtain ⟨T1, X1, e1, st1⟩ := getS2 X0 hx hZ hown (host := "") (Or.inl (own_w hw 101 rfl)) Via.refl e0 (S_E.ext O0.2) (g := (mkF m 4 #[.val .null] [])) rfl (hb hby own_d10_4)
  refine own_on (B := T1.setTop (mkF m 7 #[.val .null] [(.ref wE)])) (fun tz kz => st1 _ kz) ?_
  refine own_on (B := T1.setTop (mkF m 18 #[.val .null] [(.ref wE)])) (fun tz kz => ?_) ?_
  · show sT p e below T1 (mkF m 7 #[.val .null] [(.ref wE)]) tz
    refine XS.goto X1.here hx rfl (pc0 := 7) (pc' := 18) rfl (hb hby own_d10_7) (by decide) (by decide) ?_
    exact kz
  obtain ⟨fs, hr, hrun, hended, hW, hsame⟩ := X1.leave (v := some (.ref wE)) (fun h => by rw [Bd.returns] at h; cases h)
  refine own_of ⟨_, _, ?_, hrun, hended, _, _, rfl, ?_, ⟨_, rfl⟩, hW, hsame.mono (by decide) (by decide)⟩
  · show sT p e below T1 (mkF m 18 #[.val .null] [(.ref wE)]) _
    exact own_retV X1 hx Bd.returns rfl rfl (hb hby own_d10_18) hr
  · show Q10a Z wE h0 n0 _ T1.heap _
    rw [e1]
    exact ⟨rfl, N0, rfl⟩
theorem own_ef_10b (m : MethodId) (x0 : Addr) : entryFrame m #[(.ref x0)] 1 = mkF m 0 #[rv x0] [] := by first | (simp [entryFrame, mkF, argsToLocals, Value.category]; done) | rfl
def Q10b (Z : State) (u0 : Addr) (h0 : Heap) (n0 : Nat) (v : Option Value) (h : Heap) (L : List Loc) : Prop := ∃ d : Addr, v = some (.ref d) ∧ Fr n0 L ∧ Keep h0 h [] ∧ h0.size ≤ d ∧ Exa Z h d "java/util/Optional" ∧ Fld Z h d "java/util/Optional" "value" "Ljava/lang/Object;" (.ref u0)
theorem own_d10_10 : decode jdk_32_method_4_code 10 = .ok (.new 2, 3) := by decide +kernel
theorem own_d10_13 : decode jdk_32_method_4_code 13 = .ok (.dup, 1) := by decide +kernel
theorem own_d10_14 : decode jdk_32_method_4_code 14 = .ok (.aload_n 0, 1) := by decide +kernel
theorem own_pd12 : parseMethodDescriptor "(Ljava/lang/Object;)V" = some ⟨[(.object "java/lang/Object")], none⟩ := by decide +kernel
theorem own_d10_15 : decode jdk_32_method_4_code 15 = .ok (.invokespecial 23, 3) := by decide +kernel
set_option maxRecDepth 65536 in
set_option maxHeartbeats 40000000 in
theorem rm10b (l : Launch) (Z : State) (a0 : Array Value) (hw : ∀ d ∈ tables_1, d.before a0 Z = true) (ws : List Jvm.Cond) (u0 : Addr) (h0 : Heap) (n0 : Nat) (O0 : Old Z n0 h0) :
    MetFree l (⟨"java/util/Optional", "ofNullable", "(Ljava/lang/Object;)Ljava/util/Optional;"⟩ : MethodName) (head1 (Jvm.Cond.code (⟨"java/util/Optional", "ofNullable", "(Ljava/lang/Object;)Ljava/util/Optional;"⟩ : MethodName) jdk_32_method_4_code 1 (some (.object "java/util/Optional")) :: ws) ({ frames := 2, cells := 1, slots := 1, locals := 30 } : Room)) (fun a U => a = #[(.ref u0)] ∧ Z.Warmed39 U.vm ∧ U.heap = h0) (fun _ _ _ _ _ => True) (fun _ U o U' => ∃ v L, o = .returned v ∧ Q10b Z u0 h0 n0 v U'.heap L ∧ FrameEnd U o U' L ({ frames := 2, cells := 1, slots := 1, locals := 30 } : Room).cells ({ frames := 2, cells := 1, slots := 1, locals := 30 } : Room).slots) := by
  refine MetFree.of_bodySF (plainFor_of_name own_pn_java_util_Optional) hisR ?_
  intro p e s m args below meth c s₁ Bd hml0 hP hK
  obtain ⟨rfl, hZ, hh⟩ := hP
  have hx := Bd.exec
  have hby := Bd.bytes
  have hml : c.maxLocals = 1 := hml0
  have hown : s.vm.findClass "java/util/Optional" = some m.cls := findClass_of_methodNamed Bd.named
  have hnm := (name_of_methodNamed Bd.named Bd.method).1
  have X0 : Stand p l e ({ frames := 2, cells := 1, slots := 1, locals := 30 } : Room) s m #[(.ref u0)] below meth c s₁ [] 0 0 := Stand.of_body Bd
  have e0 : s₁.heap = h0 := by rw [← hh, Bd.state]; rfl
  have N0 := Fr.nil n0
  change Go p.tables e below _ _
  refine own_on (B := s₁.setTop (mkF m 0 #[rv u0] [])) (fun tz kz => castTop (own_ef_10b m u0) kz) ?_
  refine own_on (B := s₁.setTop (mkF m 10 #[rv u0] [])) (fun tz kz => ?_) ?_
  · show sT p e below s₁ (mkF m 0 #[rv u0] []) tz
    refine XS.aloadN X0.here hx rfl (hb hby own_d10_0) rfl rfl ?_
    show sT p e below s₁ (mkF m 1 #[rv u0] [(.ref u0)]) tz
    refine XS.ifnonnullYes X0.here hx rfl (pc0 := 1) (pc' := 10) rfl (hb hby own_d10_1) rfl (by decide) (by decide) ?_
    exact kz
  obtain ⟨T1, h1, X1, e1, E1, A1, D1, -, st1⟩ := newO X0 hx hZ hown (own_w hw 61 rfl) (own_w hw 62 rfl) (own_w hw 59 rfl) e0 (g := (mkF m 10 #[rv u0] [])) rfl (hb hby own_d10_10) (by decide) (by decide)
  obtain ⟨b1, g1⟩ : ∃ z, z = h0.size := ⟨_, rfl⟩
  rw [← g1] at A1 D1 st1
  have g_b1 : n0 ≤ b1 := Nat.le_trans (own_old O0) (Nat.le_of_eq g1.symm)
  have sz_b1 : h0.size ≤ b1 := Nat.le_trans (Keep.refl h0 []).1 (Nat.le_of_eq g1.symm)
  have O2 := O0.ext E1
  have K2 : Keep h0 h1 [] := (Keep.refl h0 []).ext E1
  have F1_value : Fld Z h1 b1 "java/util/Optional" "value" "Ljava/lang/Object;" .null := D1 (Or.inr (own_w hw 69 rfl)) (ty := (.object "java/lang/Object")) (by decide)
  refine own_on (B := T1.setTop (mkF m 13 #[rv u0] [(.ref b1)])) (fun tz kz => st1 _ kz) ?_
  refine own_on (B := T1.setTop (mkF m 15 #[rv u0] [(.ref u0), (.ref b1), (.ref b1)])) (fun tz kz => ?_) ?_
  · show sT p e below T1 (mkF m 13 #[rv u0] [(.ref b1)]) tz
    refine XS.dup X1.here hx rfl (hb hby own_d10_13) rfl rfl ?_
    show sT p e below T1 (mkF m 14 #[rv u0] [(.ref b1), (.ref b1)]) tz
    refine XS.aloadN X1.here hx rfl (hb hby own_d10_14) rfl rfl ?_
    exact kz
  obtain ⟨_, _, ⟨T3, L3, k3, n3⟩, -, X3, ⟨Lc3, hQ3, l3, y3, z3⟩, st3⟩ := X1.specialBack hx (y := (⟨"java/util/Optional", "<init>", "(Ljava/lang/Object;)V"⟩ : MethodName)) rfl hown (mvT hZ (own_w hw 63 rfl)) (mvT hZ (own_w hw 64 rfl)) (mvT hZ (own_w hw 66 rfl)) (by decide) (backOf (W := 1) (rm11 l Z a0 hw [] b1 u0  h1 n0 O2 A1 g_b1 F1_value) hZ (own_w hw 66 rfl) (own_w hw 59 rfl) (by decide) (by decide)) (g := (mkF m 15 #[rv u0] [(.ref u0), (.ref b1), (.ref b1)])) rfl (by rw [hml]; rfl) (Steps.refl _) (a := b1) (argsL := [(.ref u0)]) (rest := [(.ref b1)]) (lenOf own_pd12 rfl) rfl (by show 2 * 0 + _ ≤ _; exact Nat.le_of_eq rfl) (hb hby own_d10_15) (fun _ _ => ⟨rfl, e1, (by decide : 1 + 0 ≤ _), (by decide : 1 + 0 ≤ _)⟩)
  dsimp only [Pt.U, Pt.locs, Pt.cells, Pt.slots] at X3 l3 y3 z3 st3 hQ3
  subst l3 y3 z3
  obtain ⟨rfl, Nq3, Kq3, Fq3⟩ := hQ3
  have N3 := Fr.app N0 Nq3
  have O4 := O2.keep Kq3 (allS g_b1 all0)
  have K4 : Keep h0 T3.heap [] := K2.trans Kq3 (allS (Or.inr sz_b1) all0)
  refine own_on (B := T3.setTop (mkF m 18 #[rv u0] [(.ref b1)])) (fun tz kz => st3.trans kz) ?_
  have f_5 := (A1.keep Kq3)
  obtain ⟨fs, hr, hrun, hended, hW, hsame⟩ := X3.leave (v := some (.ref b1)) (fun h => by rw [Bd.returns] at h; cases h)
  refine own_of ⟨_, _, ?_, hrun, hended, _, _, rfl, ?_, ⟨_, rfl⟩, hW, hsame.mono (by decide) (by decide)⟩
  · show sT p e below T3 (mkF m 18 #[rv u0] [(.ref b1)]) _
    exact own_retV X3 hx Bd.returns rfl rfl (hb hby own_d10_18) hr
  · show Q10b Z u0 h0 n0 _ T3.heap _
    exact ⟨b1, rfl, N3, K4, sz_b1, f_5, Fq3⟩
theorem own_ef_17 (m : MethodId) (x0 : Addr) : entryFrame m #[(.ref x0)] 1 = mkF m 0 #[rv x0] [] := by first | (simp [entryFrame, mkF, argsToLocals, Value.category]; done) | rfl
def Q17 (Z : State) (u0 : Addr) (wE : Addr) (h0 : Heap) (n0 : Nat) (v : Option Value) (h : Heap) (L : List Loc) : Prop := v = some (.ref wE) ∧ Fr n0 L ∧ h = h0
theorem own_d17_0 : decode prog_13_method_6_code 0 = .ok (.aload_n 0, 1) := by decide +kernel
theorem own_d17_1 : decode prog_13_method_6_code 1 = .ok (.getfield 13, 3) := by decide +kernel
theorem own_pd13 : parseMethodDescriptor "(Ljava/lang/Object;)Ljava/util/Optional;" = some ⟨[(.object "java/lang/Object")], some (.object "java/util/Optional")⟩ := by decide +kernel
theorem own_d17_4 : decode prog_13_method_6_code 4 = .ok (.invokestatic 30, 3) := by decide +kernel
theorem own_d17_7 : decode prog_13_method_6_code 7 = .ok (.areturn, 1) := by decide +kernel
set_option maxRecDepth 65536 in
set_option maxHeartbeats 40000000 in
theorem rm17 (l : Launch) (Z : State) (a0 : Array Value) (hw : ∀ d ∈ tables_1, d.before a0 Z = true) (ws : List Jvm.Cond) (u0 : Addr) (wE : Addr) (h0 : Heap) (n0 : Nat) (O0 : Old Z n0 h0) (Ff : Fld Z h0 u0 "com/example/firm_gate/firmgate/TokenDecision" "reason" "Lcom/example/firm_gate/firmgate/RefusalReason;" .null) (S_E : Sta Z Z.heap "java/util/Optional" "EMPTY" "Ljava/util/Optional;" (.ref wE)) :
    MetFree l (⟨"com/example/firm_gate/firmgate/TokenDecision", "reason", "()Ljava/util/Optional;"⟩ : MethodName) (head1 (Jvm.Cond.code (⟨"com/example/firm_gate/firmgate/TokenDecision", "reason", "()Ljava/util/Optional;"⟩ : MethodName) prog_13_method_6_code 1 (some (.object "java/util/Optional")) :: ws) ({ frames := 1, cells := 0, slots := 0, locals := 20 } : Room)) (fun a U => a = #[(.ref u0)] ∧ Z.Warmed39 U.vm ∧ U.heap = h0) (fun _ _ _ _ _ => True) (fun _ U o U' => ∃ v L, o = .returned v ∧ Q17 Z u0 wE h0 n0 v U'.heap L ∧ FrameEnd U o U' L ({ frames := 1, cells := 0, slots := 0, locals := 20 } : Room).cells ({ frames := 1, cells := 0, slots := 0, locals := 20 } : Room).slots) := by
  refine MetFree.of_bodySF (plainFor_of_name own_pn_com_example_firm_gate_firmgate_TokenDecision) hisR ?_
  intro p e s m args below meth c s₁ Bd hml0 hP hK
  obtain ⟨rfl, hZ, hh⟩ := hP
  have hx := Bd.exec
  have hby := Bd.bytes
  have hml : c.maxLocals = 1 := hml0
  have hown : s.vm.findClass "com/example/firm_gate/firmgate/TokenDecision" = some m.cls := findClass_of_methodNamed Bd.named
  have hnm := (name_of_methodNamed Bd.named Bd.method).1
  have X0 : Stand p l e ({ frames := 1, cells := 0, slots := 0, locals := 20 } : Room) s m #[(.ref u0)] below meth c s₁ [] 0 0 := Stand.of_body Bd
  have e0 : s₁.heap = h0 := by rw [← hh, Bd.state]; rfl
  have N0 := Fr.nil n0
  change Go p.tables e below _ _
  refine own_on (B := s₁.setTop (mkF m 0 #[rv u0] [])) (fun tz kz => castTop (own_ef_17 m u0) kz) ?_
  refine own_on (B := s₁.setTop (mkF m 1 #[rv u0] [(.ref u0)])) (fun tz kz => ?_) ?_
  · show sT p e below s₁ (mkF m 0 #[rv u0] []) tz
    refine XS.aloadN X0.here hx rfl (hb hby own_d17_0) rfl rfl ?_
    exact kz
  obtain ⟨T1, X1, e1, st1⟩ := getF X0 hx hZ hown (host := "") (Or.inl (own_w hw 45 rfl)) Via.refl e0 Ff (g := (mkF m 1 #[rv u0] [(.ref u0)])) rfl rfl (hb hby own_d17_1)
  refine own_on (B := T1.setTop (mkF m 4 #[rv u0] [.null])) (fun tz kz => st1 _ kz) ?_
  obtain ⟨_, _, ⟨T2, L2, k2, n2⟩, -, X2, ⟨Lc2, hQ2, l2, y2, z2⟩, st2⟩ := Jvm.LawKit.callS X1 hx (y := (⟨"java/util/Optional", "ofNullable", "(Ljava/lang/Object;)Ljava/util/Optional;"⟩ : MethodName)) hown (mvT hZ (own_w hw 57 rfl)) (mvT hZ (own_w hw 58 rfl)) (mvT hZ (own_w hw 59 rfl)) (mvT hZ (own_w hw 60 rfl)) (by decide) (backOf (W := 0) (rm10a l Z a0 hw []  wE h0 n0 O0 S_E) hZ (own_w hw 60 rfl) (own_w hw 59 rfl) (by decide) (by decide)) (g := (mkF m 4 #[rv u0] [.null])) rfl (by rw [hml]; rfl) (argsL := [.null]) (rest := []) (lenOf own_pd13 rfl) rfl (by show 2 * 0 + _ ≤ _; exact Nat.le_of_eq rfl) (hb hby own_d17_4) (fun _ _ => ⟨rfl, e1, (by decide : 0 + 0 ≤ _), (by decide : 0 + 0 ≤ _)⟩)
  dsimp only [Pt.U, Pt.locs, Pt.cells, Pt.slots] at X2 l2 y2 z2 st2 hQ2
  subst l2 y2 z2
  obtain ⟨rfl, Nq2, e2⟩ := hQ2
  have N2 := Fr.app N0 Nq2
  refine own_on (B := T2.setTop (mkF m 7 #[rv u0] [(.ref wE)])) (fun tz kz => st2 _ kz) ?_
  obtain ⟨fs, hr, hrun, hended, hW, hsame⟩ := X2.leave (v := some (.ref wE)) (fun h => by rw [Bd.returns] at h; cases h)
  refine own_of ⟨_, _, ?_, hrun, hended, _, _, rfl, ?_, ⟨_, rfl⟩, hW, hsame.mono (by decide) (by decide)⟩
  · show sT p e below T2 (mkF m 7 #[rv u0] [(.ref wE)]) _
    exact own_retV X2 hx Bd.returns rfl rfl (hb hby own_d17_7) hr
  · show Q17 Z u0 wE h0 n0 _ T2.heap _
    rw [e2]
    exact ⟨rfl, N2, rfl⟩
theorem own_ef_9 (m : MethodId) (x0 : Addr) : entryFrame m #[(.ref x0)] 1 = mkF m 0 #[rv x0] [] := by first | (simp [entryFrame, mkF, argsToLocals, Value.category]; done) | rfl
def Q9 (Z : State) (u0 : Addr) (r : Addr) (h0 : Heap) (n0 : Nat) (v : Option Value) (h : Heap) (L : List Loc) : Prop := ∃ d : Addr, v = some (.ref d) ∧ Fr n0 L ∧ Keep h0 h [] ∧ h0.size ≤ d ∧ Exa Z h d "java/util/Optional" ∧ Fld Z h d "java/util/Optional" "value" "Ljava/lang/Object;" (.ref r)
theorem own_d9_0 : decode prog_13_method_5_code 0 = .ok (.aload_n 0, 1) := by decide +kernel
theorem own_d9_1 : decode prog_13_method_5_code 1 = .ok (.getfield 7, 3) := by decide +kernel
theorem own_d9_4 : decode prog_13_method_5_code 4 = .ok (.invokestatic 30, 3) := by decide +kernel
theorem own_d9_7 : decode prog_13_method_5_code 7 = .ok (.areturn, 1) := by decide +kernel
set_option maxRecDepth 65536 in
set_option maxHeartbeats 40000000 in
theorem rm9 (l : Launch) (Z : State) (a0 : Array Value) (hw : ∀ d ∈ tables_1, d.before a0 Z = true) (ws : List Jvm.Cond) (u0 : Addr) (r : Addr) (h0 : Heap) (n0 : Nat) (O0 : Old Z n0 h0) (Ff : Fld Z h0 u0 "com/example/firm_gate/firmgate/TokenDecision" "principal" "Ljava/lang/String;" (.ref r)) :
    MetFree l (⟨"com/example/firm_gate/firmgate/TokenDecision", "principal", "()Ljava/util/Optional;"⟩ : MethodName) (head1 (Jvm.Cond.code (⟨"com/example/firm_gate/firmgate/TokenDecision", "principal", "()Ljava/util/Optional;"⟩ : MethodName) prog_13_method_5_code 1 (some (.object "java/util/Optional")) :: ws) ({ frames := 3, cells := 1, slots := 1, locals := 50 } : Room)) (fun a U => a = #[(.ref u0)] ∧ Z.Warmed39 U.vm ∧ U.heap = h0) (fun _ _ _ _ _ => True) (fun _ U o U' => ∃ v L, o = .returned v ∧ Q9 Z u0 r h0 n0 v U'.heap L ∧ FrameEnd U o U' L ({ frames := 3, cells := 1, slots := 1, locals := 50 } : Room).cells ({ frames := 3, cells := 1, slots := 1, locals := 50 } : Room).slots) := by
  refine MetFree.of_bodySF (plainFor_of_name own_pn_com_example_firm_gate_firmgate_TokenDecision) hisR ?_
  intro p e s m args below meth c s₁ Bd hml0 hP hK
  obtain ⟨rfl, hZ, hh⟩ := hP
  have hx := Bd.exec
  have hby := Bd.bytes
  have hml : c.maxLocals = 1 := hml0
  have hown : s.vm.findClass "com/example/firm_gate/firmgate/TokenDecision" = some m.cls := findClass_of_methodNamed Bd.named
  have hnm := (name_of_methodNamed Bd.named Bd.method).1
  have X0 : Stand p l e ({ frames := 3, cells := 1, slots := 1, locals := 50 } : Room) s m #[(.ref u0)] below meth c s₁ [] 0 0 := Stand.of_body Bd
  have e0 : s₁.heap = h0 := by rw [← hh, Bd.state]; rfl
  have N0 := Fr.nil n0
  change Go p.tables e below _ _
  refine own_on (B := s₁.setTop (mkF m 0 #[rv u0] [])) (fun tz kz => castTop (own_ef_9 m u0) kz) ?_
  refine own_on (B := s₁.setTop (mkF m 1 #[rv u0] [(.ref u0)])) (fun tz kz => ?_) ?_
  · show sT p e below s₁ (mkF m 0 #[rv u0] []) tz
    refine XS.aloadN X0.here hx rfl (hb hby own_d9_0) rfl rfl ?_
    exact kz
  obtain ⟨T1, X1, e1, st1⟩ := getF X0 hx hZ hown (host := "") (Or.inl (own_w hw 43 rfl)) Via.refl e0 Ff (g := (mkF m 1 #[rv u0] [(.ref u0)])) rfl rfl (hb hby own_d9_1)
  refine own_on (B := T1.setTop (mkF m 4 #[rv u0] [(.ref r)])) (fun tz kz => st1 _ kz) ?_
  obtain ⟨_, _, ⟨T2, L2, k2, n2⟩, -, X2, ⟨Lc2, hQ2, l2, y2, z2⟩, st2⟩ := Jvm.LawKit.callS X1 hx (y := (⟨"java/util/Optional", "ofNullable", "(Ljava/lang/Object;)Ljava/util/Optional;"⟩ : MethodName)) hown (mvT hZ (own_w hw 57 rfl)) (mvT hZ (own_w hw 58 rfl)) (mvT hZ (own_w hw 59 rfl)) (mvT hZ (own_w hw 60 rfl)) (by decide) (backOf (W := 0) (rm10b l Z a0 hw [] r  h0 n0 O0 ) hZ (own_w hw 60 rfl) (own_w hw 59 rfl) (by decide) (by decide)) (g := (mkF m 4 #[rv u0] [(.ref r)])) rfl (by rw [hml]; rfl) (argsL := [(.ref r)]) (rest := []) (lenOf own_pd13 rfl) rfl (by show 2 * 0 + _ ≤ _; exact Nat.le_of_eq rfl) (hb hby own_d9_4) (fun _ _ => ⟨rfl, e1, (by decide : 0 + 1 ≤ _), (by decide : 0 + 1 ≤ _)⟩)
  dsimp only [Pt.U, Pt.locs, Pt.cells, Pt.slots] at X2 l2 y2 z2 st2 hQ2
  subst l2 y2 z2
  obtain ⟨d2, rfl, Nq2, Kq2, zq2, Eq2, Fq2⟩ := hQ2
  have N2 := Fr.app N0 Nq2
  have ne_u0_d2 : u0 ≠ d2 := Nat.ne_of_lt (Nat.lt_of_lt_of_le (Ff).lt zq2)
  have g_d2 : n0 ≤ d2 := Nat.le_trans (own_old O0) zq2
  have sz_d2 : h0.size ≤ d2 := Nat.le_trans (Keep.refl h0 []).1 zq2
  have O3 := O0.keep Kq2 all0
  have K3 : Keep h0 T2.heap [] := (Keep.refl h0 []).trans Kq2 all0
  refine own_on (B := T2.setTop (mkF m 7 #[rv u0] [(.ref d2)])) (fun tz kz => st2 _ kz) ?_
  obtain ⟨fs, hr, hrun, hended, hW, hsame⟩ := X2.leave (v := some (.ref d2)) (fun h => by rw [Bd.returns] at h; cases h)
  refine own_of ⟨_, _, ?_, hrun, hended, _, _, rfl, ?_, ⟨_, rfl⟩, hW, hsame.mono (by decide) (by decide)⟩
  · show sT p e below T2 (mkF m 7 #[rv u0] [(.ref d2)]) _
    exact own_retV X2 hx Bd.returns rfl rfl (hb hby own_d9_7) hr
  · show Q9 Z u0 r h0 n0 _ T2.heap _
    exact ⟨d2, rfl, N2, K3, sz_d2, Eq2, Fq2⟩
theorem own_ef_12a (m : MethodId) (x0 : Addr) : entryFrame m #[(.ref x0)] 1 = mkF m 0 #[rv x0] [] := by first | (simp [entryFrame, mkF, argsToLocals, Value.category]; done) | rfl
def Q12a (Z : State) (u0 : Addr) (h0 : Heap) (n0 : Nat) (v : Option Value) (h : Heap) (L : List Loc) : Prop := v = some (.int 0) ∧ Fr n0 L ∧ h = h0
theorem own_d12_0 : decode jdk_32_method_6_code 0 = .ok (.aload_n 0, 1) := by decide +kernel
theorem own_d12_1 : decode jdk_32_method_6_code 1 = .ok (.getfield 13, 3) := by decide +kernel
theorem own_d12_4 : decode jdk_32_method_6_code 4 = .ok (.ifnull 7, 3) := by decide +kernel
theorem own_d12_11 : decode jdk_32_method_6_code 11 = .ok (.iconst 0, 1) := by decide +kernel
theorem own_d12_12 : decode jdk_32_method_6_code 12 = .ok (.ireturn, 1) := by decide +kernel
set_option maxRecDepth 65536 in
set_option maxHeartbeats 40000000 in
theorem rm12a (l : Launch) (Z : State) (a0 : Array Value) (hw : ∀ d ∈ tables_1, d.before a0 Z = true) (ws : List Jvm.Cond) (u0 : Addr) (h0 : Heap) (n0 : Nat) (O0 : Old Z n0 h0) (Ff : Fld Z h0 u0 "java/util/Optional" "value" "Ljava/lang/Object;" .null) :
    MetFree l (⟨"java/util/Optional", "isPresent", "()Z"⟩ : MethodName) (head1 (Jvm.Cond.code (⟨"java/util/Optional", "isPresent", "()Z"⟩ : MethodName) jdk_32_method_6_code 1 (some .boolean) :: ws) ({ frames := 0, cells := 0, slots := 0, locals := 0 } : Room)) (fun a U => a = #[(.ref u0)] ∧ Z.Warmed39 U.vm ∧ U.heap = h0) (fun _ _ _ _ _ => True) (fun _ U o U' => ∃ v L, o = .returned v ∧ Q12a Z u0 h0 n0 v U'.heap L ∧ FrameEnd U o U' L ({ frames := 0, cells := 0, slots := 0, locals := 0 } : Room).cells ({ frames := 0, cells := 0, slots := 0, locals := 0 } : Room).slots) := by
  refine MetFree.of_bodySF (plainFor_of_name own_pn_java_util_Optional) hisR ?_
  intro p e s m args below meth c s₁ Bd hml0 hP hK
  obtain ⟨rfl, hZ, hh⟩ := hP
  have hx := Bd.exec
  have hby := Bd.bytes
  have hml : c.maxLocals = 1 := hml0
  have hown : s.vm.findClass "java/util/Optional" = some m.cls := findClass_of_methodNamed Bd.named
  have hnm := (name_of_methodNamed Bd.named Bd.method).1
  have X0 : Stand p l e ({ frames := 0, cells := 0, slots := 0, locals := 0 } : Room) s m #[(.ref u0)] below meth c s₁ [] 0 0 := Stand.of_body Bd
  have e0 : s₁.heap = h0 := by rw [← hh, Bd.state]; rfl
  have N0 := Fr.nil n0
  change Go p.tables e below _ _
  refine own_on (B := s₁.setTop (mkF m 0 #[rv u0] [])) (fun tz kz => castTop (own_ef_12a m u0) kz) ?_
  refine own_on (B := s₁.setTop (mkF m 1 #[rv u0] [(.ref u0)])) (fun tz kz => ?_) ?_
  · show sT p e below s₁ (mkF m 0 #[rv u0] []) tz
    refine XS.aloadN X0.here hx rfl (hb hby own_d12_0) rfl rfl ?_
    exact kz
  obtain ⟨T1, X1, e1, st1⟩ := getF X0 hx hZ hown (host := "") (Or.inl (own_w hw 68 rfl)) Via.refl e0 Ff (g := (mkF m 1 #[rv u0] [(.ref u0)])) rfl rfl (hb hby own_d12_1)
  refine own_on (B := T1.setTop (mkF m 4 #[rv u0] [.null])) (fun tz kz => st1 _ kz) ?_
  refine own_on (B := T1.setTop (mkF m 12 #[rv u0] [(.int (0 : Int32))])) (fun tz kz => ?_) ?_
  · show sT p e below T1 (mkF m 4 #[rv u0] [.null]) tz
    refine XS.ifnullYes X1.here hx rfl (pc0 := 4) (pc' := 11) rfl (hb hby own_d12_4) rfl (by decide) (by decide) ?_
    show sT p e below T1 (mkF m 11 #[rv u0] []) tz
    refine XS.iconst X1.here hx rfl (hb hby own_d12_11) ?_
    exact kz
  obtain ⟨fs, hr, hrun, hended, hW, hsame⟩ := X1.leave (v := some (.int (0 : Int32))) (fun h => by rw [Bd.returns] at h; cases h)
  refine own_of ⟨_, _, ?_, hrun, hended, _, _, rfl, ?_, ⟨_, rfl⟩, hW, hsame.mono (by decide) (by decide)⟩
  · show sT p e below T1 (mkF m 12 #[rv u0] [(.int (0 : Int32))]) _
    exact own_retN X1 hx (t := .boolean) Bd.returns (by simp) (by first | rfl | (split <;> first | rfl | (split <;> first | rfl | (split <;> rfl)))) (hb hby own_d12_12) hr
  · show Q12a Z u0 h0 n0 _ T1.heap _
    rw [e1]
    exact ⟨rfl, N0, rfl⟩
theorem own_ef_12b (m : MethodId) (x0 : Addr) : entryFrame m #[(.ref x0)] 1 = mkF m 0 #[rv x0] [] := by first | (simp [entryFrame, mkF, argsToLocals, Value.category]; done) | rfl
def Q12b (Z : State) (u0 : Addr) (r : Addr) (h0 : Heap) (n0 : Nat) (v : Option Value) (h : Heap) (L : List Loc) : Prop := v = some (.int 1) ∧ Fr n0 L ∧ h = h0
theorem own_d12_7 : decode jdk_32_method_6_code 7 = .ok (.iconst 1, 1) := by decide +kernel
theorem own_d12_8 : decode jdk_32_method_6_code 8 = .ok (.goto 4, 3) := by decide +kernel
set_option maxRecDepth 65536 in
set_option maxHeartbeats 40000000 in
theorem rm12b (l : Launch) (Z : State) (a0 : Array Value) (hw : ∀ d ∈ tables_1, d.before a0 Z = true) (ws : List Jvm.Cond) (u0 : Addr) (r : Addr) (h0 : Heap) (n0 : Nat) (O0 : Old Z n0 h0) (Ff : Fld Z h0 u0 "java/util/Optional" "value" "Ljava/lang/Object;" (.ref r)) :
    MetFree l (⟨"java/util/Optional", "isPresent", "()Z"⟩ : MethodName) (head1 (Jvm.Cond.code (⟨"java/util/Optional", "isPresent", "()Z"⟩ : MethodName) jdk_32_method_6_code 1 (some .boolean) :: ws) ({ frames := 0, cells := 0, slots := 0, locals := 0 } : Room)) (fun a U => a = #[(.ref u0)] ∧ Z.Warmed39 U.vm ∧ U.heap = h0) (fun _ _ _ _ _ => True) (fun _ U o U' => ∃ v L, o = .returned v ∧ Q12b Z u0 r h0 n0 v U'.heap L ∧ FrameEnd U o U' L ({ frames := 0, cells := 0, slots := 0, locals := 0 } : Room).cells ({ frames := 0, cells := 0, slots := 0, locals := 0 } : Room).slots) := by
  refine MetFree.of_bodySF (plainFor_of_name own_pn_java_util_Optional) hisR ?_
  intro p e s m args below meth c s₁ Bd hml0 hP hK
  obtain ⟨rfl, hZ, hh⟩ := hP
  have hx := Bd.exec
  have hby := Bd.bytes
  have hml : c.maxLocals = 1 := hml0
  have hown : s.vm.findClass "java/util/Optional" = some m.cls := findClass_of_methodNamed Bd.named
  have hnm := (name_of_methodNamed Bd.named Bd.method).1
  have X0 : Stand p l e ({ frames := 0, cells := 0, slots := 0, locals := 0 } : Room) s m #[(.ref u0)] below meth c s₁ [] 0 0 := Stand.of_body Bd
  have e0 : s₁.heap = h0 := by rw [← hh, Bd.state]; rfl
  have N0 := Fr.nil n0
  change Go p.tables e below _ _
  refine own_on (B := s₁.setTop (mkF m 0 #[rv u0] [])) (fun tz kz => castTop (own_ef_12b m u0) kz) ?_
  refine own_on (B := s₁.setTop (mkF m 1 #[rv u0] [(.ref u0)])) (fun tz kz => ?_) ?_
  · show sT p e below s₁ (mkF m 0 #[rv u0] []) tz
    refine XS.aloadN X0.here hx rfl (hb hby own_d12_0) rfl rfl ?_
    exact kz
  obtain ⟨T1, X1, e1, st1⟩ := getF X0 hx hZ hown (host := "") (Or.inl (own_w hw 68 rfl)) Via.refl e0 Ff (g := (mkF m 1 #[rv u0] [(.ref u0)])) rfl rfl (hb hby own_d12_1)
  refine own_on (B := T1.setTop (mkF m 4 #[rv u0] [(.ref r)])) (fun tz kz => st1 _ kz) ?_
  refine own_on (B := T1.setTop (mkF m 12 #[rv u0] [(.int (1 : Int32))])) (fun tz kz => ?_) ?_
  · show sT p e below T1 (mkF m 4 #[rv u0] [(.ref r)]) tz
    refine XS.ifnullNo X1.here hx rfl (hb hby own_d12_4) rfl ?_
    show sT p e below T1 (mkF m 7 #[rv u0] []) tz
    refine XS.iconst X1.here hx rfl (hb hby own_d12_7) ?_
    show sT p e below T1 (mkF m 8 #[rv u0] [(.int (1 : Int32))]) tz
    refine XS.goto X1.here hx rfl (pc0 := 8) (pc' := 12) rfl (hb hby own_d12_8) (by decide) (by decide) ?_
    exact kz
  obtain ⟨fs, hr, hrun, hended, hW, hsame⟩ := X1.leave (v := some (.int (1 : Int32))) (fun h => by rw [Bd.returns] at h; cases h)
  refine own_of ⟨_, _, ?_, hrun, hended, _, _, rfl, ?_, ⟨_, rfl⟩, hW, hsame.mono (by decide) (by decide)⟩
  · show sT p e below T1 (mkF m 12 #[rv u0] [(.int (1 : Int32))]) _
    exact own_retN X1 hx (t := .boolean) Bd.returns (by simp) (by first | rfl | (split <;> first | rfl | (split <;> first | rfl | (split <;> rfl)))) (hb hby own_d12_12) hr
  · show Q12b Z u0 r h0 n0 _ T1.heap _
    rw [e1]
    exact ⟨rfl, N0, rfl⟩
theorem own_ef_13 (m : MethodId) (x0 : Addr) : entryFrame m #[(.ref x0)] 1 = mkF m 0 #[rv x0] [] := by first | (simp [entryFrame, mkF, argsToLocals, Value.category]; done) | rfl
def Q13 (Z : State) (u0 : Addr) (r : Addr) (h0 : Heap) (n0 : Nat) (v : Option Value) (h : Heap) (L : List Loc) : Prop := v = some (.ref r) ∧ Fr n0 L ∧ h = h0
theorem own_d13_0 : decode jdk_32_method_5_code 0 = .ok (.aload_n 0, 1) := by decide +kernel
theorem own_d13_1 : decode jdk_32_method_5_code 1 = .ok (.getfield 13, 3) := by decide +kernel
theorem own_d13_4 : decode jdk_32_method_5_code 4 = .ok (.ifnonnull 13, 3) := by decide +kernel
theorem own_d13_17 : decode jdk_32_method_5_code 17 = .ok (.aload_n 0, 1) := by decide +kernel
theorem own_d13_18 : decode jdk_32_method_5_code 18 = .ok (.getfield 13, 3) := by decide +kernel
theorem own_d13_21 : decode jdk_32_method_5_code 21 = .ok (.areturn, 1) := by decide +kernel
set_option maxRecDepth 65536 in
set_option maxHeartbeats 40000000 in
theorem rm13 (l : Launch) (Z : State) (a0 : Array Value) (hw : ∀ d ∈ tables_1, d.before a0 Z = true) (ws : List Jvm.Cond) (u0 : Addr) (r : Addr) (h0 : Heap) (n0 : Nat) (O0 : Old Z n0 h0) (Ff : Fld Z h0 u0 "java/util/Optional" "value" "Ljava/lang/Object;" (.ref r)) :
    MetFree l (⟨"java/util/Optional", "get", "()Ljava/lang/Object;"⟩ : MethodName) (head1 (Jvm.Cond.code (⟨"java/util/Optional", "get", "()Ljava/lang/Object;"⟩ : MethodName) jdk_32_method_5_code 1 (some (.object "java/lang/Object")) :: ws) ({ frames := 0, cells := 0, slots := 0, locals := 0 } : Room)) (fun a U => a = #[(.ref u0)] ∧ Z.Warmed39 U.vm ∧ U.heap = h0) (fun _ _ _ _ _ => True) (fun _ U o U' => ∃ v L, o = .returned v ∧ Q13 Z u0 r h0 n0 v U'.heap L ∧ FrameEnd U o U' L ({ frames := 0, cells := 0, slots := 0, locals := 0 } : Room).cells ({ frames := 0, cells := 0, slots := 0, locals := 0 } : Room).slots) := by
  refine MetFree.of_bodySF (plainFor_of_name own_pn_java_util_Optional) hisR ?_
  intro p e s m args below meth c s₁ Bd hml0 hP hK
  obtain ⟨rfl, hZ, hh⟩ := hP
  have hx := Bd.exec
  have hby := Bd.bytes
  have hml : c.maxLocals = 1 := hml0
  have hown : s.vm.findClass "java/util/Optional" = some m.cls := findClass_of_methodNamed Bd.named
  have hnm := (name_of_methodNamed Bd.named Bd.method).1
  have X0 : Stand p l e ({ frames := 0, cells := 0, slots := 0, locals := 0 } : Room) s m #[(.ref u0)] below meth c s₁ [] 0 0 := Stand.of_body Bd
  have e0 : s₁.heap = h0 := by rw [← hh, Bd.state]; rfl
  have N0 := Fr.nil n0
  change Go p.tables e below _ _
  refine own_on (B := s₁.setTop (mkF m 0 #[rv u0] [])) (fun tz kz => castTop (own_ef_13 m u0) kz) ?_
  refine own_on (B := s₁.setTop (mkF m 1 #[rv u0] [(.ref u0)])) (fun tz kz => ?_) ?_
  · show sT p e below s₁ (mkF m 0 #[rv u0] []) tz
    refine XS.aloadN X0.here hx rfl (hb hby own_d13_0) rfl rfl ?_
    exact kz
  obtain ⟨T1, X1, e1, st1⟩ := getF X0 hx hZ hown (host := "") (Or.inl (own_w hw 68 rfl)) Via.refl e0 Ff (g := (mkF m 1 #[rv u0] [(.ref u0)])) rfl rfl (hb hby own_d13_1)
  refine own_on (B := T1.setTop (mkF m 4 #[rv u0] [(.ref r)])) (fun tz kz => st1 _ kz) ?_
  refine own_on (B := T1.setTop (mkF m 18 #[rv u0] [(.ref u0)])) (fun tz kz => ?_) ?_
  · show sT p e below T1 (mkF m 4 #[rv u0] [(.ref r)]) tz
    refine XS.ifnonnullYes X1.here hx rfl (pc0 := 4) (pc' := 17) rfl (hb hby own_d13_4) rfl (by decide) (by decide) ?_
    show sT p e below T1 (mkF m 17 #[rv u0] []) tz
    refine XS.aloadN X1.here hx rfl (hb hby own_d13_17) rfl rfl ?_
    exact kz
  obtain ⟨T2, X2, e2, st2⟩ := getF X1 hx hZ hown (host := "") (Or.inl (own_w hw 68 rfl)) Via.refl e1 Ff (g := (mkF m 18 #[rv u0] [(.ref u0)])) rfl rfl (hb hby own_d13_18)
  refine own_on (B := T2.setTop (mkF m 21 #[rv u0] [(.ref r)])) (fun tz kz => st2 _ kz) ?_
  obtain ⟨fs, hr, hrun, hended, hW, hsame⟩ := X2.leave (v := some (.ref r)) (fun h => by rw [Bd.returns] at h; cases h)
  refine own_of ⟨_, _, ?_, hrun, hended, _, _, rfl, ?_, ⟨_, rfl⟩, hW, hsame.mono (by decide) (by decide)⟩
  · show sT p e below T2 (mkF m 21 #[rv u0] [(.ref r)]) _
    exact own_retV X2 hx Bd.returns rfl rfl (hb hby own_d13_21) hr
  · show Q13 Z u0 r h0 n0 _ T2.heap _
    rw [e2]
    exact ⟨rfl, N0, rfl⟩
theorem own_idx (x k : Int32) (h : (x &&& (2147483647 : Int32)) % (5 : Int32) = k) : k = 0 ∨ k = 1 ∨ k = 2 ∨ k = 3 ∨ k = 4 := by
  have e := c_mask x 2147483647 31 (by decide) (by decide)
  have e2 := (c_irem (x &&& 2147483647) 5 5 (by decide)).1 (by omega)
  rw [h] at e2
  have z : (0 : Int32).toInt = 0 := rfl
  have z1 : (1 : Int32).toInt = 1 := rfl
  have z2 : (2 : Int32).toInt = 2 := rfl
  have z3 : (3 : Int32).toInt = 3 := rfl
  have z4 : (4 : Int32).toInt = 4 := rfl
  simp only [← Int32.toInt_inj]; omega
theorem own_ln0 {ln cd : Int32} (h : OwnLC (0 : Int32) ln cd) : (ln >>> (cd &&& 31)) = (0 : Int32) := by rcases h with ⟨rfl, rfl⟩ | ⟨rfl, rfl⟩ <;> rfl
theorem own_ln1 {ln cd : Int32} (h : OwnLC (1 : Int32) ln cd) : (ln >>> (cd &&& 31)) = (1 : Int32) := by rcases h with ⟨rfl, rfl⟩ | ⟨rfl, rfl⟩ <;> rfl
theorem own_ln2 {ln cd : Int32} (h : OwnLC (2 : Int32) ln cd) : (ln >>> (cd &&& 31)) = (2 : Int32) := by rcases h with ⟨rfl, rfl⟩ | ⟨rfl, rfl⟩ <;> rfl
theorem own_ln3 {ln cd : Int32} (h : OwnLC (3 : Int32) ln cd) : (ln >>> (cd &&& 31)) = (3 : Int32) := by rcases h with ⟨rfl, rfl⟩ | ⟨rfl, rfl⟩ <;> rfl
theorem own_ln4 {ln cd : Int32} (h : OwnLC (4 : Int32) ln cd) : (ln >>> (cd &&& 31)) = (4 : Int32) := by rcases h with ⟨rfl, rfl⟩ | ⟨rfl, rfl⟩ <;> rfl
theorem own_ef_0 (m : MethodId) (x0 : Int32) (x1 : Int32) (x2 : Int32) : entryFrame m #[(.int x0), (.int x1), (.int x2)] maxLocals = mkF m 0 #[iv x0, iv x1, iv x2, .unset, .unset, .unset, .unset, .unset, .unset, .unset, .unset, .unset] [] := by first | (simp [entryFrame, mkF, argsToLocals, Value.category, maxLocals]; done) | rfl
def Q0 (Z : State) (p0 : Int32) (p1 : Int32) (p2 : Int32) (cS : Int32) (wE : Addr) (h0 : Heap) (n0 : Nat) (v : Option Value) (h : Heap) (L : List Loc) : Prop := v = some (.int 1) ∧ Fr n0 L
theorem own_pd14 : parseMethodDescriptor "(ICCCC)Ljava/lang/String;" = some ⟨[.int, .char, .char, .char, .char], some (.object "java/lang/String")⟩ := by decide +kernel
theorem own_pd15 : parseMethodDescriptor "(Ljava/lang/String;)Lcom/example/firm_gate/firmgate/TokenDecision;" = some ⟨[(.object "java/lang/String")], some (.object "com/example/firm_gate/firmgate/TokenDecision")⟩ := by decide +kernel
theorem own_pd16 : parseMethodDescriptor "()Z" = some ⟨[], some .boolean⟩ := by decide +kernel
theorem own_pd17 : parseMethodDescriptor "()Ljava/util/Optional;" = some ⟨[], some (.object "java/util/Optional")⟩ := by decide +kernel
theorem own_pd18 : parseMethodDescriptor "()Ljava/lang/Object;" = some ⟨[], some (.object "java/lang/Object")⟩ := by decide +kernel
theorem own_pd19 : parseMethodDescriptor "()I" = some ⟨[], some .int⟩ := by decide +kernel
theorem own_pd20 : parseMethodDescriptor "(Ljava/lang/Object;)Z" = some ⟨[(.object "java/lang/Object")], some .boolean⟩ := by decide +kernel
set_option maxRecDepth 65536 in
set_option maxHeartbeats 40000000 in
theorem rm0 (l : Launch) (Z : State) (a0 : Array Value) (hw : ∀ d ∈ tables_1, d.before a0 Z = true) (ws : List Jvm.Cond) (p0 : Int32) (p1 : Int32) (p2 : Int32) (cS : Int32) (wE : Addr) (h0 : Heap) (n0 : Nat) (O0 : Old Z n0 h0) (S_cs : Sta Z Z.heap "java/lang/String" "COMPACT_STRINGS" "Z" (.int cS)) (hcS : ¬ (cS = (0 : Int32))) (S_as : Sta Z Z.heap "java/lang/StringUTF16" "$assertionsDisabled" "Z" (.int 1)) (S_hi : Sta Z Z.heap "java/lang/StringUTF16" "HI_BYTE_SHIFT" "I" (.int 0)) (S_lo : Sta Z Z.heap "java/lang/StringUTF16" "LO_BYTE_SHIFT" "I" (.int 8)) (hheld : Jvm.Lit.constHeld Z "java/lang/String" 7) (hcw : Jvm.Lit.compactW.before a0 Z = true) (S_E : Sta Z Z.heap "java/util/Optional" "EMPTY" "Ljava/util/Optional;" (.ref wE)) (E_E : Exa Z Z.heap wE "java/util/Optional") (F_E : Fld Z Z.heap wE "java/util/Optional" "value" "Ljava/lang/Object;" .null) :
    MetFree l x (head1 (Jvm.Cond.code x code maxLocals ret :: ws) room_1) (fun a U => a = #[(.int p0), (.int p1), (.int p2)] ∧ Z.Warmed39 U.vm ∧ U.heap = h0 ∧ U.vm.interned = Z.vm.interned) (fun _ _ _ _ _ => True) (fun _ U o U' => ∃ v L, o = .returned v ∧ Q0 Z p0 p1 p2 cS wE h0 n0 v U'.heap L ∧ ReturnedEndW U o U' L room_1.cells room_1.slots) := by
  refine MetFree.of_bodySF (plainFor_of_name own_pn_com_example_firm_gate_firmgate_TokenDecisionAcceptPinLaw) hisR ?_
  intro p e s m args below meth c s₁ Bd hml0 hP hK
  obtain ⟨rfl, hZ, hh, hI⟩ := hP
  have hx := Bd.exec
  have hby := Bd.bytes
  have hml : c.maxLocals = 12 := hml0
  have hown : s.vm.findClass "com/example/firm_gate/firmgate/TokenDecisionAcceptPinLaw" = some m.cls := findClass_of_methodNamed Bd.named
  have hnm := (name_of_methodNamed Bd.named Bd.method).1
  have X0 : Stand p l e room_1 s m #[(.int p0), (.int p1), (.int p2)] below meth c s₁ [] 0 0 := Stand.of_body Bd
  have e0 : s₁.heap = h0 := by rw [← hh, Bd.state]; rfl
  have N0 := Fr.nil n0
  change Go p.tables e below _ _
  refine own_on (B := s₁.setTop (mkF m 0 #[iv p0, iv p1, iv p2, .unset, .unset, .unset, .unset, .unset, .unset, .unset, .unset, .unset] [])) (fun tz kz => castTop (own_ef_0 m p0 p1 p2) kz) ?_
  refine own_on (B := s₁.setTop (mkF m 41 #[iv p0, iv p1, iv p2, iv ((p0 &&& (2147483647 : Int32)) % (5 : Int32)), iv ((p1 &&& (65535 : Int32)).toUInt32.toUInt16.toUInt32.toInt32), iv ((((p1.toUInt32 >>> ((16 : Int32) &&& 31).toUInt32).toInt32) &&& (65535 : Int32)).toUInt32.toUInt16.toUInt32.toInt32), iv ((p2 &&& (65535 : Int32)).toUInt32.toUInt16.toUInt32.toInt32), iv ((((p2.toUInt32 >>> ((16 : Int32) &&& 31).toUInt32).toInt32) &&& (65535 : Int32)).toUInt32.toUInt16.toUInt32.toInt32), .unset, .unset, .unset, .unset] [])) (fun tz kz => ?_) ?_
  · show sT p e below s₁ (mkF m 0 #[iv p0, iv p1, iv p2, .unset, .unset, .unset, .unset, .unset, .unset, .unset, .unset, .unset] []) tz
    refine XS.iloadN X0.here hx rfl (hb hby at_0) rfl ?_
    show sT p e below s₁ (mkF m 1 #[iv p0, iv p1, iv p2, .unset, .unset, .unset, .unset, .unset, .unset, .unset, .unset, .unset] [(.int p0)]) tz
    refine X0.ldcInt hx hown (mvT hZ (own_w hw 0 rfl)) (g := (mkF m 1 #[iv p0, iv p1, iv p2, .unset, .unset, .unset, .unset, .unset, .unset, .unset, .unset, .unset] [(.int p0)])) rfl (hb hby at_1) _ ?_
    show sT p e below s₁ (mkF m 3 #[iv p0, iv p1, iv p2, .unset, .unset, .unset, .unset, .unset, .unset, .unset, .unset, .unset] [(.int (2147483647 : Int32)), (.int p0)]) tz
    refine XS.iand X0.here hx rfl (hb hby at_3) rfl ?_
    show sT p e below s₁ (mkF m 4 #[iv p0, iv p1, iv p2, .unset, .unset, .unset, .unset, .unset, .unset, .unset, .unset, .unset] [(.int (p0 &&& (2147483647 : Int32)))]) tz
    refine XS.iconst X0.here hx rfl (hb hby at_4) ?_
    show sT p e below s₁ (mkF m 5 #[iv p0, iv p1, iv p2, .unset, .unset, .unset, .unset, .unset, .unset, .unset, .unset, .unset] [(.int (5 : Int32)), (.int (p0 &&& (2147483647 : Int32)))]) tz
    refine iremM (g := (mkF m 5 #[iv p0, iv p1, iv p2, .unset, .unset, .unset, .unset, .unset, .unset, .unset, .unset, .unset] [(.int (5 : Int32)), (.int (p0 &&& (2147483647 : Int32)))])) X0 hx rfl (hb hby at_5) rfl (by decide) ?_
    show sT p e below s₁ (mkF m 6 #[iv p0, iv p1, iv p2, .unset, .unset, .unset, .unset, .unset, .unset, .unset, .unset, .unset] [(.int ((p0 &&& (2147483647 : Int32)) % (5 : Int32)))]) tz
    refine XS.istoreN X0.here hx rfl (hb hby at_6) rfl (l' := #[iv p0, iv p1, iv p2, iv ((p0 &&& (2147483647 : Int32)) % (5 : Int32)), .unset, .unset, .unset, .unset, .unset, .unset, .unset, .unset]) rfl ?_
    show sT p e below s₁ (mkF m 7 #[iv p0, iv p1, iv p2, iv ((p0 &&& (2147483647 : Int32)) % (5 : Int32)), .unset, .unset, .unset, .unset, .unset, .unset, .unset, .unset] []) tz
    refine XS.iloadN X0.here hx rfl (hb hby at_7) rfl ?_
    show sT p e below s₁ (mkF m 8 #[iv p0, iv p1, iv p2, iv ((p0 &&& (2147483647 : Int32)) % (5 : Int32)), .unset, .unset, .unset, .unset, .unset, .unset, .unset, .unset] [(.int p1)]) tz
    refine X0.ldcInt hx hown (mvT hZ (own_w hw 1 rfl)) (g := (mkF m 8 #[iv p0, iv p1, iv p2, iv ((p0 &&& (2147483647 : Int32)) % (5 : Int32)), .unset, .unset, .unset, .unset, .unset, .unset, .unset, .unset] [(.int p1)])) rfl (hb hby at_8) _ ?_
    show sT p e below s₁ (mkF m 10 #[iv p0, iv p1, iv p2, iv ((p0 &&& (2147483647 : Int32)) % (5 : Int32)), .unset, .unset, .unset, .unset, .unset, .unset, .unset, .unset] [(.int (65535 : Int32)), (.int p1)]) tz
    refine XS.iand X0.here hx rfl (hb hby at_10) rfl ?_
    show sT p e below s₁ (mkF m 11 #[iv p0, iv p1, iv p2, iv ((p0 &&& (2147483647 : Int32)) % (5 : Int32)), .unset, .unset, .unset, .unset, .unset, .unset, .unset, .unset] [(.int (p1 &&& (65535 : Int32)))]) tz
    refine XS.i2c X0.here hx rfl (hb hby at_11) rfl ?_
    show sT p e below s₁ (mkF m 12 #[iv p0, iv p1, iv p2, iv ((p0 &&& (2147483647 : Int32)) % (5 : Int32)), .unset, .unset, .unset, .unset, .unset, .unset, .unset, .unset] [(.int ((p1 &&& (65535 : Int32)).toUInt32.toUInt16.toUInt32.toInt32))]) tz
    refine XS.istore X0.here hx rfl (hb hby at_12) rfl (l' := #[iv p0, iv p1, iv p2, iv ((p0 &&& (2147483647 : Int32)) % (5 : Int32)), iv ((p1 &&& (65535 : Int32)).toUInt32.toUInt16.toUInt32.toInt32), .unset, .unset, .unset, .unset, .unset, .unset, .unset]) rfl ?_
    show sT p e below s₁ (mkF m 14 #[iv p0, iv p1, iv p2, iv ((p0 &&& (2147483647 : Int32)) % (5 : Int32)), iv ((p1 &&& (65535 : Int32)).toUInt32.toUInt16.toUInt32.toInt32), .unset, .unset, .unset, .unset, .unset, .unset, .unset] []) tz
    refine XS.iloadN X0.here hx rfl (hb hby at_14) rfl ?_
    show sT p e below s₁ (mkF m 15 #[iv p0, iv p1, iv p2, iv ((p0 &&& (2147483647 : Int32)) % (5 : Int32)), iv ((p1 &&& (65535 : Int32)).toUInt32.toUInt16.toUInt32.toInt32), .unset, .unset, .unset, .unset, .unset, .unset, .unset] [(.int p1)]) tz
    refine XS.bipush X0.here hx rfl (hb hby at_15) ?_
    show sT p e below s₁ (mkF m 17 #[iv p0, iv p1, iv p2, iv ((p0 &&& (2147483647 : Int32)) % (5 : Int32)), iv ((p1 &&& (65535 : Int32)).toUInt32.toUInt16.toUInt32.toInt32), .unset, .unset, .unset, .unset, .unset, .unset, .unset] [(.int (16 : Int32)), (.int p1)]) tz
    refine XS.iushr X0.here hx rfl (hb hby at_17) rfl ?_
    show sT p e below s₁ (mkF m 18 #[iv p0, iv p1, iv p2, iv ((p0 &&& (2147483647 : Int32)) % (5 : Int32)), iv ((p1 &&& (65535 : Int32)).toUInt32.toUInt16.toUInt32.toInt32), .unset, .unset, .unset, .unset, .unset, .unset, .unset] [(.int ((p1.toUInt32 >>> ((16 : Int32) &&& 31).toUInt32).toInt32))]) tz
    refine X0.ldcInt hx hown (mvT hZ (own_w hw 1 rfl)) (g := (mkF m 18 #[iv p0, iv p1, iv p2, iv ((p0 &&& (2147483647 : Int32)) % (5 : Int32)), iv ((p1 &&& (65535 : Int32)).toUInt32.toUInt16.toUInt32.toInt32), .unset, .unset, .unset, .unset, .unset, .unset, .unset] [(.int ((p1.toUInt32 >>> ((16 : Int32) &&& 31).toUInt32).toInt32))])) rfl (hb hby at_18) _ ?_
    show sT p e below s₁ (mkF m 20 #[iv p0, iv p1, iv p2, iv ((p0 &&& (2147483647 : Int32)) % (5 : Int32)), iv ((p1 &&& (65535 : Int32)).toUInt32.toUInt16.toUInt32.toInt32), .unset, .unset, .unset, .unset, .unset, .unset, .unset] [(.int (65535 : Int32)), (.int ((p1.toUInt32 >>> ((16 : Int32) &&& 31).toUInt32).toInt32))]) tz
    refine XS.iand X0.here hx rfl (hb hby at_20) rfl ?_
    show sT p e below s₁ (mkF m 21 #[iv p0, iv p1, iv p2, iv ((p0 &&& (2147483647 : Int32)) % (5 : Int32)), iv ((p1 &&& (65535 : Int32)).toUInt32.toUInt16.toUInt32.toInt32), .unset, .unset, .unset, .unset, .unset, .unset, .unset] [(.int (((p1.toUInt32 >>> ((16 : Int32) &&& 31).toUInt32).toInt32) &&& (65535 : Int32)))]) tz
    refine XS.i2c X0.here hx rfl (hb hby at_21) rfl ?_
    show sT p e below s₁ (mkF m 22 #[iv p0, iv p1, iv p2, iv ((p0 &&& (2147483647 : Int32)) % (5 : Int32)), iv ((p1 &&& (65535 : Int32)).toUInt32.toUInt16.toUInt32.toInt32), .unset, .unset, .unset, .unset, .unset, .unset, .unset] [(.int ((((p1.toUInt32 >>> ((16 : Int32) &&& 31).toUInt32).toInt32) &&& (65535 : Int32)).toUInt32.toUInt16.toUInt32.toInt32))]) tz
    refine XS.istore X0.here hx rfl (hb hby at_22) rfl (l' := #[iv p0, iv p1, iv p2, iv ((p0 &&& (2147483647 : Int32)) % (5 : Int32)), iv ((p1 &&& (65535 : Int32)).toUInt32.toUInt16.toUInt32.toInt32), iv ((((p1.toUInt32 >>> ((16 : Int32) &&& 31).toUInt32).toInt32) &&& (65535 : Int32)).toUInt32.toUInt16.toUInt32.toInt32), .unset, .unset, .unset, .unset, .unset, .unset]) rfl ?_
    show sT p e below s₁ (mkF m 24 #[iv p0, iv p1, iv p2, iv ((p0 &&& (2147483647 : Int32)) % (5 : Int32)), iv ((p1 &&& (65535 : Int32)).toUInt32.toUInt16.toUInt32.toInt32), iv ((((p1.toUInt32 >>> ((16 : Int32) &&& 31).toUInt32).toInt32) &&& (65535 : Int32)).toUInt32.toUInt16.toUInt32.toInt32), .unset, .unset, .unset, .unset, .unset, .unset] []) tz
    refine XS.iloadN X0.here hx rfl (hb hby at_24) rfl ?_
    show sT p e below s₁ (mkF m 25 #[iv p0, iv p1, iv p2, iv ((p0 &&& (2147483647 : Int32)) % (5 : Int32)), iv ((p1 &&& (65535 : Int32)).toUInt32.toUInt16.toUInt32.toInt32), iv ((((p1.toUInt32 >>> ((16 : Int32) &&& 31).toUInt32).toInt32) &&& (65535 : Int32)).toUInt32.toUInt16.toUInt32.toInt32), .unset, .unset, .unset, .unset, .unset, .unset] [(.int p2)]) tz
    refine X0.ldcInt hx hown (mvT hZ (own_w hw 1 rfl)) (g := (mkF m 25 #[iv p0, iv p1, iv p2, iv ((p0 &&& (2147483647 : Int32)) % (5 : Int32)), iv ((p1 &&& (65535 : Int32)).toUInt32.toUInt16.toUInt32.toInt32), iv ((((p1.toUInt32 >>> ((16 : Int32) &&& 31).toUInt32).toInt32) &&& (65535 : Int32)).toUInt32.toUInt16.toUInt32.toInt32), .unset, .unset, .unset, .unset, .unset, .unset] [(.int p2)])) rfl (hb hby at_25) _ ?_
    show sT p e below s₁ (mkF m 27 #[iv p0, iv p1, iv p2, iv ((p0 &&& (2147483647 : Int32)) % (5 : Int32)), iv ((p1 &&& (65535 : Int32)).toUInt32.toUInt16.toUInt32.toInt32), iv ((((p1.toUInt32 >>> ((16 : Int32) &&& 31).toUInt32).toInt32) &&& (65535 : Int32)).toUInt32.toUInt16.toUInt32.toInt32), .unset, .unset, .unset, .unset, .unset, .unset] [(.int (65535 : Int32)), (.int p2)]) tz
    refine XS.iand X0.here hx rfl (hb hby at_27) rfl ?_
    show sT p e below s₁ (mkF m 28 #[iv p0, iv p1, iv p2, iv ((p0 &&& (2147483647 : Int32)) % (5 : Int32)), iv ((p1 &&& (65535 : Int32)).toUInt32.toUInt16.toUInt32.toInt32), iv ((((p1.toUInt32 >>> ((16 : Int32) &&& 31).toUInt32).toInt32) &&& (65535 : Int32)).toUInt32.toUInt16.toUInt32.toInt32), .unset, .unset, .unset, .unset, .unset, .unset] [(.int (p2 &&& (65535 : Int32)))]) tz
    refine XS.i2c X0.here hx rfl (hb hby at_28) rfl ?_
    show sT p e below s₁ (mkF m 29 #[iv p0, iv p1, iv p2, iv ((p0 &&& (2147483647 : Int32)) % (5 : Int32)), iv ((p1 &&& (65535 : Int32)).toUInt32.toUInt16.toUInt32.toInt32), iv ((((p1.toUInt32 >>> ((16 : Int32) &&& 31).toUInt32).toInt32) &&& (65535 : Int32)).toUInt32.toUInt16.toUInt32.toInt32), .unset, .unset, .unset, .unset, .unset, .unset] [(.int ((p2 &&& (65535 : Int32)).toUInt32.toUInt16.toUInt32.toInt32))]) tz
    refine XS.istore X0.here hx rfl (hb hby at_29) rfl (l' := #[iv p0, iv p1, iv p2, iv ((p0 &&& (2147483647 : Int32)) % (5 : Int32)), iv ((p1 &&& (65535 : Int32)).toUInt32.toUInt16.toUInt32.toInt32), iv ((((p1.toUInt32 >>> ((16 : Int32) &&& 31).toUInt32).toInt32) &&& (65535 : Int32)).toUInt32.toUInt16.toUInt32.toInt32), iv ((p2 &&& (65535 : Int32)).toUInt32.toUInt16.toUInt32.toInt32), .unset, .unset, .unset, .unset, .unset]) rfl ?_
    show sT p e below s₁ (mkF m 31 #[iv p0, iv p1, iv p2, iv ((p0 &&& (2147483647 : Int32)) % (5 : Int32)), iv ((p1 &&& (65535 : Int32)).toUInt32.toUInt16.toUInt32.toInt32), iv ((((p1.toUInt32 >>> ((16 : Int32) &&& 31).toUInt32).toInt32) &&& (65535 : Int32)).toUInt32.toUInt16.toUInt32.toInt32), iv ((p2 &&& (65535 : Int32)).toUInt32.toUInt16.toUInt32.toInt32), .unset, .unset, .unset, .unset, .unset] []) tz
    refine XS.iloadN X0.here hx rfl (hb hby at_31) rfl ?_
    show sT p e below s₁ (mkF m 32 #[iv p0, iv p1, iv p2, iv ((p0 &&& (2147483647 : Int32)) % (5 : Int32)), iv ((p1 &&& (65535 : Int32)).toUInt32.toUInt16.toUInt32.toInt32), iv ((((p1.toUInt32 >>> ((16 : Int32) &&& 31).toUInt32).toInt32) &&& (65535 : Int32)).toUInt32.toUInt16.toUInt32.toInt32), iv ((p2 &&& (65535 : Int32)).toUInt32.toUInt16.toUInt32.toInt32), .unset, .unset, .unset, .unset, .unset] [(.int p2)]) tz
    refine XS.bipush X0.here hx rfl (hb hby at_32) ?_
    show sT p e below s₁ (mkF m 34 #[iv p0, iv p1, iv p2, iv ((p0 &&& (2147483647 : Int32)) % (5 : Int32)), iv ((p1 &&& (65535 : Int32)).toUInt32.toUInt16.toUInt32.toInt32), iv ((((p1.toUInt32 >>> ((16 : Int32) &&& 31).toUInt32).toInt32) &&& (65535 : Int32)).toUInt32.toUInt16.toUInt32.toInt32), iv ((p2 &&& (65535 : Int32)).toUInt32.toUInt16.toUInt32.toInt32), .unset, .unset, .unset, .unset, .unset] [(.int (16 : Int32)), (.int p2)]) tz
    refine XS.iushr X0.here hx rfl (hb hby at_34) rfl ?_
    show sT p e below s₁ (mkF m 35 #[iv p0, iv p1, iv p2, iv ((p0 &&& (2147483647 : Int32)) % (5 : Int32)), iv ((p1 &&& (65535 : Int32)).toUInt32.toUInt16.toUInt32.toInt32), iv ((((p1.toUInt32 >>> ((16 : Int32) &&& 31).toUInt32).toInt32) &&& (65535 : Int32)).toUInt32.toUInt16.toUInt32.toInt32), iv ((p2 &&& (65535 : Int32)).toUInt32.toUInt16.toUInt32.toInt32), .unset, .unset, .unset, .unset, .unset] [(.int ((p2.toUInt32 >>> ((16 : Int32) &&& 31).toUInt32).toInt32))]) tz
    refine X0.ldcInt hx hown (mvT hZ (own_w hw 1 rfl)) (g := (mkF m 35 #[iv p0, iv p1, iv p2, iv ((p0 &&& (2147483647 : Int32)) % (5 : Int32)), iv ((p1 &&& (65535 : Int32)).toUInt32.toUInt16.toUInt32.toInt32), iv ((((p1.toUInt32 >>> ((16 : Int32) &&& 31).toUInt32).toInt32) &&& (65535 : Int32)).toUInt32.toUInt16.toUInt32.toInt32), iv ((p2 &&& (65535 : Int32)).toUInt32.toUInt16.toUInt32.toInt32), .unset, .unset, .unset, .unset, .unset] [(.int ((p2.toUInt32 >>> ((16 : Int32) &&& 31).toUInt32).toInt32))])) rfl (hb hby at_35) _ ?_
    show sT p e below s₁ (mkF m 37 #[iv p0, iv p1, iv p2, iv ((p0 &&& (2147483647 : Int32)) % (5 : Int32)), iv ((p1 &&& (65535 : Int32)).toUInt32.toUInt16.toUInt32.toInt32), iv ((((p1.toUInt32 >>> ((16 : Int32) &&& 31).toUInt32).toInt32) &&& (65535 : Int32)).toUInt32.toUInt16.toUInt32.toInt32), iv ((p2 &&& (65535 : Int32)).toUInt32.toUInt16.toUInt32.toInt32), .unset, .unset, .unset, .unset, .unset] [(.int (65535 : Int32)), (.int ((p2.toUInt32 >>> ((16 : Int32) &&& 31).toUInt32).toInt32))]) tz
    refine XS.iand X0.here hx rfl (hb hby at_37) rfl ?_
    show sT p e below s₁ (mkF m 38 #[iv p0, iv p1, iv p2, iv ((p0 &&& (2147483647 : Int32)) % (5 : Int32)), iv ((p1 &&& (65535 : Int32)).toUInt32.toUInt16.toUInt32.toInt32), iv ((((p1.toUInt32 >>> ((16 : Int32) &&& 31).toUInt32).toInt32) &&& (65535 : Int32)).toUInt32.toUInt16.toUInt32.toInt32), iv ((p2 &&& (65535 : Int32)).toUInt32.toUInt16.toUInt32.toInt32), .unset, .unset, .unset, .unset, .unset] [(.int (((p2.toUInt32 >>> ((16 : Int32) &&& 31).toUInt32).toInt32) &&& (65535 : Int32)))]) tz
    refine XS.i2c X0.here hx rfl (hb hby at_38) rfl ?_
    show sT p e below s₁ (mkF m 39 #[iv p0, iv p1, iv p2, iv ((p0 &&& (2147483647 : Int32)) % (5 : Int32)), iv ((p1 &&& (65535 : Int32)).toUInt32.toUInt16.toUInt32.toInt32), iv ((((p1.toUInt32 >>> ((16 : Int32) &&& 31).toUInt32).toInt32) &&& (65535 : Int32)).toUInt32.toUInt16.toUInt32.toInt32), iv ((p2 &&& (65535 : Int32)).toUInt32.toUInt16.toUInt32.toInt32), .unset, .unset, .unset, .unset, .unset] [(.int ((((p2.toUInt32 >>> ((16 : Int32) &&& 31).toUInt32).toInt32) &&& (65535 : Int32)).toUInt32.toUInt16.toUInt32.toInt32))]) tz
    refine XS.istore X0.here hx rfl (hb hby at_39) rfl (l' := #[iv p0, iv p1, iv p2, iv ((p0 &&& (2147483647 : Int32)) % (5 : Int32)), iv ((p1 &&& (65535 : Int32)).toUInt32.toUInt16.toUInt32.toInt32), iv ((((p1.toUInt32 >>> ((16 : Int32) &&& 31).toUInt32).toInt32) &&& (65535 : Int32)).toUInt32.toUInt16.toUInt32.toInt32), iv ((p2 &&& (65535 : Int32)).toUInt32.toUInt16.toUInt32.toInt32), iv ((((p2.toUInt32 >>> ((16 : Int32) &&& 31).toUInt32).toInt32) &&& (65535 : Int32)).toUInt32.toUInt16.toUInt32.toInt32), .unset, .unset, .unset, .unset]) rfl ?_
    exact kz
  generalize hv_k : ((p0 &&& (2147483647 : Int32)) % (5 : Int32)) = k
  generalize hv_c0 : ((p1 &&& (65535 : Int32)).toUInt32.toUInt16.toUInt32.toInt32) = c0
  generalize hv_c1 : ((((p1.toUInt32 >>> ((16 : Int32) &&& 31).toUInt32).toInt32) &&& (65535 : Int32)).toUInt32.toUInt16.toUInt32.toInt32) = c1
  generalize hv_c2 : ((p2 &&& (65535 : Int32)).toUInt32.toUInt16.toUInt32.toInt32) = c2
  generalize hv_c3 : ((((p2.toUInt32 >>> ((16 : Int32) &&& 31).toUInt32).toInt32) &&& (65535 : Int32)).toUInt32.toUInt16.toUInt32.toInt32) = c3
  have hk5 := own_idx _ _ hv_k
  clear hv_k
  rcases hk5 with rfl | rfl | rfl | rfl | rfl
  · refine own_on (B := s₁.setTop (mkF m 50 #[iv p0, iv p1, iv p2, iv (0 : Int32), iv c0, iv c1, iv c2, iv c3, .unset, .unset, .unset, .unset] [(.int c3), (.int c2), (.int c1), (.int c0), (.int (0 : Int32))])) (fun tz kz => ?_) ?_
    · show sT p e below s₁ (mkF m 41 #[iv p0, iv p1, iv p2, iv (0 : Int32), iv c0, iv c1, iv c2, iv c3, .unset, .unset, .unset, .unset] []) tz
      refine XS.iloadN X0.here hx rfl (hb hby at_41) rfl ?_
      show sT p e below s₁ (mkF m 42 #[iv p0, iv p1, iv p2, iv (0 : Int32), iv c0, iv c1, iv c2, iv c3, .unset, .unset, .unset, .unset] [(.int (0 : Int32))]) tz
      refine XS.iload X0.here hx rfl (hb hby at_42) rfl ?_
      show sT p e below s₁ (mkF m 44 #[iv p0, iv p1, iv p2, iv (0 : Int32), iv c0, iv c1, iv c2, iv c3, .unset, .unset, .unset, .unset] [(.int c0), (.int (0 : Int32))]) tz
      refine XS.iload X0.here hx rfl (hb hby at_44) rfl ?_
      show sT p e below s₁ (mkF m 46 #[iv p0, iv p1, iv p2, iv (0 : Int32), iv c0, iv c1, iv c2, iv c3, .unset, .unset, .unset, .unset] [(.int c1), (.int c0), (.int (0 : Int32))]) tz
      refine XS.iload X0.here hx rfl (hb hby at_46) rfl ?_
      show sT p e below s₁ (mkF m 48 #[iv p0, iv p1, iv p2, iv (0 : Int32), iv c0, iv c1, iv c2, iv c3, .unset, .unset, .unset, .unset] [(.int c2), (.int c1), (.int c0), (.int (0 : Int32))]) tz
      refine XS.iload X0.here hx rfl (hb hby at_48) rfl ?_
      exact kz
    obtain ⟨_, _, ⟨T1, L1, k1, n1⟩, -, X1, hSc1, hgr1, ⟨Lc1, hQ1, l1, y1, z1⟩, st1⟩ := callSS X0 hx (y := (⟨"com/example/firm_gate/firmgate/TokenDecisionAcceptPinLaw", "make", "(ICCCC)Ljava/lang/String;"⟩ : MethodName)) hown (mvT hZ (own_w hw 2 rfl)) (mvT hZ (own_w hw 3 rfl)) (mvT hZ (own_w hw 4 rfl)) (mvT hZ (own_w hw 5 rfl)) (by decide) (own_backI (hI := hI) (W := 0) (rm1z l Z a0 hw [] c0 c1 c2 c3 cS h0 n0 O0 S_cs hcS S_as S_hi S_lo hheld hcw) hZ (own_w hw 5 rfl) (own_w hw 4 rfl) (by decide) (by decide)) (g := (mkF m 50 #[iv p0, iv p1, iv p2, iv (0 : Int32), iv c0, iv c1, iv c2, iv c3, .unset, .unset, .unset, .unset] [(.int c3), (.int c2), (.int c1), (.int c0), (.int (0 : Int32))])) rfl (by rw [hml]; rfl) (argsL := [(.int (0 : Int32)), (.int c0), (.int c1), (.int c2), (.int c3)]) (rest := []) (lenOf own_pd14 rfl) rfl (by show 2 * 0 + _ ≤ _; exact Nat.le_of_eq rfl) (hb hby at_50) (fun _ _ => ⟨rfl, e0, (by decide : 0 + 4 ≤ _), (by decide : 0 + 8 ≤ _)⟩)
    dsimp only [Pt.U, Pt.locs, Pt.cells, Pt.slots] at X1 l1 y1 z1 st1 hQ1 hSc1 hgr1
    subst l1 y1 z1
    have hS2 : s.Since s.vm 0 := State.WarmedH.since (State.WarmedH.refl s) 0
    obtain ⟨X1, hS1, hZ, hown⟩ := rebS hS2 (by rw [e0]; exact (Nat.zero_le _)) X1 hSc1 hgr1 hZ hown
    obtain ⟨d1, b1, ln1, cd1, rfl, Nq1, Kq1, zq1, Eq1, Fv1, Fc1, Vb1, LC1⟩ := hQ1
    have N1 := Fr.app N0 Nq1
    have g_d1 : n0 ≤ d1 := Nat.le_trans (own_old O0) zq1
    have sz_d1 : h0.size ≤ d1 := Nat.le_trans (Keep.refl h0 []).1 zq1
    have O3 := O0.keep Kq1 all0
    have K3 : Keep h0 T1.heap [] := (Keep.refl h0 []).trans Kq1 all0
    refine own_on (B := T1.setTop (mkF m 53 #[iv p0, iv p1, iv p2, iv (0 : Int32), iv c0, iv c1, iv c2, iv c3, .unset, .unset, .unset, .unset] [(.ref d1)])) (fun tz kz => st1.trans kz) ?_
    refine own_on (B := T1.setTop (mkF m 57 #[iv p0, iv p1, iv p2, iv (0 : Int32), iv c0, iv c1, iv c2, iv c3, rv d1, .unset, .unset, .unset] [(.ref d1)])) (fun tz kz => ?_) ?_
    · show sT p e below T1 (mkF m 53 #[iv p0, iv p1, iv p2, iv (0 : Int32), iv c0, iv c1, iv c2, iv c3, .unset, .unset, .unset, .unset] [(.ref d1)]) tz
      refine XS.astore X1.here hx rfl (hb hby at_53) rfl rfl (l' := #[iv p0, iv p1, iv p2, iv (0 : Int32), iv c0, iv c1, iv c2, iv c3, rv d1, .unset, .unset, .unset]) rfl ?_
      show sT p e below T1 (mkF m 55 #[iv p0, iv p1, iv p2, iv (0 : Int32), iv c0, iv c1, iv c2, iv c3, rv d1, .unset, .unset, .unset] []) tz
      refine XS.aload X1.here hx rfl (hb hby at_55) rfl rfl ?_
      exact kz
    obtain ⟨_, _, ⟨T4, L4, k4, n4⟩, -, X4, ⟨Lc4, hQ4, l4, y4, z4⟩, st4⟩ := Jvm.LawKit.callS X1 hx (y := (⟨"com/example/firm_gate/firmgate/TokenDecision", "accept", "(Ljava/lang/String;)Lcom/example/firm_gate/firmgate/TokenDecision;"⟩ : MethodName)) hown (mvT hZ (own_w hw 28 rfl)) (mvT hZ (own_w hw 29 rfl)) (mvT hZ (own_w hw 30 rfl)) (mvT hZ (own_w hw 31 rfl)) (by decide) (backOf (W := 0) (rm5 l Z a0 hw [] d1  T1.heap n0 O3 Eq1) hZ (own_w hw 31 rfl) (own_w hw 30 rfl) (by decide) (by decide)) (g := (mkF m 57 #[iv p0, iv p1, iv p2, iv (0 : Int32), iv c0, iv c1, iv c2, iv c3, rv d1, .unset, .unset, .unset] [(.ref d1)])) rfl (by rw [hml]; rfl) (argsL := [(.ref d1)]) (rest := []) (lenOf own_pd15 rfl) rfl (by show 2 * 0 + _ ≤ _; exact Nat.le_of_eq rfl) (hb hby at_57) (fun _ _ => ⟨rfl, rfl, (by decide : 4 + 1 ≤ _), (by decide : 8 + 2 ≤ _)⟩)
    dsimp only [Pt.U, Pt.locs, Pt.cells, Pt.slots] at X4 l4 y4 z4 st4 hQ4
    subst l4 y4 z4
    obtain ⟨d4, rfl, Nq4, Kq4, zq4, Eq4, Fp4, Fq4⟩ := hQ4
    have N4 := Fr.app N1 Nq4
    have ne_d1_d4 : d1 ≠ d4 := Nat.ne_of_lt (Nat.lt_of_lt_of_le (Eq1).lt zq4)
    have ne_b1_d4 : b1 ≠ d4 := Nat.ne_of_lt (Nat.lt_of_lt_of_le (Vb1).lt zq4)
    have g_d4 : n0 ≤ d4 := Nat.le_trans (own_old O3) zq4
    have sz_d4 : h0.size ≤ d4 := Nat.le_trans K3.1 zq4
    have O5 := O3.keep Kq4 all0
    have K5 : Keep h0 T4.heap [] := K3.trans Kq4 all0
    refine own_on (B := T4.setTop (mkF m 60 #[iv p0, iv p1, iv p2, iv (0 : Int32), iv c0, iv c1, iv c2, iv c3, rv d1, .unset, .unset, .unset] [(.ref d4)])) (fun tz kz => st4 _ kz) ?_
    refine own_on (B := T4.setTop (mkF m 64 #[iv p0, iv p1, iv p2, iv (0 : Int32), iv c0, iv c1, iv c2, iv c3, rv d1, rv d4, .unset, .unset] [(.ref d4)])) (fun tz kz => ?_) ?_
    · show sT p e below T4 (mkF m 60 #[iv p0, iv p1, iv p2, iv (0 : Int32), iv c0, iv c1, iv c2, iv c3, rv d1, .unset, .unset, .unset] [(.ref d4)]) tz
      refine XS.astore X4.here hx rfl (hb hby at_60) rfl rfl (l' := #[iv p0, iv p1, iv p2, iv (0 : Int32), iv c0, iv c1, iv c2, iv c3, rv d1, rv d4, .unset, .unset]) rfl ?_
      show sT p e below T4 (mkF m 62 #[iv p0, iv p1, iv p2, iv (0 : Int32), iv c0, iv c1, iv c2, iv c3, rv d1, rv d4, .unset, .unset] []) tz
      refine XS.aload X4.here hx rfl (hb hby at_62) rfl rfl ?_
      exact kz
    obtain ⟨cq6, kq6, q6a, q6b, q6c⟩ := isOf hZ rfl Eq4
    obtain ⟨_, _, ⟨T6, L6, k6, n6⟩, -, X6, ⟨Lc6, hQ6, l6, y6, z6⟩, st6⟩ := X4.virtualBack hx (y := (⟨"com/example/firm_gate/firmgate/TokenDecision", "accepted", "()Z"⟩ : MethodName)) (z := (⟨"com/example/firm_gate/firmgate/TokenDecision", "accepted", "()Z"⟩ : MethodName)) hown (mvT hZ (own_w hw 47 rfl)) (mvT hZ (own_w hw 48 rfl)) (notFace_of_selects (args := #[]) (mvT hZ (own_w hw 50 rfl))) (mvT hZ (own_w hw 50 rfl)) (mvT hZ (own_w hw 49 rfl)) (by decide) (backOf (W := 0) (rm8 l Z a0 hw [] d4  T4.heap n0 O5 Fq4) hZ (own_w hw 51 rfl) (own_w hw 30 rfl) (by decide) (by decide)) q6a q6c (g := (mkF m 64 #[iv p0, iv p1, iv p2, iv (0 : Int32), iv c0, iv c1, iv c2, iv c3, rv d1, rv d4, .unset, .unset] [(.ref d4)])) rfl (by rw [hml]; rfl) (Steps.refl _) (argsL := []) (rest := []) (lenOf own_pd16 rfl) rfl (by show 2 * 0 + _ ≤ _; exact Nat.le_of_eq rfl) (hb hby at_64) (fun _ _ => ⟨rfl, rfl, (by decide : 5 + 0 ≤ _), (by decide : 10 + 0 ≤ _)⟩)
    dsimp only [Pt.U, Pt.locs, Pt.cells, Pt.slots] at X6 l6 y6 z6 st6 hQ6
    subst l6 y6 z6
    obtain ⟨rfl, Nq6, e6⟩ := hQ6
    have N6 := Fr.app N4 Nq6
    refine own_on (B := T6.setTop (mkF m 67 #[iv p0, iv p1, iv p2, iv (0 : Int32), iv c0, iv c1, iv c2, iv c3, rv d1, rv d4, .unset, .unset] [(.int (1 : Int32))])) (fun tz kz => st6.trans kz) ?_
    refine own_on (B := T6.setTop (mkF m 74 #[iv p0, iv p1, iv p2, iv (0 : Int32), iv c0, iv c1, iv c2, iv c3, rv d1, rv d4, .unset, .unset] [(.ref d4)])) (fun tz kz => ?_) ?_
    · show sT p e below T6 (mkF m 67 #[iv p0, iv p1, iv p2, iv (0 : Int32), iv c0, iv c1, iv c2, iv c3, rv d1, rv d4, .unset, .unset] [(.int (1 : Int32))]) tz
      refine XS.ifYes X6.here hx rfl (pc0 := 67) (pc' := 72) rfl (hb hby at_67) rfl ((if0 _ _).trans (feq (by decide : ¬ ((1 : Int32) = (0 : Int32)))).2) (by decide) (by decide) ?_
      show sT p e below T6 (mkF m 72 #[iv p0, iv p1, iv p2, iv (0 : Int32), iv c0, iv c1, iv c2, iv c3, rv d1, rv d4, .unset, .unset] []) tz
      refine XS.aload X6.here hx rfl (hb hby at_72) rfl rfl ?_
      exact kz
    obtain ⟨cq7, kq7, q7a, q7b, q7c⟩ := isOf hZ e6 Eq4
    obtain ⟨_, _, ⟨T7, L7, k7, n7⟩, -, X7, ⟨Lc7, hQ7, l7, y7, z7⟩, st7⟩ := X6.virtualBack hx (y := (⟨"com/example/firm_gate/firmgate/TokenDecision", "principal", "()Ljava/util/Optional;"⟩ : MethodName)) (z := (⟨"com/example/firm_gate/firmgate/TokenDecision", "principal", "()Ljava/util/Optional;"⟩ : MethodName)) hown (mvT hZ (own_w hw 52 rfl)) (mvT hZ (own_w hw 53 rfl)) (notFace_of_selects (args := #[]) (mvT hZ (own_w hw 55 rfl))) (mvT hZ (own_w hw 55 rfl)) (mvT hZ (own_w hw 54 rfl)) (by decide) (backOf (W := 0) (rm9 l Z a0 hw [] d4 d1 T4.heap n0 O5 Fp4) hZ (own_w hw 56 rfl) (own_w hw 30 rfl) (by decide) (by decide)) q7a q7c (g := (mkF m 74 #[iv p0, iv p1, iv p2, iv (0 : Int32), iv c0, iv c1, iv c2, iv c3, rv d1, rv d4, .unset, .unset] [(.ref d4)])) rfl (by rw [hml]; rfl) (Steps.refl _) (argsL := []) (rest := []) (lenOf own_pd17 rfl) rfl (by show 2 * 0 + _ ≤ _; exact Nat.le_of_eq rfl) (hb hby at_74) (fun _ _ => ⟨rfl, e6, (by decide : 5 + 1 ≤ _), (by decide : 10 + 1 ≤ _)⟩)
    dsimp only [Pt.U, Pt.locs, Pt.cells, Pt.slots] at X7 l7 y7 z7 st7 hQ7
    subst l7 y7 z7
    obtain ⟨d7, rfl, Nq7, Kq7, zq7, Eq7, Fq7⟩ := hQ7
    have N7 := Fr.app N6 Nq7
    have f_8 := (Eq1.keep Kq4)
    have ne_d1_d7 : d1 ≠ d7 := Nat.ne_of_lt (Nat.lt_of_lt_of_le (f_8).lt zq7)
    have f_9 := (Vb1.keep Kq4 nin0)
    have ne_b1_d7 : b1 ≠ d7 := Nat.ne_of_lt (Nat.lt_of_lt_of_le (f_9).lt zq7)
    have ne_d4_d7 : d4 ≠ d7 := Nat.ne_of_lt (Nat.lt_of_lt_of_le (Eq4).lt zq7)
    have g_d7 : n0 ≤ d7 := Nat.le_trans (own_old O5) zq7
    have sz_d7 : h0.size ≤ d7 := Nat.le_trans K5.1 zq7
    have O10 := O5.keep Kq7 all0
    have K10 : Keep h0 T7.heap [] := K5.trans Kq7 all0
    refine own_on (B := T7.setTop (mkF m 77 #[iv p0, iv p1, iv p2, iv (0 : Int32), iv c0, iv c1, iv c2, iv c3, rv d1, rv d4, .unset, .unset] [(.ref d7)])) (fun tz kz => st7.trans kz) ?_
    refine own_on (B := T7.setTop (mkF m 81 #[iv p0, iv p1, iv p2, iv (0 : Int32), iv c0, iv c1, iv c2, iv c3, rv d1, rv d4, rv d7, .unset] [(.ref d7)])) (fun tz kz => ?_) ?_
    · show sT p e below T7 (mkF m 77 #[iv p0, iv p1, iv p2, iv (0 : Int32), iv c0, iv c1, iv c2, iv c3, rv d1, rv d4, .unset, .unset] [(.ref d7)]) tz
      refine XS.astore X7.here hx rfl (hb hby at_77) rfl rfl (l' := #[iv p0, iv p1, iv p2, iv (0 : Int32), iv c0, iv c1, iv c2, iv c3, rv d1, rv d4, rv d7, .unset]) rfl ?_
      show sT p e below T7 (mkF m 79 #[iv p0, iv p1, iv p2, iv (0 : Int32), iv c0, iv c1, iv c2, iv c3, rv d1, rv d4, rv d7, .unset] []) tz
      refine XS.aload X7.here hx rfl (hb hby at_79) rfl rfl ?_
      exact kz
    obtain ⟨cq11, kq11, q11a, q11b, q11c⟩ := isOf hZ rfl Eq7
    obtain ⟨_, _, ⟨T11, L11, k11, n11⟩, -, X11, ⟨Lc11, hQ11, l11, y11, z11⟩, st11⟩ := X7.virtualBack hx (y := (⟨"java/util/Optional", "isPresent", "()Z"⟩ : MethodName)) (z := (⟨"java/util/Optional", "isPresent", "()Z"⟩ : MethodName)) hown (mvT hZ (own_w hw 70 rfl)) (mvT hZ (own_w hw 71 rfl)) (notFace_of_selects (args := #[]) (mvT hZ (own_w hw 73 rfl))) (mvT hZ (own_w hw 73 rfl)) (mvT hZ (own_w hw 72 rfl)) (by decide) (backOf (W := 0) (rm12b l Z a0 hw [] d7 d1 T7.heap n0 O10 Fq7) hZ (own_w hw 74 rfl) (own_w hw 59 rfl) (by decide) (by decide)) q11a q11c (g := (mkF m 81 #[iv p0, iv p1, iv p2, iv (0 : Int32), iv c0, iv c1, iv c2, iv c3, rv d1, rv d4, rv d7, .unset] [(.ref d7)])) rfl (by rw [hml]; rfl) (Steps.refl _) (argsL := []) (rest := []) (lenOf own_pd16 rfl) rfl (by show 2 * 0 + _ ≤ _; exact Nat.le_of_eq rfl) (hb hby at_81) (fun _ _ => ⟨rfl, rfl, (by decide : 6 + 0 ≤ _), (by decide : 11 + 0 ≤ _)⟩)
    dsimp only [Pt.U, Pt.locs, Pt.cells, Pt.slots] at X11 l11 y11 z11 st11 hQ11
    subst l11 y11 z11
    obtain ⟨rfl, Nq11, e11⟩ := hQ11
    have N11 := Fr.app N7 Nq11
    refine own_on (B := T11.setTop (mkF m 84 #[iv p0, iv p1, iv p2, iv (0 : Int32), iv c0, iv c1, iv c2, iv c3, rv d1, rv d4, rv d7, .unset] [(.int (1 : Int32))])) (fun tz kz => st11.trans kz) ?_
    refine own_on (B := T11.setTop (mkF m 91 #[iv p0, iv p1, iv p2, iv (0 : Int32), iv c0, iv c1, iv c2, iv c3, rv d1, rv d4, rv d7, .unset] [(.ref d7)])) (fun tz kz => ?_) ?_
    · show sT p e below T11 (mkF m 84 #[iv p0, iv p1, iv p2, iv (0 : Int32), iv c0, iv c1, iv c2, iv c3, rv d1, rv d4, rv d7, .unset] [(.int (1 : Int32))]) tz
      refine XS.ifYes X11.here hx rfl (pc0 := 84) (pc' := 89) rfl (hb hby at_84) rfl ((if0 _ _).trans (feq (by decide : ¬ ((1 : Int32) = (0 : Int32)))).2) (by decide) (by decide) ?_
      show sT p e below T11 (mkF m 89 #[iv p0, iv p1, iv p2, iv (0 : Int32), iv c0, iv c1, iv c2, iv c3, rv d1, rv d4, rv d7, .unset] []) tz
      refine XS.aload X11.here hx rfl (hb hby at_89) rfl rfl ?_
      exact kz
    obtain ⟨cq12, kq12, q12a, q12b, q12c⟩ := isOf hZ e11 Eq7
    obtain ⟨_, _, ⟨T12, L12, k12, n12⟩, -, X12, ⟨Lc12, hQ12, l12, y12, z12⟩, st12⟩ := X11.virtualBack hx (y := (⟨"java/util/Optional", "get", "()Ljava/lang/Object;"⟩ : MethodName)) (z := (⟨"java/util/Optional", "get", "()Ljava/lang/Object;"⟩ : MethodName)) hown (mvT hZ (own_w hw 75 rfl)) (mvT hZ (own_w hw 76 rfl)) (notFace_of_selects (args := #[]) (mvT hZ (own_w hw 78 rfl))) (mvT hZ (own_w hw 78 rfl)) (mvT hZ (own_w hw 77 rfl)) (by decide) (backOf (W := 0) (rm13 l Z a0 hw [] d7 d1 T7.heap n0 O10 Fq7) hZ (own_w hw 79 rfl) (own_w hw 59 rfl) (by decide) (by decide)) q12a q12c (g := (mkF m 91 #[iv p0, iv p1, iv p2, iv (0 : Int32), iv c0, iv c1, iv c2, iv c3, rv d1, rv d4, rv d7, .unset] [(.ref d7)])) rfl (by rw [hml]; rfl) (Steps.refl _) (argsL := []) (rest := []) (lenOf own_pd18 rfl) rfl (by show 2 * 0 + _ ≤ _; exact Nat.le_of_eq rfl) (hb hby at_91) (fun _ _ => ⟨rfl, e11, (by decide : 6 + 0 ≤ _), (by decide : 11 + 0 ≤ _)⟩)
    dsimp only [Pt.U, Pt.locs, Pt.cells, Pt.slots] at X12 l12 y12 z12 st12 hQ12
    subst l12 y12 z12
    obtain ⟨rfl, Nq12, e12⟩ := hQ12
    have N12 := Fr.app N11 Nq12
    refine own_on (B := T12.setTop (mkF m 94 #[iv p0, iv p1, iv p2, iv (0 : Int32), iv c0, iv c1, iv c2, iv c3, rv d1, rv d4, rv d7, .unset] [(.ref d1)])) (fun tz kz => st12.trans kz) ?_
    have f_13 := (f_8.keep Kq7)
    obtain ⟨T14, X14, e14, st14⟩ := castY X12 hx hZ hown (own_w hw 6 rfl) e12 (Ins.self f_13) (g := (mkF m 94 #[iv p0, iv p1, iv p2, iv (0 : Int32), iv c0, iv c1, iv c2, iv c3, rv d1, rv d4, rv d7, .unset] [(.ref d1)])) rfl rfl (hb hby at_94)
    refine own_on (B := T14.setTop (mkF m 97 #[iv p0, iv p1, iv p2, iv (0 : Int32), iv c0, iv c1, iv c2, iv c3, rv d1, rv d4, rv d7, .unset] [(.ref d1)])) (fun tz kz => st14 _ kz) ?_
    have f_15 := ((Fv1.keep Kq4 nin0).keep Kq7 nin0)
    have f_16 := ((Fc1.keep Kq4 nin0).keep Kq7 nin0)
    have f_17 := (f_9.keep Kq7 nin0)
    refine own_on (B := T14.setTop (mkF m 101 #[iv p0, iv p1, iv p2, iv (0 : Int32), iv c0, iv c1, iv c2, iv c3, rv d1, rv d4, rv d7, rv d1] [(.ref d1)])) (fun tz kz => ?_) ?_
    · show sT p e below T14 (mkF m 97 #[iv p0, iv p1, iv p2, iv (0 : Int32), iv c0, iv c1, iv c2, iv c3, rv d1, rv d4, rv d7, .unset] [(.ref d1)]) tz
      refine XS.astore X14.here hx rfl (hb hby at_97) rfl rfl (l' := #[iv p0, iv p1, iv p2, iv (0 : Int32), iv c0, iv c1, iv c2, iv c3, rv d1, rv d4, rv d7, rv d1]) rfl ?_
      show sT p e below T14 (mkF m 99 #[iv p0, iv p1, iv p2, iv (0 : Int32), iv c0, iv c1, iv c2, iv c3, rv d1, rv d4, rv d7, rv d1] []) tz
      refine XS.aload X14.here hx rfl (hb hby at_99) rfl rfl ?_
      exact kz
    obtain ⟨cq18, kq18, q18a, q18b, q18c⟩ := isOf hZ e14 f_13
    obtain ⟨_, _, ⟨T18, L18, k18, n18⟩, -, X18, ⟨Lc18, hQ18, l18, y18, z18⟩, st18⟩ := X14.virtualBack hx (y := (⟨"java/lang/String", "length", "()I"⟩ : MethodName)) (z := (⟨"java/lang/String", "length", "()I"⟩ : MethodName)) hown (mvT hZ (own_w hw 80 rfl)) (mvT hZ (own_w hw 81 rfl)) (notFace_of_selects (args := #[]) (mvT hZ (own_w hw 83 rfl))) (mvT hZ (own_w hw 83 rfl)) (mvT hZ (own_w hw 82 rfl)) (by decide) (backOf (W := 0) (rm14 l Z a0 hw [] d1 cS b1 ln1 cd1 (0 : Int32) T7.heap n0 O10 S_cs hcS f_13 f_15 f_16 f_17 (own_cfb LC1) (own_ln0 LC1)) hZ (own_w hw 84 rfl) (own_w hw 8 rfl) (by decide) (by decide)) q18a q18c (g := (mkF m 101 #[iv p0, iv p1, iv p2, iv (0 : Int32), iv c0, iv c1, iv c2, iv c3, rv d1, rv d4, rv d7, rv d1] [(.ref d1)])) rfl (by rw [hml]; rfl) (Steps.refl _) (argsL := []) (rest := []) (lenOf own_pd19 rfl) rfl (by show 2 * 0 + _ ≤ _; exact Nat.le_of_eq rfl) (hb hby at_101) (fun _ _ => ⟨rfl, e14, (by decide : 6 + 0 ≤ _), (by decide : 11 + 0 ≤ _)⟩)
    dsimp only [Pt.U, Pt.locs, Pt.cells, Pt.slots] at X18 l18 y18 z18 st18 hQ18
    subst l18 y18 z18
    obtain ⟨rfl, Nq18, e18⟩ := hQ18
    have N18 := Fr.app N12 Nq18
    refine own_on (B := T18.setTop (mkF m 104 #[iv p0, iv p1, iv p2, iv (0 : Int32), iv c0, iv c1, iv c2, iv c3, rv d1, rv d4, rv d7, rv d1] [(.int (0 : Int32))])) (fun tz kz => st18.trans kz) ?_
    refine own_on (B := T18.setTop (mkF m 114 #[iv p0, iv p1, iv p2, iv (0 : Int32), iv c0, iv c1, iv c2, iv c3, rv d1, rv d4, rv d7, rv d1] [(.ref d1), (.ref d1)])) (fun tz kz => ?_) ?_
    · show sT p e below T18 (mkF m 104 #[iv p0, iv p1, iv p2, iv (0 : Int32), iv c0, iv c1, iv c2, iv c3, rv d1, rv d4, rv d7, rv d1] [(.int (0 : Int32))]) tz
      refine XS.iloadN X18.here hx rfl (hb hby at_104) rfl ?_
      show sT p e below T18 (mkF m 105 #[iv p0, iv p1, iv p2, iv (0 : Int32), iv c0, iv c1, iv c2, iv c3, rv d1, rv d4, rv d7, rv d1] [(.int (0 : Int32)), (.int (0 : Int32))]) tz
      refine XS.icmpYes X18.here hx rfl (pc0 := 105) (pc' := 110) rfl (hb hby at_105) rfl (teq rfl).1 (by decide) (by decide) ?_
      show sT p e below T18 (mkF m 110 #[iv p0, iv p1, iv p2, iv (0 : Int32), iv c0, iv c1, iv c2, iv c3, rv d1, rv d4, rv d7, rv d1] []) tz
      refine XS.aload X18.here hx rfl (hb hby at_110) rfl rfl ?_
      show sT p e below T18 (mkF m 112 #[iv p0, iv p1, iv p2, iv (0 : Int32), iv c0, iv c1, iv c2, iv c3, rv d1, rv d4, rv d7, rv d1] [(.ref d1)]) tz
      refine XS.aload X18.here hx rfl (hb hby at_112) rfl rfl ?_
      exact kz
    obtain ⟨cq19, kq19, q19a, q19b, q19c⟩ := isOf hZ e18 f_13
    obtain ⟨_, _, ⟨T19, L19, k19, n19⟩, -, X19, ⟨Lc19, hQ19, l19, y19, z19⟩, st19⟩ := X18.virtualBack hx (y := (⟨"java/lang/String", "equals", "(Ljava/lang/Object;)Z"⟩ : MethodName)) (z := (⟨"java/lang/String", "equals", "(Ljava/lang/Object;)Z"⟩ : MethodName)) hown (mvT hZ (own_w hw 91 rfl)) (mvT hZ (own_w hw 92 rfl)) (notFace_of_selects (args := #[]) (mvT hZ (own_w hw 94 rfl))) (mvT hZ (own_w hw 94 rfl)) (mvT hZ (own_w hw 93 rfl)) (by decide) (backOf (W := 0) (rm16 l Z a0 hw [] d1  T7.heap n0 O10 ) hZ (own_w hw 95 rfl) (own_w hw 8 rfl) (by decide) (by decide)) q19a q19c (g := (mkF m 114 #[iv p0, iv p1, iv p2, iv (0 : Int32), iv c0, iv c1, iv c2, iv c3, rv d1, rv d4, rv d7, rv d1] [(.ref d1), (.ref d1)])) rfl (by rw [hml]; rfl) (Steps.refl _) (argsL := [(.ref d1)]) (rest := []) (lenOf own_pd20 rfl) rfl (by show 2 * 0 + _ ≤ _; exact Nat.le_of_eq rfl) (hb hby at_114) (fun _ _ => ⟨rfl, e18, (by decide : 6 + 0 ≤ _), (by decide : 11 + 0 ≤ _)⟩)
    dsimp only [Pt.U, Pt.locs, Pt.cells, Pt.slots] at X19 l19 y19 z19 st19 hQ19
    subst l19 y19 z19
    obtain ⟨rfl, Nq19, e19⟩ := hQ19
    have N19 := Fr.app N18 Nq19
    refine own_on (B := T19.setTop (mkF m 117 #[iv p0, iv p1, iv p2, iv (0 : Int32), iv c0, iv c1, iv c2, iv c3, rv d1, rv d4, rv d7, rv d1] [(.int (1 : Int32))])) (fun tz kz => st19.trans kz) ?_
    have f_20 := (Fq4.keep Kq7 nin0)
    refine own_on (B := T19.setTop (mkF m 124 #[iv p0, iv p1, iv p2, iv (0 : Int32), iv c0, iv c1, iv c2, iv c3, rv d1, rv d4, rv d7, rv d1] [(.ref d4)])) (fun tz kz => ?_) ?_
    · show sT p e below T19 (mkF m 117 #[iv p0, iv p1, iv p2, iv (0 : Int32), iv c0, iv c1, iv c2, iv c3, rv d1, rv d4, rv d7, rv d1] [(.int (1 : Int32))]) tz
      refine XS.ifYes X19.here hx rfl (pc0 := 117) (pc' := 122) rfl (hb hby at_117) rfl ((if0 _ _).trans (feq (by decide : ¬ ((1 : Int32) = (0 : Int32)))).2) (by decide) (by decide) ?_
      show sT p e below T19 (mkF m 122 #[iv p0, iv p1, iv p2, iv (0 : Int32), iv c0, iv c1, iv c2, iv c3, rv d1, rv d4, rv d7, rv d1] []) tz
      refine XS.aload X19.here hx rfl (hb hby at_122) rfl rfl ?_
      exact kz
    have f_22 := (Eq4.keep Kq7)
    obtain ⟨cq21, kq21, q21a, q21b, q21c⟩ := isOf hZ e19 f_22
    obtain ⟨_, _, ⟨T21, L21, k21, n21⟩, -, X21, ⟨Lc21, hQ21, l21, y21, z21⟩, st21⟩ := X19.virtualBack hx (y := (⟨"com/example/firm_gate/firmgate/TokenDecision", "reason", "()Ljava/util/Optional;"⟩ : MethodName)) (z := (⟨"com/example/firm_gate/firmgate/TokenDecision", "reason", "()Ljava/util/Optional;"⟩ : MethodName)) hown (mvT hZ (own_w hw 96 rfl)) (mvT hZ (own_w hw 97 rfl)) (notFace_of_selects (args := #[]) (mvT hZ (own_w hw 99 rfl))) (mvT hZ (own_w hw 99 rfl)) (mvT hZ (own_w hw 98 rfl)) (by decide) (backOf (W := 0) (rm17 l Z a0 hw [] d4 wE T7.heap n0 O10 f_20 S_E) hZ (own_w hw 100 rfl) (own_w hw 30 rfl) (by decide) (by decide)) q21a q21c (g := (mkF m 124 #[iv p0, iv p1, iv p2, iv (0 : Int32), iv c0, iv c1, iv c2, iv c3, rv d1, rv d4, rv d7, rv d1] [(.ref d4)])) rfl (by rw [hml]; rfl) (Steps.refl _) (argsL := []) (rest := []) (lenOf own_pd17 rfl) rfl (by show 2 * 0 + _ ≤ _; exact Nat.le_of_eq rfl) (hb hby at_124) (fun _ _ => ⟨rfl, e19, (by decide : 6 + 0 ≤ _), (by decide : 11 + 0 ≤ _)⟩)
    dsimp only [Pt.U, Pt.locs, Pt.cells, Pt.slots] at X21 l21 y21 z21 st21 hQ21
    subst l21 y21 z21
    obtain ⟨rfl, Nq21, e21⟩ := hQ21
    have N21 := Fr.app N19 Nq21
    refine own_on (B := T21.setTop (mkF m 127 #[iv p0, iv p1, iv p2, iv (0 : Int32), iv c0, iv c1, iv c2, iv c3, rv d1, rv d4, rv d7, rv d1] [(.ref wE)])) (fun tz kz => st21.trans kz) ?_
    obtain ⟨cq23, kq23, q23a, q23b, q23c⟩ := isOf hZ e21 (E_E.ext O10.2)
    obtain ⟨_, _, ⟨T23, L23, k23, n23⟩, -, X23, ⟨Lc23, hQ23, l23, y23, z23⟩, st23⟩ := X21.virtualBack hx (y := (⟨"java/util/Optional", "isPresent", "()Z"⟩ : MethodName)) (z := (⟨"java/util/Optional", "isPresent", "()Z"⟩ : MethodName)) hown (mvT hZ (own_w hw 70 rfl)) (mvT hZ (own_w hw 71 rfl)) (notFace_of_selects (args := #[]) (mvT hZ (own_w hw 73 rfl))) (mvT hZ (own_w hw 73 rfl)) (mvT hZ (own_w hw 72 rfl)) (by decide) (backOf (W := 0) (rm12a l Z a0 hw [] wE  T7.heap n0 O10 (F_E.ext O10.2)) hZ (own_w hw 74 rfl) (own_w hw 59 rfl) (by decide) (by decide)) q23a q23c (g := (mkF m 127 #[iv p0, iv p1, iv p2, iv (0 : Int32), iv c0, iv c1, iv c2, iv c3, rv d1, rv d4, rv d7, rv d1] [(.ref wE)])) rfl (by rw [hml]; rfl) (Steps.refl _) (argsL := []) (rest := []) (lenOf own_pd16 rfl) rfl (by show 2 * 0 + _ ≤ _; exact Nat.le_of_eq rfl) (hb hby at_127) (fun _ _ => ⟨rfl, e21, (by decide : 6 + 0 ≤ _), (by decide : 11 + 0 ≤ _)⟩)
    dsimp only [Pt.U, Pt.locs, Pt.cells, Pt.slots] at X23 l23 y23 z23 st23 hQ23
    subst l23 y23 z23
    obtain ⟨rfl, Nq23, e23⟩ := hQ23
    have N23 := Fr.app N21 Nq23
    refine own_on (B := T23.setTop (mkF m 130 #[iv p0, iv p1, iv p2, iv (0 : Int32), iv c0, iv c1, iv c2, iv c3, rv d1, rv d4, rv d7, rv d1] [(.int (0 : Int32))])) (fun tz kz => st23.trans kz) ?_
    refine own_on (B := T23.setTop (mkF m 136 #[iv p0, iv p1, iv p2, iv (0 : Int32), iv c0, iv c1, iv c2, iv c3, rv d1, rv d4, rv d7, rv d1] [(.int (1 : Int32))])) (fun tz kz => ?_) ?_
    · show sT p e below T23 (mkF m 130 #[iv p0, iv p1, iv p2, iv (0 : Int32), iv c0, iv c1, iv c2, iv c3, rv d1, rv d4, rv d7, rv d1] [(.int (0 : Int32))]) tz
      refine XS.ifYes X23.here hx rfl (pc0 := 130) (pc' := 135) rfl (hb hby at_130) rfl ((if0 _ _).trans (teq rfl).1) (by decide) (by decide) ?_
      show sT p e below T23 (mkF m 135 #[iv p0, iv p1, iv p2, iv (0 : Int32), iv c0, iv c1, iv c2, iv c3, rv d1, rv d4, rv d7, rv d1] []) tz
      refine XS.iconst X23.here hx rfl (hb hby at_135) ?_
      exact kz
    have f_24 := (Nat.le_trans (Nat.le_trans (Nat.le_refl T1.heap.size) Kq4.1) Kq7.1)
    obtain ⟨fs, hr, hrun, hended, hRW⟩ := Jvm.Stand.leaveW X23 hS1 (by rw [e23]; exact f_24) (v := some (.int (1 : Int32))) (fun h => by rw [Bd.returns] at h; cases h)
    refine own_of ⟨_, _, ?_, hrun, hended, _, _, rfl, ?_, hRW.1, hRW.2.1, hRW.2.2.1, hRW.2.2.2.mono (by decide) (by decide)⟩
    · show sT p e below T23 (mkF m 136 #[iv p0, iv p1, iv p2, iv (0 : Int32), iv c0, iv c1, iv c2, iv c3, rv d1, rv d4, rv d7, rv d1] [(.int (1 : Int32))]) _
      exact own_retN X23 hx (t := .boolean) Bd.returns (by simp) (by first | rfl | (split <;> first | rfl | (split <;> first | rfl | (split <;> rfl)))) (hb hby at_136) hr
    · show Q0 Z p0 p1 p2 cS wE h0 n0 _ T23.heap _
      rw [e23]
      exact ⟨rfl, N23⟩
  · refine own_on (B := s₁.setTop (mkF m 50 #[iv p0, iv p1, iv p2, iv (1 : Int32), iv c0, iv c1, iv c2, iv c3, .unset, .unset, .unset, .unset] [(.int c3), (.int c2), (.int c1), (.int c0), (.int (1 : Int32))])) (fun tz kz => ?_) ?_
    · show sT p e below s₁ (mkF m 41 #[iv p0, iv p1, iv p2, iv (1 : Int32), iv c0, iv c1, iv c2, iv c3, .unset, .unset, .unset, .unset] []) tz
      refine XS.iloadN X0.here hx rfl (hb hby at_41) rfl ?_
      show sT p e below s₁ (mkF m 42 #[iv p0, iv p1, iv p2, iv (1 : Int32), iv c0, iv c1, iv c2, iv c3, .unset, .unset, .unset, .unset] [(.int (1 : Int32))]) tz
      refine XS.iload X0.here hx rfl (hb hby at_42) rfl ?_
      show sT p e below s₁ (mkF m 44 #[iv p0, iv p1, iv p2, iv (1 : Int32), iv c0, iv c1, iv c2, iv c3, .unset, .unset, .unset, .unset] [(.int c0), (.int (1 : Int32))]) tz
      refine XS.iload X0.here hx rfl (hb hby at_44) rfl ?_
      show sT p e below s₁ (mkF m 46 #[iv p0, iv p1, iv p2, iv (1 : Int32), iv c0, iv c1, iv c2, iv c3, .unset, .unset, .unset, .unset] [(.int c1), (.int c0), (.int (1 : Int32))]) tz
      refine XS.iload X0.here hx rfl (hb hby at_46) rfl ?_
      show sT p e below s₁ (mkF m 48 #[iv p0, iv p1, iv p2, iv (1 : Int32), iv c0, iv c1, iv c2, iv c3, .unset, .unset, .unset, .unset] [(.int c2), (.int c1), (.int c0), (.int (1 : Int32))]) tz
      refine XS.iload X0.here hx rfl (hb hby at_48) rfl ?_
      exact kz
    obtain ⟨_, _, ⟨T25, L25, k25, n25⟩, -, X25, ⟨Lc25, hQ25, l25, y25, z25⟩, st25⟩ := Jvm.LawKit.callS X0 hx (y := (⟨"com/example/firm_gate/firmgate/TokenDecisionAcceptPinLaw", "make", "(ICCCC)Ljava/lang/String;"⟩ : MethodName)) hown (mvT hZ (own_w hw 2 rfl)) (mvT hZ (own_w hw 3 rfl)) (mvT hZ (own_w hw 4 rfl)) (mvT hZ (own_w hw 5 rfl)) (by decide) (backOf (W := 0) (rm1a l Z a0 hw [] c0 c1 c2 c3 cS h0 n0 O0 S_cs hcS S_as S_hi S_lo hheld hcw) hZ (own_w hw 5 rfl) (own_w hw 4 rfl) (by decide) (by decide)) (g := (mkF m 50 #[iv p0, iv p1, iv p2, iv (1 : Int32), iv c0, iv c1, iv c2, iv c3, .unset, .unset, .unset, .unset] [(.int c3), (.int c2), (.int c1), (.int c0), (.int (1 : Int32))])) rfl (by rw [hml]; rfl) (argsL := [(.int (1 : Int32)), (.int c0), (.int c1), (.int c2), (.int c3)]) (rest := []) (lenOf own_pd14 rfl) rfl (by show 2 * 0 + _ ≤ _; exact Nat.le_of_eq rfl) (hb hby at_50) (fun _ _ => ⟨rfl, e0, (by decide : 0 + 4 ≤ _), (by decide : 0 + 8 ≤ _)⟩)
    dsimp only [Pt.U, Pt.locs, Pt.cells, Pt.slots] at X25 l25 y25 z25 st25 hQ25
    subst l25 y25 z25
    obtain ⟨d25, b25, ln25, cd25, rfl, Nq25, Kq25, zq25, Eq25, Fv25, Fc25, Vb25, LC25⟩ := hQ25
    have N25 := Fr.app N0 Nq25
    have g_d25 : n0 ≤ d25 := Nat.le_trans (own_old O0) zq25
    have sz_d25 : h0.size ≤ d25 := Nat.le_trans (Keep.refl h0 []).1 zq25
    have O26 := O0.keep Kq25 all0
    have K26 : Keep h0 T25.heap [] := (Keep.refl h0 []).trans Kq25 all0
    refine own_on (B := T25.setTop (mkF m 53 #[iv p0, iv p1, iv p2, iv (1 : Int32), iv c0, iv c1, iv c2, iv c3, .unset, .unset, .unset, .unset] [(.ref d25)])) (fun tz kz => st25 _ kz) ?_
    refine own_on (B := T25.setTop (mkF m 57 #[iv p0, iv p1, iv p2, iv (1 : Int32), iv c0, iv c1, iv c2, iv c3, rv d25, .unset, .unset, .unset] [(.ref d25)])) (fun tz kz => ?_) ?_
    · show sT p e below T25 (mkF m 53 #[iv p0, iv p1, iv p2, iv (1 : Int32), iv c0, iv c1, iv c2, iv c3, .unset, .unset, .unset, .unset] [(.ref d25)]) tz
      refine XS.astore X25.here hx rfl (hb hby at_53) rfl rfl (l' := #[iv p0, iv p1, iv p2, iv (1 : Int32), iv c0, iv c1, iv c2, iv c3, rv d25, .unset, .unset, .unset]) rfl ?_
      show sT p e below T25 (mkF m 55 #[iv p0, iv p1, iv p2, iv (1 : Int32), iv c0, iv c1, iv c2, iv c3, rv d25, .unset, .unset, .unset] []) tz
      refine XS.aload X25.here hx rfl (hb hby at_55) rfl rfl ?_
      exact kz
    obtain ⟨_, _, ⟨T27, L27, k27, n27⟩, -, X27, ⟨Lc27, hQ27, l27, y27, z27⟩, st27⟩ := Jvm.LawKit.callS X25 hx (y := (⟨"com/example/firm_gate/firmgate/TokenDecision", "accept", "(Ljava/lang/String;)Lcom/example/firm_gate/firmgate/TokenDecision;"⟩ : MethodName)) hown (mvT hZ (own_w hw 28 rfl)) (mvT hZ (own_w hw 29 rfl)) (mvT hZ (own_w hw 30 rfl)) (mvT hZ (own_w hw 31 rfl)) (by decide) (backOf (W := 0) (rm5 l Z a0 hw [] d25  T25.heap n0 O26 Eq25) hZ (own_w hw 31 rfl) (own_w hw 30 rfl) (by decide) (by decide)) (g := (mkF m 57 #[iv p0, iv p1, iv p2, iv (1 : Int32), iv c0, iv c1, iv c2, iv c3, rv d25, .unset, .unset, .unset] [(.ref d25)])) rfl (by rw [hml]; rfl) (argsL := [(.ref d25)]) (rest := []) (lenOf own_pd15 rfl) rfl (by show 2 * 0 + _ ≤ _; exact Nat.le_of_eq rfl) (hb hby at_57) (fun _ _ => ⟨rfl, rfl, (by decide : 4 + 1 ≤ _), (by decide : 8 + 2 ≤ _)⟩)
    dsimp only [Pt.U, Pt.locs, Pt.cells, Pt.slots] at X27 l27 y27 z27 st27 hQ27
    subst l27 y27 z27
    obtain ⟨d27, rfl, Nq27, Kq27, zq27, Eq27, Fp27, Fq27⟩ := hQ27
    have N27 := Fr.app N25 Nq27
    have ne_d25_d27 : d25 ≠ d27 := Nat.ne_of_lt (Nat.lt_of_lt_of_le (Eq25).lt zq27)
    have ne_b25_d27 : b25 ≠ d27 := Nat.ne_of_lt (Nat.lt_of_lt_of_le (Vb25).lt zq27)
    have g_d27 : n0 ≤ d27 := Nat.le_trans (own_old O26) zq27
    have sz_d27 : h0.size ≤ d27 := Nat.le_trans K26.1 zq27
    have O28 := O26.keep Kq27 all0
    have K28 : Keep h0 T27.heap [] := K26.trans Kq27 all0
    refine own_on (B := T27.setTop (mkF m 60 #[iv p0, iv p1, iv p2, iv (1 : Int32), iv c0, iv c1, iv c2, iv c3, rv d25, .unset, .unset, .unset] [(.ref d27)])) (fun tz kz => st27 _ kz) ?_
    refine own_on (B := T27.setTop (mkF m 64 #[iv p0, iv p1, iv p2, iv (1 : Int32), iv c0, iv c1, iv c2, iv c3, rv d25, rv d27, .unset, .unset] [(.ref d27)])) (fun tz kz => ?_) ?_
    · show sT p e below T27 (mkF m 60 #[iv p0, iv p1, iv p2, iv (1 : Int32), iv c0, iv c1, iv c2, iv c3, rv d25, .unset, .unset, .unset] [(.ref d27)]) tz
      refine XS.astore X27.here hx rfl (hb hby at_60) rfl rfl (l' := #[iv p0, iv p1, iv p2, iv (1 : Int32), iv c0, iv c1, iv c2, iv c3, rv d25, rv d27, .unset, .unset]) rfl ?_
      show sT p e below T27 (mkF m 62 #[iv p0, iv p1, iv p2, iv (1 : Int32), iv c0, iv c1, iv c2, iv c3, rv d25, rv d27, .unset, .unset] []) tz
      refine XS.aload X27.here hx rfl (hb hby at_62) rfl rfl ?_
      exact kz
    obtain ⟨cq29, kq29, q29a, q29b, q29c⟩ := isOf hZ rfl Eq27
    obtain ⟨_, _, ⟨T29, L29, k29, n29⟩, -, X29, ⟨Lc29, hQ29, l29, y29, z29⟩, st29⟩ := X27.virtualBack hx (y := (⟨"com/example/firm_gate/firmgate/TokenDecision", "accepted", "()Z"⟩ : MethodName)) (z := (⟨"com/example/firm_gate/firmgate/TokenDecision", "accepted", "()Z"⟩ : MethodName)) hown (mvT hZ (own_w hw 47 rfl)) (mvT hZ (own_w hw 48 rfl)) (notFace_of_selects (args := #[]) (mvT hZ (own_w hw 50 rfl))) (mvT hZ (own_w hw 50 rfl)) (mvT hZ (own_w hw 49 rfl)) (by decide) (backOf (W := 0) (rm8 l Z a0 hw [] d27  T27.heap n0 O28 Fq27) hZ (own_w hw 51 rfl) (own_w hw 30 rfl) (by decide) (by decide)) q29a q29c (g := (mkF m 64 #[iv p0, iv p1, iv p2, iv (1 : Int32), iv c0, iv c1, iv c2, iv c3, rv d25, rv d27, .unset, .unset] [(.ref d27)])) rfl (by rw [hml]; rfl) (Steps.refl _) (argsL := []) (rest := []) (lenOf own_pd16 rfl) rfl (by show 2 * 0 + _ ≤ _; exact Nat.le_of_eq rfl) (hb hby at_64) (fun _ _ => ⟨rfl, rfl, (by decide : 5 + 0 ≤ _), (by decide : 10 + 0 ≤ _)⟩)
    dsimp only [Pt.U, Pt.locs, Pt.cells, Pt.slots] at X29 l29 y29 z29 st29 hQ29
    subst l29 y29 z29
    obtain ⟨rfl, Nq29, e29⟩ := hQ29
    have N29 := Fr.app N27 Nq29
    refine own_on (B := T29.setTop (mkF m 67 #[iv p0, iv p1, iv p2, iv (1 : Int32), iv c0, iv c1, iv c2, iv c3, rv d25, rv d27, .unset, .unset] [(.int (1 : Int32))])) (fun tz kz => st29.trans kz) ?_
    refine own_on (B := T29.setTop (mkF m 74 #[iv p0, iv p1, iv p2, iv (1 : Int32), iv c0, iv c1, iv c2, iv c3, rv d25, rv d27, .unset, .unset] [(.ref d27)])) (fun tz kz => ?_) ?_
    · show sT p e below T29 (mkF m 67 #[iv p0, iv p1, iv p2, iv (1 : Int32), iv c0, iv c1, iv c2, iv c3, rv d25, rv d27, .unset, .unset] [(.int (1 : Int32))]) tz
      refine XS.ifYes X29.here hx rfl (pc0 := 67) (pc' := 72) rfl (hb hby at_67) rfl ((if0 _ _).trans (feq (by decide : ¬ ((1 : Int32) = (0 : Int32)))).2) (by decide) (by decide) ?_
      show sT p e below T29 (mkF m 72 #[iv p0, iv p1, iv p2, iv (1 : Int32), iv c0, iv c1, iv c2, iv c3, rv d25, rv d27, .unset, .unset] []) tz
      refine XS.aload X29.here hx rfl (hb hby at_72) rfl rfl ?_
      exact kz
    obtain ⟨cq30, kq30, q30a, q30b, q30c⟩ := isOf hZ e29 Eq27
    obtain ⟨_, _, ⟨T30, L30, k30, n30⟩, -, X30, ⟨Lc30, hQ30, l30, y30, z30⟩, st30⟩ := X29.virtualBack hx (y := (⟨"com/example/firm_gate/firmgate/TokenDecision", "principal", "()Ljava/util/Optional;"⟩ : MethodName)) (z := (⟨"com/example/firm_gate/firmgate/TokenDecision", "principal", "()Ljava/util/Optional;"⟩ : MethodName)) hown (mvT hZ (own_w hw 52 rfl)) (mvT hZ (own_w hw 53 rfl)) (notFace_of_selects (args := #[]) (mvT hZ (own_w hw 55 rfl))) (mvT hZ (own_w hw 55 rfl)) (mvT hZ (own_w hw 54 rfl)) (by decide) (backOf (W := 0) (rm9 l Z a0 hw [] d27 d25 T27.heap n0 O28 Fp27) hZ (own_w hw 56 rfl) (own_w hw 30 rfl) (by decide) (by decide)) q30a q30c (g := (mkF m 74 #[iv p0, iv p1, iv p2, iv (1 : Int32), iv c0, iv c1, iv c2, iv c3, rv d25, rv d27, .unset, .unset] [(.ref d27)])) rfl (by rw [hml]; rfl) (Steps.refl _) (argsL := []) (rest := []) (lenOf own_pd17 rfl) rfl (by show 2 * 0 + _ ≤ _; exact Nat.le_of_eq rfl) (hb hby at_74) (fun _ _ => ⟨rfl, e29, (by decide : 5 + 1 ≤ _), (by decide : 10 + 1 ≤ _)⟩)
    dsimp only [Pt.U, Pt.locs, Pt.cells, Pt.slots] at X30 l30 y30 z30 st30 hQ30
    subst l30 y30 z30
    obtain ⟨d30, rfl, Nq30, Kq30, zq30, Eq30, Fq30⟩ := hQ30
    have N30 := Fr.app N29 Nq30
    have f_31 := (Eq25.keep Kq27)
    have ne_d25_d30 : d25 ≠ d30 := Nat.ne_of_lt (Nat.lt_of_lt_of_le (f_31).lt zq30)
    have f_32 := (Vb25.keep Kq27 nin0)
    have ne_b25_d30 : b25 ≠ d30 := Nat.ne_of_lt (Nat.lt_of_lt_of_le (f_32).lt zq30)
    have ne_d27_d30 : d27 ≠ d30 := Nat.ne_of_lt (Nat.lt_of_lt_of_le (Eq27).lt zq30)
    have g_d30 : n0 ≤ d30 := Nat.le_trans (own_old O28) zq30
    have sz_d30 : h0.size ≤ d30 := Nat.le_trans K28.1 zq30
    have O33 := O28.keep Kq30 all0
    have K33 : Keep h0 T30.heap [] := K28.trans Kq30 all0
    refine own_on (B := T30.setTop (mkF m 77 #[iv p0, iv p1, iv p2, iv (1 : Int32), iv c0, iv c1, iv c2, iv c3, rv d25, rv d27, .unset, .unset] [(.ref d30)])) (fun tz kz => st30.trans kz) ?_
    refine own_on (B := T30.setTop (mkF m 81 #[iv p0, iv p1, iv p2, iv (1 : Int32), iv c0, iv c1, iv c2, iv c3, rv d25, rv d27, rv d30, .unset] [(.ref d30)])) (fun tz kz => ?_) ?_
    · show sT p e below T30 (mkF m 77 #[iv p0, iv p1, iv p2, iv (1 : Int32), iv c0, iv c1, iv c2, iv c3, rv d25, rv d27, .unset, .unset] [(.ref d30)]) tz
      refine XS.astore X30.here hx rfl (hb hby at_77) rfl rfl (l' := #[iv p0, iv p1, iv p2, iv (1 : Int32), iv c0, iv c1, iv c2, iv c3, rv d25, rv d27, rv d30, .unset]) rfl ?_
      show sT p e below T30 (mkF m 79 #[iv p0, iv p1, iv p2, iv (1 : Int32), iv c0, iv c1, iv c2, iv c3, rv d25, rv d27, rv d30, .unset] []) tz
      refine XS.aload X30.here hx rfl (hb hby at_79) rfl rfl ?_
      exact kz
    obtain ⟨cq34, kq34, q34a, q34b, q34c⟩ := isOf hZ rfl Eq30
    obtain ⟨_, _, ⟨T34, L34, k34, n34⟩, -, X34, ⟨Lc34, hQ34, l34, y34, z34⟩, st34⟩ := X30.virtualBack hx (y := (⟨"java/util/Optional", "isPresent", "()Z"⟩ : MethodName)) (z := (⟨"java/util/Optional", "isPresent", "()Z"⟩ : MethodName)) hown (mvT hZ (own_w hw 70 rfl)) (mvT hZ (own_w hw 71 rfl)) (notFace_of_selects (args := #[]) (mvT hZ (own_w hw 73 rfl))) (mvT hZ (own_w hw 73 rfl)) (mvT hZ (own_w hw 72 rfl)) (by decide) (backOf (W := 0) (rm12b l Z a0 hw [] d30 d25 T30.heap n0 O33 Fq30) hZ (own_w hw 74 rfl) (own_w hw 59 rfl) (by decide) (by decide)) q34a q34c (g := (mkF m 81 #[iv p0, iv p1, iv p2, iv (1 : Int32), iv c0, iv c1, iv c2, iv c3, rv d25, rv d27, rv d30, .unset] [(.ref d30)])) rfl (by rw [hml]; rfl) (Steps.refl _) (argsL := []) (rest := []) (lenOf own_pd16 rfl) rfl (by show 2 * 0 + _ ≤ _; exact Nat.le_of_eq rfl) (hb hby at_81) (fun _ _ => ⟨rfl, rfl, (by decide : 6 + 0 ≤ _), (by decide : 11 + 0 ≤ _)⟩)
    dsimp only [Pt.U, Pt.locs, Pt.cells, Pt.slots] at X34 l34 y34 z34 st34 hQ34
    subst l34 y34 z34
    obtain ⟨rfl, Nq34, e34⟩ := hQ34
    have N34 := Fr.app N30 Nq34
    refine own_on (B := T34.setTop (mkF m 84 #[iv p0, iv p1, iv p2, iv (1 : Int32), iv c0, iv c1, iv c2, iv c3, rv d25, rv d27, rv d30, .unset] [(.int (1 : Int32))])) (fun tz kz => st34.trans kz) ?_
    refine own_on (B := T34.setTop (mkF m 91 #[iv p0, iv p1, iv p2, iv (1 : Int32), iv c0, iv c1, iv c2, iv c3, rv d25, rv d27, rv d30, .unset] [(.ref d30)])) (fun tz kz => ?_) ?_
    · show sT p e below T34 (mkF m 84 #[iv p0, iv p1, iv p2, iv (1 : Int32), iv c0, iv c1, iv c2, iv c3, rv d25, rv d27, rv d30, .unset] [(.int (1 : Int32))]) tz
      refine XS.ifYes X34.here hx rfl (pc0 := 84) (pc' := 89) rfl (hb hby at_84) rfl ((if0 _ _).trans (feq (by decide : ¬ ((1 : Int32) = (0 : Int32)))).2) (by decide) (by decide) ?_
      show sT p e below T34 (mkF m 89 #[iv p0, iv p1, iv p2, iv (1 : Int32), iv c0, iv c1, iv c2, iv c3, rv d25, rv d27, rv d30, .unset] []) tz
      refine XS.aload X34.here hx rfl (hb hby at_89) rfl rfl ?_
      exact kz
    obtain ⟨cq35, kq35, q35a, q35b, q35c⟩ := isOf hZ e34 Eq30
    obtain ⟨_, _, ⟨T35, L35, k35, n35⟩, -, X35, ⟨Lc35, hQ35, l35, y35, z35⟩, st35⟩ := X34.virtualBack hx (y := (⟨"java/util/Optional", "get", "()Ljava/lang/Object;"⟩ : MethodName)) (z := (⟨"java/util/Optional", "get", "()Ljava/lang/Object;"⟩ : MethodName)) hown (mvT hZ (own_w hw 75 rfl)) (mvT hZ (own_w hw 76 rfl)) (notFace_of_selects (args := #[]) (mvT hZ (own_w hw 78 rfl))) (mvT hZ (own_w hw 78 rfl)) (mvT hZ (own_w hw 77 rfl)) (by decide) (backOf (W := 0) (rm13 l Z a0 hw [] d30 d25 T30.heap n0 O33 Fq30) hZ (own_w hw 79 rfl) (own_w hw 59 rfl) (by decide) (by decide)) q35a q35c (g := (mkF m 91 #[iv p0, iv p1, iv p2, iv (1 : Int32), iv c0, iv c1, iv c2, iv c3, rv d25, rv d27, rv d30, .unset] [(.ref d30)])) rfl (by rw [hml]; rfl) (Steps.refl _) (argsL := []) (rest := []) (lenOf own_pd18 rfl) rfl (by show 2 * 0 + _ ≤ _; exact Nat.le_of_eq rfl) (hb hby at_91) (fun _ _ => ⟨rfl, e34, (by decide : 6 + 0 ≤ _), (by decide : 11 + 0 ≤ _)⟩)
    dsimp only [Pt.U, Pt.locs, Pt.cells, Pt.slots] at X35 l35 y35 z35 st35 hQ35
    subst l35 y35 z35
    obtain ⟨rfl, Nq35, e35⟩ := hQ35
    have N35 := Fr.app N34 Nq35
    refine own_on (B := T35.setTop (mkF m 94 #[iv p0, iv p1, iv p2, iv (1 : Int32), iv c0, iv c1, iv c2, iv c3, rv d25, rv d27, rv d30, .unset] [(.ref d25)])) (fun tz kz => st35.trans kz) ?_
    have f_36 := (f_31.keep Kq30)
    obtain ⟨T37, X37, e37, st37⟩ := castY X35 hx hZ hown (own_w hw 6 rfl) e35 (Ins.self f_36) (g := (mkF m 94 #[iv p0, iv p1, iv p2, iv (1 : Int32), iv c0, iv c1, iv c2, iv c3, rv d25, rv d27, rv d30, .unset] [(.ref d25)])) rfl rfl (hb hby at_94)
    refine own_on (B := T37.setTop (mkF m 97 #[iv p0, iv p1, iv p2, iv (1 : Int32), iv c0, iv c1, iv c2, iv c3, rv d25, rv d27, rv d30, .unset] [(.ref d25)])) (fun tz kz => st37 _ kz) ?_
    have f_38 := ((Fv25.keep Kq27 nin0).keep Kq30 nin0)
    have f_39 := ((Fc25.keep Kq27 nin0).keep Kq30 nin0)
    have f_40 := (f_32.keep Kq30 nin0)
    refine own_on (B := T37.setTop (mkF m 101 #[iv p0, iv p1, iv p2, iv (1 : Int32), iv c0, iv c1, iv c2, iv c3, rv d25, rv d27, rv d30, rv d25] [(.ref d25)])) (fun tz kz => ?_) ?_
    · show sT p e below T37 (mkF m 97 #[iv p0, iv p1, iv p2, iv (1 : Int32), iv c0, iv c1, iv c2, iv c3, rv d25, rv d27, rv d30, .unset] [(.ref d25)]) tz
      refine XS.astore X37.here hx rfl (hb hby at_97) rfl rfl (l' := #[iv p0, iv p1, iv p2, iv (1 : Int32), iv c0, iv c1, iv c2, iv c3, rv d25, rv d27, rv d30, rv d25]) rfl ?_
      show sT p e below T37 (mkF m 99 #[iv p0, iv p1, iv p2, iv (1 : Int32), iv c0, iv c1, iv c2, iv c3, rv d25, rv d27, rv d30, rv d25] []) tz
      refine XS.aload X37.here hx rfl (hb hby at_99) rfl rfl ?_
      exact kz
    obtain ⟨cq41, kq41, q41a, q41b, q41c⟩ := isOf hZ e37 f_36
    obtain ⟨_, _, ⟨T41, L41, k41, n41⟩, -, X41, ⟨Lc41, hQ41, l41, y41, z41⟩, st41⟩ := X37.virtualBack hx (y := (⟨"java/lang/String", "length", "()I"⟩ : MethodName)) (z := (⟨"java/lang/String", "length", "()I"⟩ : MethodName)) hown (mvT hZ (own_w hw 80 rfl)) (mvT hZ (own_w hw 81 rfl)) (notFace_of_selects (args := #[]) (mvT hZ (own_w hw 83 rfl))) (mvT hZ (own_w hw 83 rfl)) (mvT hZ (own_w hw 82 rfl)) (by decide) (backOf (W := 0) (rm14 l Z a0 hw [] d25 cS b25 ln25 cd25 (1 : Int32) T30.heap n0 O33 S_cs hcS f_36 f_38 f_39 f_40 (own_cfb LC25) (own_ln1 LC25)) hZ (own_w hw 84 rfl) (own_w hw 8 rfl) (by decide) (by decide)) q41a q41c (g := (mkF m 101 #[iv p0, iv p1, iv p2, iv (1 : Int32), iv c0, iv c1, iv c2, iv c3, rv d25, rv d27, rv d30, rv d25] [(.ref d25)])) rfl (by rw [hml]; rfl) (Steps.refl _) (argsL := []) (rest := []) (lenOf own_pd19 rfl) rfl (by show 2 * 0 + _ ≤ _; exact Nat.le_of_eq rfl) (hb hby at_101) (fun _ _ => ⟨rfl, e37, (by decide : 6 + 0 ≤ _), (by decide : 11 + 0 ≤ _)⟩)
    dsimp only [Pt.U, Pt.locs, Pt.cells, Pt.slots] at X41 l41 y41 z41 st41 hQ41
    subst l41 y41 z41
    obtain ⟨rfl, Nq41, e41⟩ := hQ41
    have N41 := Fr.app N35 Nq41
    refine own_on (B := T41.setTop (mkF m 104 #[iv p0, iv p1, iv p2, iv (1 : Int32), iv c0, iv c1, iv c2, iv c3, rv d25, rv d27, rv d30, rv d25] [(.int (1 : Int32))])) (fun tz kz => st41.trans kz) ?_
    refine own_on (B := T41.setTop (mkF m 114 #[iv p0, iv p1, iv p2, iv (1 : Int32), iv c0, iv c1, iv c2, iv c3, rv d25, rv d27, rv d30, rv d25] [(.ref d25), (.ref d25)])) (fun tz kz => ?_) ?_
    · show sT p e below T41 (mkF m 104 #[iv p0, iv p1, iv p2, iv (1 : Int32), iv c0, iv c1, iv c2, iv c3, rv d25, rv d27, rv d30, rv d25] [(.int (1 : Int32))]) tz
      refine XS.iloadN X41.here hx rfl (hb hby at_104) rfl ?_
      show sT p e below T41 (mkF m 105 #[iv p0, iv p1, iv p2, iv (1 : Int32), iv c0, iv c1, iv c2, iv c3, rv d25, rv d27, rv d30, rv d25] [(.int (1 : Int32)), (.int (1 : Int32))]) tz
      refine XS.icmpYes X41.here hx rfl (pc0 := 105) (pc' := 110) rfl (hb hby at_105) rfl (teq rfl).1 (by decide) (by decide) ?_
      show sT p e below T41 (mkF m 110 #[iv p0, iv p1, iv p2, iv (1 : Int32), iv c0, iv c1, iv c2, iv c3, rv d25, rv d27, rv d30, rv d25] []) tz
      refine XS.aload X41.here hx rfl (hb hby at_110) rfl rfl ?_
      show sT p e below T41 (mkF m 112 #[iv p0, iv p1, iv p2, iv (1 : Int32), iv c0, iv c1, iv c2, iv c3, rv d25, rv d27, rv d30, rv d25] [(.ref d25)]) tz
      refine XS.aload X41.here hx rfl (hb hby at_112) rfl rfl ?_
      exact kz
    obtain ⟨cq42, kq42, q42a, q42b, q42c⟩ := isOf hZ e41 f_36
    obtain ⟨_, _, ⟨T42, L42, k42, n42⟩, -, X42, ⟨Lc42, hQ42, l42, y42, z42⟩, st42⟩ := X41.virtualBack hx (y := (⟨"java/lang/String", "equals", "(Ljava/lang/Object;)Z"⟩ : MethodName)) (z := (⟨"java/lang/String", "equals", "(Ljava/lang/Object;)Z"⟩ : MethodName)) hown (mvT hZ (own_w hw 91 rfl)) (mvT hZ (own_w hw 92 rfl)) (notFace_of_selects (args := #[]) (mvT hZ (own_w hw 94 rfl))) (mvT hZ (own_w hw 94 rfl)) (mvT hZ (own_w hw 93 rfl)) (by decide) (backOf (W := 0) (rm16 l Z a0 hw [] d25  T30.heap n0 O33 ) hZ (own_w hw 95 rfl) (own_w hw 8 rfl) (by decide) (by decide)) q42a q42c (g := (mkF m 114 #[iv p0, iv p1, iv p2, iv (1 : Int32), iv c0, iv c1, iv c2, iv c3, rv d25, rv d27, rv d30, rv d25] [(.ref d25), (.ref d25)])) rfl (by rw [hml]; rfl) (Steps.refl _) (argsL := [(.ref d25)]) (rest := []) (lenOf own_pd20 rfl) rfl (by show 2 * 0 + _ ≤ _; exact Nat.le_of_eq rfl) (hb hby at_114) (fun _ _ => ⟨rfl, e41, (by decide : 6 + 0 ≤ _), (by decide : 11 + 0 ≤ _)⟩)
    dsimp only [Pt.U, Pt.locs, Pt.cells, Pt.slots] at X42 l42 y42 z42 st42 hQ42
    subst l42 y42 z42
    obtain ⟨rfl, Nq42, e42⟩ := hQ42
    have N42 := Fr.app N41 Nq42
    refine own_on (B := T42.setTop (mkF m 117 #[iv p0, iv p1, iv p2, iv (1 : Int32), iv c0, iv c1, iv c2, iv c3, rv d25, rv d27, rv d30, rv d25] [(.int (1 : Int32))])) (fun tz kz => st42.trans kz) ?_
    have f_43 := (Fq27.keep Kq30 nin0)
    refine own_on (B := T42.setTop (mkF m 124 #[iv p0, iv p1, iv p2, iv (1 : Int32), iv c0, iv c1, iv c2, iv c3, rv d25, rv d27, rv d30, rv d25] [(.ref d27)])) (fun tz kz => ?_) ?_
    · show sT p e below T42 (mkF m 117 #[iv p0, iv p1, iv p2, iv (1 : Int32), iv c0, iv c1, iv c2, iv c3, rv d25, rv d27, rv d30, rv d25] [(.int (1 : Int32))]) tz
      refine XS.ifYes X42.here hx rfl (pc0 := 117) (pc' := 122) rfl (hb hby at_117) rfl ((if0 _ _).trans (feq (by decide : ¬ ((1 : Int32) = (0 : Int32)))).2) (by decide) (by decide) ?_
      show sT p e below T42 (mkF m 122 #[iv p0, iv p1, iv p2, iv (1 : Int32), iv c0, iv c1, iv c2, iv c3, rv d25, rv d27, rv d30, rv d25] []) tz
      refine XS.aload X42.here hx rfl (hb hby at_122) rfl rfl ?_
      exact kz
    have f_45 := (Eq27.keep Kq30)
    obtain ⟨cq44, kq44, q44a, q44b, q44c⟩ := isOf hZ e42 f_45
    obtain ⟨_, _, ⟨T44, L44, k44, n44⟩, -, X44, ⟨Lc44, hQ44, l44, y44, z44⟩, st44⟩ := X42.virtualBack hx (y := (⟨"com/example/firm_gate/firmgate/TokenDecision", "reason", "()Ljava/util/Optional;"⟩ : MethodName)) (z := (⟨"com/example/firm_gate/firmgate/TokenDecision", "reason", "()Ljava/util/Optional;"⟩ : MethodName)) hown (mvT hZ (own_w hw 96 rfl)) (mvT hZ (own_w hw 97 rfl)) (notFace_of_selects (args := #[]) (mvT hZ (own_w hw 99 rfl))) (mvT hZ (own_w hw 99 rfl)) (mvT hZ (own_w hw 98 rfl)) (by decide) (backOf (W := 0) (rm17 l Z a0 hw [] d27 wE T30.heap n0 O33 f_43 S_E) hZ (own_w hw 100 rfl) (own_w hw 30 rfl) (by decide) (by decide)) q44a q44c (g := (mkF m 124 #[iv p0, iv p1, iv p2, iv (1 : Int32), iv c0, iv c1, iv c2, iv c3, rv d25, rv d27, rv d30, rv d25] [(.ref d27)])) rfl (by rw [hml]; rfl) (Steps.refl _) (argsL := []) (rest := []) (lenOf own_pd17 rfl) rfl (by show 2 * 0 + _ ≤ _; exact Nat.le_of_eq rfl) (hb hby at_124) (fun _ _ => ⟨rfl, e42, (by decide : 6 + 0 ≤ _), (by decide : 11 + 0 ≤ _)⟩)
    dsimp only [Pt.U, Pt.locs, Pt.cells, Pt.slots] at X44 l44 y44 z44 st44 hQ44
    subst l44 y44 z44
    obtain ⟨rfl, Nq44, e44⟩ := hQ44
    have N44 := Fr.app N42 Nq44
    refine own_on (B := T44.setTop (mkF m 127 #[iv p0, iv p1, iv p2, iv (1 : Int32), iv c0, iv c1, iv c2, iv c3, rv d25, rv d27, rv d30, rv d25] [(.ref wE)])) (fun tz kz => st44.trans kz) ?_
    obtain ⟨cq46, kq46, q46a, q46b, q46c⟩ := isOf hZ e44 (E_E.ext O33.2)
    obtain ⟨_, _, ⟨T46, L46, k46, n46⟩, -, X46, ⟨Lc46, hQ46, l46, y46, z46⟩, st46⟩ := X44.virtualBack hx (y := (⟨"java/util/Optional", "isPresent", "()Z"⟩ : MethodName)) (z := (⟨"java/util/Optional", "isPresent", "()Z"⟩ : MethodName)) hown (mvT hZ (own_w hw 70 rfl)) (mvT hZ (own_w hw 71 rfl)) (notFace_of_selects (args := #[]) (mvT hZ (own_w hw 73 rfl))) (mvT hZ (own_w hw 73 rfl)) (mvT hZ (own_w hw 72 rfl)) (by decide) (backOf (W := 0) (rm12a l Z a0 hw [] wE  T30.heap n0 O33 (F_E.ext O33.2)) hZ (own_w hw 74 rfl) (own_w hw 59 rfl) (by decide) (by decide)) q46a q46c (g := (mkF m 127 #[iv p0, iv p1, iv p2, iv (1 : Int32), iv c0, iv c1, iv c2, iv c3, rv d25, rv d27, rv d30, rv d25] [(.ref wE)])) rfl (by rw [hml]; rfl) (Steps.refl _) (argsL := []) (rest := []) (lenOf own_pd16 rfl) rfl (by show 2 * 0 + _ ≤ _; exact Nat.le_of_eq rfl) (hb hby at_127) (fun _ _ => ⟨rfl, e44, (by decide : 6 + 0 ≤ _), (by decide : 11 + 0 ≤ _)⟩)
    dsimp only [Pt.U, Pt.locs, Pt.cells, Pt.slots] at X46 l46 y46 z46 st46 hQ46
    subst l46 y46 z46
    obtain ⟨rfl, Nq46, e46⟩ := hQ46
    have N46 := Fr.app N44 Nq46
    refine own_on (B := T46.setTop (mkF m 130 #[iv p0, iv p1, iv p2, iv (1 : Int32), iv c0, iv c1, iv c2, iv c3, rv d25, rv d27, rv d30, rv d25] [(.int (0 : Int32))])) (fun tz kz => st46.trans kz) ?_
    refine own_on (B := T46.setTop (mkF m 136 #[iv p0, iv p1, iv p2, iv (1 : Int32), iv c0, iv c1, iv c2, iv c3, rv d25, rv d27, rv d30, rv d25] [(.int (1 : Int32))])) (fun tz kz => ?_) ?_
    · show sT p e below T46 (mkF m 130 #[iv p0, iv p1, iv p2, iv (1 : Int32), iv c0, iv c1, iv c2, iv c3, rv d25, rv d27, rv d30, rv d25] [(.int (0 : Int32))]) tz
      refine XS.ifYes X46.here hx rfl (pc0 := 130) (pc' := 135) rfl (hb hby at_130) rfl ((if0 _ _).trans (teq rfl).1) (by decide) (by decide) ?_
      show sT p e below T46 (mkF m 135 #[iv p0, iv p1, iv p2, iv (1 : Int32), iv c0, iv c1, iv c2, iv c3, rv d25, rv d27, rv d30, rv d25] []) tz
      refine XS.iconst X46.here hx rfl (hb hby at_135) ?_
      exact kz
    obtain ⟨fs, hr, hrun, hended, hW, hsame⟩ := X46.leave (v := some (.int (1 : Int32))) (fun h => by rw [Bd.returns] at h; cases h)
    refine own_of ⟨_, _, ?_, hrun, hended, _, _, rfl, ?_, ReturnedEndW.of_narrow ⟨_, rfl⟩ hW (hsame.mono (by decide) (by decide))⟩
    · show sT p e below T46 (mkF m 136 #[iv p0, iv p1, iv p2, iv (1 : Int32), iv c0, iv c1, iv c2, iv c3, rv d25, rv d27, rv d30, rv d25] [(.int (1 : Int32))]) _
      exact own_retN X46 hx (t := .boolean) Bd.returns (by simp) (by first | rfl | (split <;> first | rfl | (split <;> first | rfl | (split <;> rfl)))) (hb hby at_136) hr
    · show Q0 Z p0 p1 p2 cS wE h0 n0 _ T46.heap _
      rw [e46]
      exact ⟨rfl, N46⟩
  · refine own_on (B := s₁.setTop (mkF m 50 #[iv p0, iv p1, iv p2, iv (2 : Int32), iv c0, iv c1, iv c2, iv c3, .unset, .unset, .unset, .unset] [(.int c3), (.int c2), (.int c1), (.int c0), (.int (2 : Int32))])) (fun tz kz => ?_) ?_
    · show sT p e below s₁ (mkF m 41 #[iv p0, iv p1, iv p2, iv (2 : Int32), iv c0, iv c1, iv c2, iv c3, .unset, .unset, .unset, .unset] []) tz
      refine XS.iloadN X0.here hx rfl (hb hby at_41) rfl ?_
      show sT p e below s₁ (mkF m 42 #[iv p0, iv p1, iv p2, iv (2 : Int32), iv c0, iv c1, iv c2, iv c3, .unset, .unset, .unset, .unset] [(.int (2 : Int32))]) tz
      refine XS.iload X0.here hx rfl (hb hby at_42) rfl ?_
      show sT p e below s₁ (mkF m 44 #[iv p0, iv p1, iv p2, iv (2 : Int32), iv c0, iv c1, iv c2, iv c3, .unset, .unset, .unset, .unset] [(.int c0), (.int (2 : Int32))]) tz
      refine XS.iload X0.here hx rfl (hb hby at_44) rfl ?_
      show sT p e below s₁ (mkF m 46 #[iv p0, iv p1, iv p2, iv (2 : Int32), iv c0, iv c1, iv c2, iv c3, .unset, .unset, .unset, .unset] [(.int c1), (.int c0), (.int (2 : Int32))]) tz
      refine XS.iload X0.here hx rfl (hb hby at_46) rfl ?_
      show sT p e below s₁ (mkF m 48 #[iv p0, iv p1, iv p2, iv (2 : Int32), iv c0, iv c1, iv c2, iv c3, .unset, .unset, .unset, .unset] [(.int c2), (.int c1), (.int c0), (.int (2 : Int32))]) tz
      refine XS.iload X0.here hx rfl (hb hby at_48) rfl ?_
      exact kz
    obtain ⟨_, _, ⟨T47, L47, k47, n47⟩, -, X47, ⟨Lc47, hQ47, l47, y47, z47⟩, st47⟩ := Jvm.LawKit.callS X0 hx (y := (⟨"com/example/firm_gate/firmgate/TokenDecisionAcceptPinLaw", "make", "(ICCCC)Ljava/lang/String;"⟩ : MethodName)) hown (mvT hZ (own_w hw 2 rfl)) (mvT hZ (own_w hw 3 rfl)) (mvT hZ (own_w hw 4 rfl)) (mvT hZ (own_w hw 5 rfl)) (by decide) (backOf (W := 0) (rm1b l Z a0 hw [] c0 c1 c2 c3 cS h0 n0 O0 S_cs hcS S_as S_hi S_lo hheld hcw) hZ (own_w hw 5 rfl) (own_w hw 4 rfl) (by decide) (by decide)) (g := (mkF m 50 #[iv p0, iv p1, iv p2, iv (2 : Int32), iv c0, iv c1, iv c2, iv c3, .unset, .unset, .unset, .unset] [(.int c3), (.int c2), (.int c1), (.int c0), (.int (2 : Int32))])) rfl (by rw [hml]; rfl) (argsL := [(.int (2 : Int32)), (.int c0), (.int c1), (.int c2), (.int c3)]) (rest := []) (lenOf own_pd14 rfl) rfl (by show 2 * 0 + _ ≤ _; exact Nat.le_of_eq rfl) (hb hby at_50) (fun _ _ => ⟨rfl, e0, (by decide : 0 + 4 ≤ _), (by decide : 0 + 12 ≤ _)⟩)
    dsimp only [Pt.U, Pt.locs, Pt.cells, Pt.slots] at X47 l47 y47 z47 st47 hQ47
    subst l47 y47 z47
    obtain ⟨d47, b47, ln47, cd47, rfl, Nq47, Kq47, zq47, Eq47, Fv47, Fc47, Vb47, LC47⟩ := hQ47
    have N47 := Fr.app N0 Nq47
    have g_d47 : n0 ≤ d47 := Nat.le_trans (own_old O0) zq47
    have sz_d47 : h0.size ≤ d47 := Nat.le_trans (Keep.refl h0 []).1 zq47
    have O48 := O0.keep Kq47 all0
    have K48 : Keep h0 T47.heap [] := (Keep.refl h0 []).trans Kq47 all0
    refine own_on (B := T47.setTop (mkF m 53 #[iv p0, iv p1, iv p2, iv (2 : Int32), iv c0, iv c1, iv c2, iv c3, .unset, .unset, .unset, .unset] [(.ref d47)])) (fun tz kz => st47 _ kz) ?_
    refine own_on (B := T47.setTop (mkF m 57 #[iv p0, iv p1, iv p2, iv (2 : Int32), iv c0, iv c1, iv c2, iv c3, rv d47, .unset, .unset, .unset] [(.ref d47)])) (fun tz kz => ?_) ?_
    · show sT p e below T47 (mkF m 53 #[iv p0, iv p1, iv p2, iv (2 : Int32), iv c0, iv c1, iv c2, iv c3, .unset, .unset, .unset, .unset] [(.ref d47)]) tz
      refine XS.astore X47.here hx rfl (hb hby at_53) rfl rfl (l' := #[iv p0, iv p1, iv p2, iv (2 : Int32), iv c0, iv c1, iv c2, iv c3, rv d47, .unset, .unset, .unset]) rfl ?_
      show sT p e below T47 (mkF m 55 #[iv p0, iv p1, iv p2, iv (2 : Int32), iv c0, iv c1, iv c2, iv c3, rv d47, .unset, .unset, .unset] []) tz
      refine XS.aload X47.here hx rfl (hb hby at_55) rfl rfl ?_
      exact kz
    obtain ⟨_, _, ⟨T49, L49, k49, n49⟩, -, X49, ⟨Lc49, hQ49, l49, y49, z49⟩, st49⟩ := Jvm.LawKit.callS X47 hx (y := (⟨"com/example/firm_gate/firmgate/TokenDecision", "accept", "(Ljava/lang/String;)Lcom/example/firm_gate/firmgate/TokenDecision;"⟩ : MethodName)) hown (mvT hZ (own_w hw 28 rfl)) (mvT hZ (own_w hw 29 rfl)) (mvT hZ (own_w hw 30 rfl)) (mvT hZ (own_w hw 31 rfl)) (by decide) (backOf (W := 0) (rm5 l Z a0 hw [] d47  T47.heap n0 O48 Eq47) hZ (own_w hw 31 rfl) (own_w hw 30 rfl) (by decide) (by decide)) (g := (mkF m 57 #[iv p0, iv p1, iv p2, iv (2 : Int32), iv c0, iv c1, iv c2, iv c3, rv d47, .unset, .unset, .unset] [(.ref d47)])) rfl (by rw [hml]; rfl) (argsL := [(.ref d47)]) (rest := []) (lenOf own_pd15 rfl) rfl (by show 2 * 0 + _ ≤ _; exact Nat.le_of_eq rfl) (hb hby at_57) (fun _ _ => ⟨rfl, rfl, (by decide : 4 + 1 ≤ _), (by decide : 12 + 2 ≤ _)⟩)
    dsimp only [Pt.U, Pt.locs, Pt.cells, Pt.slots] at X49 l49 y49 z49 st49 hQ49
    subst l49 y49 z49
    obtain ⟨d49, rfl, Nq49, Kq49, zq49, Eq49, Fp49, Fq49⟩ := hQ49
    have N49 := Fr.app N47 Nq49
    have ne_d47_d49 : d47 ≠ d49 := Nat.ne_of_lt (Nat.lt_of_lt_of_le (Eq47).lt zq49)
    have ne_b47_d49 : b47 ≠ d49 := Nat.ne_of_lt (Nat.lt_of_lt_of_le (Vb47).lt zq49)
    have g_d49 : n0 ≤ d49 := Nat.le_trans (own_old O48) zq49
    have sz_d49 : h0.size ≤ d49 := Nat.le_trans K48.1 zq49
    have O50 := O48.keep Kq49 all0
    have K50 : Keep h0 T49.heap [] := K48.trans Kq49 all0
    refine own_on (B := T49.setTop (mkF m 60 #[iv p0, iv p1, iv p2, iv (2 : Int32), iv c0, iv c1, iv c2, iv c3, rv d47, .unset, .unset, .unset] [(.ref d49)])) (fun tz kz => st49 _ kz) ?_
    refine own_on (B := T49.setTop (mkF m 64 #[iv p0, iv p1, iv p2, iv (2 : Int32), iv c0, iv c1, iv c2, iv c3, rv d47, rv d49, .unset, .unset] [(.ref d49)])) (fun tz kz => ?_) ?_
    · show sT p e below T49 (mkF m 60 #[iv p0, iv p1, iv p2, iv (2 : Int32), iv c0, iv c1, iv c2, iv c3, rv d47, .unset, .unset, .unset] [(.ref d49)]) tz
      refine XS.astore X49.here hx rfl (hb hby at_60) rfl rfl (l' := #[iv p0, iv p1, iv p2, iv (2 : Int32), iv c0, iv c1, iv c2, iv c3, rv d47, rv d49, .unset, .unset]) rfl ?_
      show sT p e below T49 (mkF m 62 #[iv p0, iv p1, iv p2, iv (2 : Int32), iv c0, iv c1, iv c2, iv c3, rv d47, rv d49, .unset, .unset] []) tz
      refine XS.aload X49.here hx rfl (hb hby at_62) rfl rfl ?_
      exact kz
    obtain ⟨cq51, kq51, q51a, q51b, q51c⟩ := isOf hZ rfl Eq49
    obtain ⟨_, _, ⟨T51, L51, k51, n51⟩, -, X51, ⟨Lc51, hQ51, l51, y51, z51⟩, st51⟩ := X49.virtualBack hx (y := (⟨"com/example/firm_gate/firmgate/TokenDecision", "accepted", "()Z"⟩ : MethodName)) (z := (⟨"com/example/firm_gate/firmgate/TokenDecision", "accepted", "()Z"⟩ : MethodName)) hown (mvT hZ (own_w hw 47 rfl)) (mvT hZ (own_w hw 48 rfl)) (notFace_of_selects (args := #[]) (mvT hZ (own_w hw 50 rfl))) (mvT hZ (own_w hw 50 rfl)) (mvT hZ (own_w hw 49 rfl)) (by decide) (backOf (W := 0) (rm8 l Z a0 hw [] d49  T49.heap n0 O50 Fq49) hZ (own_w hw 51 rfl) (own_w hw 30 rfl) (by decide) (by decide)) q51a q51c (g := (mkF m 64 #[iv p0, iv p1, iv p2, iv (2 : Int32), iv c0, iv c1, iv c2, iv c3, rv d47, rv d49, .unset, .unset] [(.ref d49)])) rfl (by rw [hml]; rfl) (Steps.refl _) (argsL := []) (rest := []) (lenOf own_pd16 rfl) rfl (by show 2 * 0 + _ ≤ _; exact Nat.le_of_eq rfl) (hb hby at_64) (fun _ _ => ⟨rfl, rfl, (by decide : 5 + 0 ≤ _), (by decide : 14 + 0 ≤ _)⟩)
    dsimp only [Pt.U, Pt.locs, Pt.cells, Pt.slots] at X51 l51 y51 z51 st51 hQ51
    subst l51 y51 z51
    obtain ⟨rfl, Nq51, e51⟩ := hQ51
    have N51 := Fr.app N49 Nq51
    refine own_on (B := T51.setTop (mkF m 67 #[iv p0, iv p1, iv p2, iv (2 : Int32), iv c0, iv c1, iv c2, iv c3, rv d47, rv d49, .unset, .unset] [(.int (1 : Int32))])) (fun tz kz => st51.trans kz) ?_
    refine own_on (B := T51.setTop (mkF m 74 #[iv p0, iv p1, iv p2, iv (2 : Int32), iv c0, iv c1, iv c2, iv c3, rv d47, rv d49, .unset, .unset] [(.ref d49)])) (fun tz kz => ?_) ?_
    · show sT p e below T51 (mkF m 67 #[iv p0, iv p1, iv p2, iv (2 : Int32), iv c0, iv c1, iv c2, iv c3, rv d47, rv d49, .unset, .unset] [(.int (1 : Int32))]) tz
      refine XS.ifYes X51.here hx rfl (pc0 := 67) (pc' := 72) rfl (hb hby at_67) rfl ((if0 _ _).trans (feq (by decide : ¬ ((1 : Int32) = (0 : Int32)))).2) (by decide) (by decide) ?_
      show sT p e below T51 (mkF m 72 #[iv p0, iv p1, iv p2, iv (2 : Int32), iv c0, iv c1, iv c2, iv c3, rv d47, rv d49, .unset, .unset] []) tz
      refine XS.aload X51.here hx rfl (hb hby at_72) rfl rfl ?_
      exact kz
    obtain ⟨cq52, kq52, q52a, q52b, q52c⟩ := isOf hZ e51 Eq49
    obtain ⟨_, _, ⟨T52, L52, k52, n52⟩, -, X52, ⟨Lc52, hQ52, l52, y52, z52⟩, st52⟩ := X51.virtualBack hx (y := (⟨"com/example/firm_gate/firmgate/TokenDecision", "principal", "()Ljava/util/Optional;"⟩ : MethodName)) (z := (⟨"com/example/firm_gate/firmgate/TokenDecision", "principal", "()Ljava/util/Optional;"⟩ : MethodName)) hown (mvT hZ (own_w hw 52 rfl)) (mvT hZ (own_w hw 53 rfl)) (notFace_of_selects (args := #[]) (mvT hZ (own_w hw 55 rfl))) (mvT hZ (own_w hw 55 rfl)) (mvT hZ (own_w hw 54 rfl)) (by decide) (backOf (W := 0) (rm9 l Z a0 hw [] d49 d47 T49.heap n0 O50 Fp49) hZ (own_w hw 56 rfl) (own_w hw 30 rfl) (by decide) (by decide)) q52a q52c (g := (mkF m 74 #[iv p0, iv p1, iv p2, iv (2 : Int32), iv c0, iv c1, iv c2, iv c3, rv d47, rv d49, .unset, .unset] [(.ref d49)])) rfl (by rw [hml]; rfl) (Steps.refl _) (argsL := []) (rest := []) (lenOf own_pd17 rfl) rfl (by show 2 * 0 + _ ≤ _; exact Nat.le_of_eq rfl) (hb hby at_74) (fun _ _ => ⟨rfl, e51, (by decide : 5 + 1 ≤ _), (by decide : 14 + 1 ≤ _)⟩)
    dsimp only [Pt.U, Pt.locs, Pt.cells, Pt.slots] at X52 l52 y52 z52 st52 hQ52
    subst l52 y52 z52
    obtain ⟨d52, rfl, Nq52, Kq52, zq52, Eq52, Fq52⟩ := hQ52
    have N52 := Fr.app N51 Nq52
    have f_53 := (Eq47.keep Kq49)
    have ne_d47_d52 : d47 ≠ d52 := Nat.ne_of_lt (Nat.lt_of_lt_of_le (f_53).lt zq52)
    have f_54 := (Vb47.keep Kq49 nin0)
    have ne_b47_d52 : b47 ≠ d52 := Nat.ne_of_lt (Nat.lt_of_lt_of_le (f_54).lt zq52)
    have ne_d49_d52 : d49 ≠ d52 := Nat.ne_of_lt (Nat.lt_of_lt_of_le (Eq49).lt zq52)
    have g_d52 : n0 ≤ d52 := Nat.le_trans (own_old O50) zq52
    have sz_d52 : h0.size ≤ d52 := Nat.le_trans K50.1 zq52
    have O55 := O50.keep Kq52 all0
    have K55 : Keep h0 T52.heap [] := K50.trans Kq52 all0
    refine own_on (B := T52.setTop (mkF m 77 #[iv p0, iv p1, iv p2, iv (2 : Int32), iv c0, iv c1, iv c2, iv c3, rv d47, rv d49, .unset, .unset] [(.ref d52)])) (fun tz kz => st52.trans kz) ?_
    refine own_on (B := T52.setTop (mkF m 81 #[iv p0, iv p1, iv p2, iv (2 : Int32), iv c0, iv c1, iv c2, iv c3, rv d47, rv d49, rv d52, .unset] [(.ref d52)])) (fun tz kz => ?_) ?_
    · show sT p e below T52 (mkF m 77 #[iv p0, iv p1, iv p2, iv (2 : Int32), iv c0, iv c1, iv c2, iv c3, rv d47, rv d49, .unset, .unset] [(.ref d52)]) tz
      refine XS.astore X52.here hx rfl (hb hby at_77) rfl rfl (l' := #[iv p0, iv p1, iv p2, iv (2 : Int32), iv c0, iv c1, iv c2, iv c3, rv d47, rv d49, rv d52, .unset]) rfl ?_
      show sT p e below T52 (mkF m 79 #[iv p0, iv p1, iv p2, iv (2 : Int32), iv c0, iv c1, iv c2, iv c3, rv d47, rv d49, rv d52, .unset] []) tz
      refine XS.aload X52.here hx rfl (hb hby at_79) rfl rfl ?_
      exact kz
    obtain ⟨cq56, kq56, q56a, q56b, q56c⟩ := isOf hZ rfl Eq52
    obtain ⟨_, _, ⟨T56, L56, k56, n56⟩, -, X56, ⟨Lc56, hQ56, l56, y56, z56⟩, st56⟩ := X52.virtualBack hx (y := (⟨"java/util/Optional", "isPresent", "()Z"⟩ : MethodName)) (z := (⟨"java/util/Optional", "isPresent", "()Z"⟩ : MethodName)) hown (mvT hZ (own_w hw 70 rfl)) (mvT hZ (own_w hw 71 rfl)) (notFace_of_selects (args := #[]) (mvT hZ (own_w hw 73 rfl))) (mvT hZ (own_w hw 73 rfl)) (mvT hZ (own_w hw 72 rfl)) (by decide) (backOf (W := 0) (rm12b l Z a0 hw [] d52 d47 T52.heap n0 O55 Fq52) hZ (own_w hw 74 rfl) (own_w hw 59 rfl) (by decide) (by decide)) q56a q56c (g := (mkF m 81 #[iv p0, iv p1, iv p2, iv (2 : Int32), iv c0, iv c1, iv c2, iv c3, rv d47, rv d49, rv d52, .unset] [(.ref d52)])) rfl (by rw [hml]; rfl) (Steps.refl _) (argsL := []) (rest := []) (lenOf own_pd16 rfl) rfl (by show 2 * 0 + _ ≤ _; exact Nat.le_of_eq rfl) (hb hby at_81) (fun _ _ => ⟨rfl, rfl, (by decide : 6 + 0 ≤ _), (by decide : 15 + 0 ≤ _)⟩)
    dsimp only [Pt.U, Pt.locs, Pt.cells, Pt.slots] at X56 l56 y56 z56 st56 hQ56
    subst l56 y56 z56
    obtain ⟨rfl, Nq56, e56⟩ := hQ56
    have N56 := Fr.app N52 Nq56
    refine own_on (B := T56.setTop (mkF m 84 #[iv p0, iv p1, iv p2, iv (2 : Int32), iv c0, iv c1, iv c2, iv c3, rv d47, rv d49, rv d52, .unset] [(.int (1 : Int32))])) (fun tz kz => st56.trans kz) ?_
    refine own_on (B := T56.setTop (mkF m 91 #[iv p0, iv p1, iv p2, iv (2 : Int32), iv c0, iv c1, iv c2, iv c3, rv d47, rv d49, rv d52, .unset] [(.ref d52)])) (fun tz kz => ?_) ?_
    · show sT p e below T56 (mkF m 84 #[iv p0, iv p1, iv p2, iv (2 : Int32), iv c0, iv c1, iv c2, iv c3, rv d47, rv d49, rv d52, .unset] [(.int (1 : Int32))]) tz
      refine XS.ifYes X56.here hx rfl (pc0 := 84) (pc' := 89) rfl (hb hby at_84) rfl ((if0 _ _).trans (feq (by decide : ¬ ((1 : Int32) = (0 : Int32)))).2) (by decide) (by decide) ?_
      show sT p e below T56 (mkF m 89 #[iv p0, iv p1, iv p2, iv (2 : Int32), iv c0, iv c1, iv c2, iv c3, rv d47, rv d49, rv d52, .unset] []) tz
      refine XS.aload X56.here hx rfl (hb hby at_89) rfl rfl ?_
      exact kz
    obtain ⟨cq57, kq57, q57a, q57b, q57c⟩ := isOf hZ e56 Eq52
    obtain ⟨_, _, ⟨T57, L57, k57, n57⟩, -, X57, ⟨Lc57, hQ57, l57, y57, z57⟩, st57⟩ := X56.virtualBack hx (y := (⟨"java/util/Optional", "get", "()Ljava/lang/Object;"⟩ : MethodName)) (z := (⟨"java/util/Optional", "get", "()Ljava/lang/Object;"⟩ : MethodName)) hown (mvT hZ (own_w hw 75 rfl)) (mvT hZ (own_w hw 76 rfl)) (notFace_of_selects (args := #[]) (mvT hZ (own_w hw 78 rfl))) (mvT hZ (own_w hw 78 rfl)) (mvT hZ (own_w hw 77 rfl)) (by decide) (backOf (W := 0) (rm13 l Z a0 hw [] d52 d47 T52.heap n0 O55 Fq52) hZ (own_w hw 79 rfl) (own_w hw 59 rfl) (by decide) (by decide)) q57a q57c (g := (mkF m 91 #[iv p0, iv p1, iv p2, iv (2 : Int32), iv c0, iv c1, iv c2, iv c3, rv d47, rv d49, rv d52, .unset] [(.ref d52)])) rfl (by rw [hml]; rfl) (Steps.refl _) (argsL := []) (rest := []) (lenOf own_pd18 rfl) rfl (by show 2 * 0 + _ ≤ _; exact Nat.le_of_eq rfl) (hb hby at_91) (fun _ _ => ⟨rfl, e56, (by decide : 6 + 0 ≤ _), (by decide : 15 + 0 ≤ _)⟩)
    dsimp only [Pt.U, Pt.locs, Pt.cells, Pt.slots] at X57 l57 y57 z57 st57 hQ57
    subst l57 y57 z57
    obtain ⟨rfl, Nq57, e57⟩ := hQ57
    have N57 := Fr.app N56 Nq57
    refine own_on (B := T57.setTop (mkF m 94 #[iv p0, iv p1, iv p2, iv (2 : Int32), iv c0, iv c1, iv c2, iv c3, rv d47, rv d49, rv d52, .unset] [(.ref d47)])) (fun tz kz => st57.trans kz) ?_
    have f_58 := (f_53.keep Kq52)
    obtain ⟨T59, X59, e59, st59⟩ := castY X57 hx hZ hown (own_w hw 6 rfl) e57 (Ins.self f_58) (g := (mkF m 94 #[iv p0, iv p1, iv p2, iv (2 : Int32), iv c0, iv c1, iv c2, iv c3, rv d47, rv d49, rv d52, .unset] [(.ref d47)])) rfl rfl (hb hby at_94)
    refine own_on (B := T59.setTop (mkF m 97 #[iv p0, iv p1, iv p2, iv (2 : Int32), iv c0, iv c1, iv c2, iv c3, rv d47, rv d49, rv d52, .unset] [(.ref d47)])) (fun tz kz => st59 _ kz) ?_
    have f_60 := ((Fv47.keep Kq49 nin0).keep Kq52 nin0)
    have f_61 := ((Fc47.keep Kq49 nin0).keep Kq52 nin0)
    have f_62 := (f_54.keep Kq52 nin0)
    refine own_on (B := T59.setTop (mkF m 101 #[iv p0, iv p1, iv p2, iv (2 : Int32), iv c0, iv c1, iv c2, iv c3, rv d47, rv d49, rv d52, rv d47] [(.ref d47)])) (fun tz kz => ?_) ?_
    · show sT p e below T59 (mkF m 97 #[iv p0, iv p1, iv p2, iv (2 : Int32), iv c0, iv c1, iv c2, iv c3, rv d47, rv d49, rv d52, .unset] [(.ref d47)]) tz
      refine XS.astore X59.here hx rfl (hb hby at_97) rfl rfl (l' := #[iv p0, iv p1, iv p2, iv (2 : Int32), iv c0, iv c1, iv c2, iv c3, rv d47, rv d49, rv d52, rv d47]) rfl ?_
      show sT p e below T59 (mkF m 99 #[iv p0, iv p1, iv p2, iv (2 : Int32), iv c0, iv c1, iv c2, iv c3, rv d47, rv d49, rv d52, rv d47] []) tz
      refine XS.aload X59.here hx rfl (hb hby at_99) rfl rfl ?_
      exact kz
    obtain ⟨cq63, kq63, q63a, q63b, q63c⟩ := isOf hZ e59 f_58
    obtain ⟨_, _, ⟨T63, L63, k63, n63⟩, -, X63, ⟨Lc63, hQ63, l63, y63, z63⟩, st63⟩ := X59.virtualBack hx (y := (⟨"java/lang/String", "length", "()I"⟩ : MethodName)) (z := (⟨"java/lang/String", "length", "()I"⟩ : MethodName)) hown (mvT hZ (own_w hw 80 rfl)) (mvT hZ (own_w hw 81 rfl)) (notFace_of_selects (args := #[]) (mvT hZ (own_w hw 83 rfl))) (mvT hZ (own_w hw 83 rfl)) (mvT hZ (own_w hw 82 rfl)) (by decide) (backOf (W := 0) (rm14 l Z a0 hw [] d47 cS b47 ln47 cd47 (2 : Int32) T52.heap n0 O55 S_cs hcS f_58 f_60 f_61 f_62 (own_cfb LC47) (own_ln2 LC47)) hZ (own_w hw 84 rfl) (own_w hw 8 rfl) (by decide) (by decide)) q63a q63c (g := (mkF m 101 #[iv p0, iv p1, iv p2, iv (2 : Int32), iv c0, iv c1, iv c2, iv c3, rv d47, rv d49, rv d52, rv d47] [(.ref d47)])) rfl (by rw [hml]; rfl) (Steps.refl _) (argsL := []) (rest := []) (lenOf own_pd19 rfl) rfl (by show 2 * 0 + _ ≤ _; exact Nat.le_of_eq rfl) (hb hby at_101) (fun _ _ => ⟨rfl, e59, (by decide : 6 + 0 ≤ _), (by decide : 15 + 0 ≤ _)⟩)
    dsimp only [Pt.U, Pt.locs, Pt.cells, Pt.slots] at X63 l63 y63 z63 st63 hQ63
    subst l63 y63 z63
    obtain ⟨rfl, Nq63, e63⟩ := hQ63
    have N63 := Fr.app N57 Nq63
    refine own_on (B := T63.setTop (mkF m 104 #[iv p0, iv p1, iv p2, iv (2 : Int32), iv c0, iv c1, iv c2, iv c3, rv d47, rv d49, rv d52, rv d47] [(.int (2 : Int32))])) (fun tz kz => st63.trans kz) ?_
    refine own_on (B := T63.setTop (mkF m 114 #[iv p0, iv p1, iv p2, iv (2 : Int32), iv c0, iv c1, iv c2, iv c3, rv d47, rv d49, rv d52, rv d47] [(.ref d47), (.ref d47)])) (fun tz kz => ?_) ?_
    · show sT p e below T63 (mkF m 104 #[iv p0, iv p1, iv p2, iv (2 : Int32), iv c0, iv c1, iv c2, iv c3, rv d47, rv d49, rv d52, rv d47] [(.int (2 : Int32))]) tz
      refine XS.iloadN X63.here hx rfl (hb hby at_104) rfl ?_
      show sT p e below T63 (mkF m 105 #[iv p0, iv p1, iv p2, iv (2 : Int32), iv c0, iv c1, iv c2, iv c3, rv d47, rv d49, rv d52, rv d47] [(.int (2 : Int32)), (.int (2 : Int32))]) tz
      refine XS.icmpYes X63.here hx rfl (pc0 := 105) (pc' := 110) rfl (hb hby at_105) rfl (teq rfl).1 (by decide) (by decide) ?_
      show sT p e below T63 (mkF m 110 #[iv p0, iv p1, iv p2, iv (2 : Int32), iv c0, iv c1, iv c2, iv c3, rv d47, rv d49, rv d52, rv d47] []) tz
      refine XS.aload X63.here hx rfl (hb hby at_110) rfl rfl ?_
      show sT p e below T63 (mkF m 112 #[iv p0, iv p1, iv p2, iv (2 : Int32), iv c0, iv c1, iv c2, iv c3, rv d47, rv d49, rv d52, rv d47] [(.ref d47)]) tz
      refine XS.aload X63.here hx rfl (hb hby at_112) rfl rfl ?_
      exact kz
    obtain ⟨cq64, kq64, q64a, q64b, q64c⟩ := isOf hZ e63 f_58
    obtain ⟨_, _, ⟨T64, L64, k64, n64⟩, -, X64, ⟨Lc64, hQ64, l64, y64, z64⟩, st64⟩ := X63.virtualBack hx (y := (⟨"java/lang/String", "equals", "(Ljava/lang/Object;)Z"⟩ : MethodName)) (z := (⟨"java/lang/String", "equals", "(Ljava/lang/Object;)Z"⟩ : MethodName)) hown (mvT hZ (own_w hw 91 rfl)) (mvT hZ (own_w hw 92 rfl)) (notFace_of_selects (args := #[]) (mvT hZ (own_w hw 94 rfl))) (mvT hZ (own_w hw 94 rfl)) (mvT hZ (own_w hw 93 rfl)) (by decide) (backOf (W := 0) (rm16 l Z a0 hw [] d47  T52.heap n0 O55 ) hZ (own_w hw 95 rfl) (own_w hw 8 rfl) (by decide) (by decide)) q64a q64c (g := (mkF m 114 #[iv p0, iv p1, iv p2, iv (2 : Int32), iv c0, iv c1, iv c2, iv c3, rv d47, rv d49, rv d52, rv d47] [(.ref d47), (.ref d47)])) rfl (by rw [hml]; rfl) (Steps.refl _) (argsL := [(.ref d47)]) (rest := []) (lenOf own_pd20 rfl) rfl (by show 2 * 0 + _ ≤ _; exact Nat.le_of_eq rfl) (hb hby at_114) (fun _ _ => ⟨rfl, e63, (by decide : 6 + 0 ≤ _), (by decide : 15 + 0 ≤ _)⟩)
    dsimp only [Pt.U, Pt.locs, Pt.cells, Pt.slots] at X64 l64 y64 z64 st64 hQ64
    subst l64 y64 z64
    obtain ⟨rfl, Nq64, e64⟩ := hQ64
    have N64 := Fr.app N63 Nq64
    refine own_on (B := T64.setTop (mkF m 117 #[iv p0, iv p1, iv p2, iv (2 : Int32), iv c0, iv c1, iv c2, iv c3, rv d47, rv d49, rv d52, rv d47] [(.int (1 : Int32))])) (fun tz kz => st64.trans kz) ?_
    have f_65 := (Fq49.keep Kq52 nin0)
    refine own_on (B := T64.setTop (mkF m 124 #[iv p0, iv p1, iv p2, iv (2 : Int32), iv c0, iv c1, iv c2, iv c3, rv d47, rv d49, rv d52, rv d47] [(.ref d49)])) (fun tz kz => ?_) ?_
    · show sT p e below T64 (mkF m 117 #[iv p0, iv p1, iv p2, iv (2 : Int32), iv c0, iv c1, iv c2, iv c3, rv d47, rv d49, rv d52, rv d47] [(.int (1 : Int32))]) tz
      refine XS.ifYes X64.here hx rfl (pc0 := 117) (pc' := 122) rfl (hb hby at_117) rfl ((if0 _ _).trans (feq (by decide : ¬ ((1 : Int32) = (0 : Int32)))).2) (by decide) (by decide) ?_
      show sT p e below T64 (mkF m 122 #[iv p0, iv p1, iv p2, iv (2 : Int32), iv c0, iv c1, iv c2, iv c3, rv d47, rv d49, rv d52, rv d47] []) tz
      refine XS.aload X64.here hx rfl (hb hby at_122) rfl rfl ?_
      exact kz
    have f_67 := (Eq49.keep Kq52)
    obtain ⟨cq66, kq66, q66a, q66b, q66c⟩ := isOf hZ e64 f_67
    obtain ⟨_, _, ⟨T66, L66, k66, n66⟩, -, X66, ⟨Lc66, hQ66, l66, y66, z66⟩, st66⟩ := X64.virtualBack hx (y := (⟨"com/example/firm_gate/firmgate/TokenDecision", "reason", "()Ljava/util/Optional;"⟩ : MethodName)) (z := (⟨"com/example/firm_gate/firmgate/TokenDecision", "reason", "()Ljava/util/Optional;"⟩ : MethodName)) hown (mvT hZ (own_w hw 96 rfl)) (mvT hZ (own_w hw 97 rfl)) (notFace_of_selects (args := #[]) (mvT hZ (own_w hw 99 rfl))) (mvT hZ (own_w hw 99 rfl)) (mvT hZ (own_w hw 98 rfl)) (by decide) (backOf (W := 0) (rm17 l Z a0 hw [] d49 wE T52.heap n0 O55 f_65 S_E) hZ (own_w hw 100 rfl) (own_w hw 30 rfl) (by decide) (by decide)) q66a q66c (g := (mkF m 124 #[iv p0, iv p1, iv p2, iv (2 : Int32), iv c0, iv c1, iv c2, iv c3, rv d47, rv d49, rv d52, rv d47] [(.ref d49)])) rfl (by rw [hml]; rfl) (Steps.refl _) (argsL := []) (rest := []) (lenOf own_pd17 rfl) rfl (by show 2 * 0 + _ ≤ _; exact Nat.le_of_eq rfl) (hb hby at_124) (fun _ _ => ⟨rfl, e64, (by decide : 6 + 0 ≤ _), (by decide : 15 + 0 ≤ _)⟩)
    dsimp only [Pt.U, Pt.locs, Pt.cells, Pt.slots] at X66 l66 y66 z66 st66 hQ66
    subst l66 y66 z66
    obtain ⟨rfl, Nq66, e66⟩ := hQ66
    have N66 := Fr.app N64 Nq66
    refine own_on (B := T66.setTop (mkF m 127 #[iv p0, iv p1, iv p2, iv (2 : Int32), iv c0, iv c1, iv c2, iv c3, rv d47, rv d49, rv d52, rv d47] [(.ref wE)])) (fun tz kz => st66.trans kz) ?_
    obtain ⟨cq68, kq68, q68a, q68b, q68c⟩ := isOf hZ e66 (E_E.ext O55.2)
    obtain ⟨_, _, ⟨T68, L68, k68, n68⟩, -, X68, ⟨Lc68, hQ68, l68, y68, z68⟩, st68⟩ := X66.virtualBack hx (y := (⟨"java/util/Optional", "isPresent", "()Z"⟩ : MethodName)) (z := (⟨"java/util/Optional", "isPresent", "()Z"⟩ : MethodName)) hown (mvT hZ (own_w hw 70 rfl)) (mvT hZ (own_w hw 71 rfl)) (notFace_of_selects (args := #[]) (mvT hZ (own_w hw 73 rfl))) (mvT hZ (own_w hw 73 rfl)) (mvT hZ (own_w hw 72 rfl)) (by decide) (backOf (W := 0) (rm12a l Z a0 hw [] wE  T52.heap n0 O55 (F_E.ext O55.2)) hZ (own_w hw 74 rfl) (own_w hw 59 rfl) (by decide) (by decide)) q68a q68c (g := (mkF m 127 #[iv p0, iv p1, iv p2, iv (2 : Int32), iv c0, iv c1, iv c2, iv c3, rv d47, rv d49, rv d52, rv d47] [(.ref wE)])) rfl (by rw [hml]; rfl) (Steps.refl _) (argsL := []) (rest := []) (lenOf own_pd16 rfl) rfl (by show 2 * 0 + _ ≤ _; exact Nat.le_of_eq rfl) (hb hby at_127) (fun _ _ => ⟨rfl, e66, (by decide : 6 + 0 ≤ _), (by decide : 15 + 0 ≤ _)⟩)
    dsimp only [Pt.U, Pt.locs, Pt.cells, Pt.slots] at X68 l68 y68 z68 st68 hQ68
    subst l68 y68 z68
    obtain ⟨rfl, Nq68, e68⟩ := hQ68
    have N68 := Fr.app N66 Nq68
    refine own_on (B := T68.setTop (mkF m 130 #[iv p0, iv p1, iv p2, iv (2 : Int32), iv c0, iv c1, iv c2, iv c3, rv d47, rv d49, rv d52, rv d47] [(.int (0 : Int32))])) (fun tz kz => st68.trans kz) ?_
    refine own_on (B := T68.setTop (mkF m 136 #[iv p0, iv p1, iv p2, iv (2 : Int32), iv c0, iv c1, iv c2, iv c3, rv d47, rv d49, rv d52, rv d47] [(.int (1 : Int32))])) (fun tz kz => ?_) ?_
    · show sT p e below T68 (mkF m 130 #[iv p0, iv p1, iv p2, iv (2 : Int32), iv c0, iv c1, iv c2, iv c3, rv d47, rv d49, rv d52, rv d47] [(.int (0 : Int32))]) tz
      refine XS.ifYes X68.here hx rfl (pc0 := 130) (pc' := 135) rfl (hb hby at_130) rfl ((if0 _ _).trans (teq rfl).1) (by decide) (by decide) ?_
      show sT p e below T68 (mkF m 135 #[iv p0, iv p1, iv p2, iv (2 : Int32), iv c0, iv c1, iv c2, iv c3, rv d47, rv d49, rv d52, rv d47] []) tz
      refine XS.iconst X68.here hx rfl (hb hby at_135) ?_
      exact kz
    obtain ⟨fs, hr, hrun, hended, hW, hsame⟩ := X68.leave (v := some (.int (1 : Int32))) (fun h => by rw [Bd.returns] at h; cases h)
    refine own_of ⟨_, _, ?_, hrun, hended, _, _, rfl, ?_, ReturnedEndW.of_narrow ⟨_, rfl⟩ hW (hsame.mono (by decide) (by decide))⟩
    · show sT p e below T68 (mkF m 136 #[iv p0, iv p1, iv p2, iv (2 : Int32), iv c0, iv c1, iv c2, iv c3, rv d47, rv d49, rv d52, rv d47] [(.int (1 : Int32))]) _
      exact own_retN X68 hx (t := .boolean) Bd.returns (by simp) (by first | rfl | (split <;> first | rfl | (split <;> first | rfl | (split <;> rfl)))) (hb hby at_136) hr
    · show Q0 Z p0 p1 p2 cS wE h0 n0 _ T68.heap _
      rw [e68]
      exact ⟨rfl, N68⟩
  · refine own_on (B := s₁.setTop (mkF m 50 #[iv p0, iv p1, iv p2, iv (3 : Int32), iv c0, iv c1, iv c2, iv c3, .unset, .unset, .unset, .unset] [(.int c3), (.int c2), (.int c1), (.int c0), (.int (3 : Int32))])) (fun tz kz => ?_) ?_
    · show sT p e below s₁ (mkF m 41 #[iv p0, iv p1, iv p2, iv (3 : Int32), iv c0, iv c1, iv c2, iv c3, .unset, .unset, .unset, .unset] []) tz
      refine XS.iloadN X0.here hx rfl (hb hby at_41) rfl ?_
      show sT p e below s₁ (mkF m 42 #[iv p0, iv p1, iv p2, iv (3 : Int32), iv c0, iv c1, iv c2, iv c3, .unset, .unset, .unset, .unset] [(.int (3 : Int32))]) tz
      refine XS.iload X0.here hx rfl (hb hby at_42) rfl ?_
      show sT p e below s₁ (mkF m 44 #[iv p0, iv p1, iv p2, iv (3 : Int32), iv c0, iv c1, iv c2, iv c3, .unset, .unset, .unset, .unset] [(.int c0), (.int (3 : Int32))]) tz
      refine XS.iload X0.here hx rfl (hb hby at_44) rfl ?_
      show sT p e below s₁ (mkF m 46 #[iv p0, iv p1, iv p2, iv (3 : Int32), iv c0, iv c1, iv c2, iv c3, .unset, .unset, .unset, .unset] [(.int c1), (.int c0), (.int (3 : Int32))]) tz
      refine XS.iload X0.here hx rfl (hb hby at_46) rfl ?_
      show sT p e below s₁ (mkF m 48 #[iv p0, iv p1, iv p2, iv (3 : Int32), iv c0, iv c1, iv c2, iv c3, .unset, .unset, .unset, .unset] [(.int c2), (.int c1), (.int c0), (.int (3 : Int32))]) tz
      refine XS.iload X0.here hx rfl (hb hby at_48) rfl ?_
      exact kz
    obtain ⟨_, _, ⟨T69, L69, k69, n69⟩, -, X69, ⟨Lc69, hQ69, l69, y69, z69⟩, st69⟩ := Jvm.LawKit.callS X0 hx (y := (⟨"com/example/firm_gate/firmgate/TokenDecisionAcceptPinLaw", "make", "(ICCCC)Ljava/lang/String;"⟩ : MethodName)) hown (mvT hZ (own_w hw 2 rfl)) (mvT hZ (own_w hw 3 rfl)) (mvT hZ (own_w hw 4 rfl)) (mvT hZ (own_w hw 5 rfl)) (by decide) (backOf (W := 0) (rm1c l Z a0 hw [] c0 c1 c2 c3 cS h0 n0 O0 S_cs hcS S_as S_hi S_lo hheld hcw) hZ (own_w hw 5 rfl) (own_w hw 4 rfl) (by decide) (by decide)) (g := (mkF m 50 #[iv p0, iv p1, iv p2, iv (3 : Int32), iv c0, iv c1, iv c2, iv c3, .unset, .unset, .unset, .unset] [(.int c3), (.int c2), (.int c1), (.int c0), (.int (3 : Int32))])) rfl (by rw [hml]; rfl) (argsL := [(.int (3 : Int32)), (.int c0), (.int c1), (.int c2), (.int c3)]) (rest := []) (lenOf own_pd14 rfl) rfl (by show 2 * 0 + _ ≤ _; exact Nat.le_of_eq rfl) (hb hby at_50) (fun _ _ => ⟨rfl, e0, (by decide : 0 + 4 ≤ _), (by decide : 0 + 16 ≤ _)⟩)
    dsimp only [Pt.U, Pt.locs, Pt.cells, Pt.slots] at X69 l69 y69 z69 st69 hQ69
    subst l69 y69 z69
    obtain ⟨d69, b69, ln69, cd69, rfl, Nq69, Kq69, zq69, Eq69, Fv69, Fc69, Vb69, LC69⟩ := hQ69
    have N69 := Fr.app N0 Nq69
    have g_d69 : n0 ≤ d69 := Nat.le_trans (own_old O0) zq69
    have sz_d69 : h0.size ≤ d69 := Nat.le_trans (Keep.refl h0 []).1 zq69
    have O70 := O0.keep Kq69 all0
    have K70 : Keep h0 T69.heap [] := (Keep.refl h0 []).trans Kq69 all0
    refine own_on (B := T69.setTop (mkF m 53 #[iv p0, iv p1, iv p2, iv (3 : Int32), iv c0, iv c1, iv c2, iv c3, .unset, .unset, .unset, .unset] [(.ref d69)])) (fun tz kz => st69 _ kz) ?_
    refine own_on (B := T69.setTop (mkF m 57 #[iv p0, iv p1, iv p2, iv (3 : Int32), iv c0, iv c1, iv c2, iv c3, rv d69, .unset, .unset, .unset] [(.ref d69)])) (fun tz kz => ?_) ?_
    · show sT p e below T69 (mkF m 53 #[iv p0, iv p1, iv p2, iv (3 : Int32), iv c0, iv c1, iv c2, iv c3, .unset, .unset, .unset, .unset] [(.ref d69)]) tz
      refine XS.astore X69.here hx rfl (hb hby at_53) rfl rfl (l' := #[iv p0, iv p1, iv p2, iv (3 : Int32), iv c0, iv c1, iv c2, iv c3, rv d69, .unset, .unset, .unset]) rfl ?_
      show sT p e below T69 (mkF m 55 #[iv p0, iv p1, iv p2, iv (3 : Int32), iv c0, iv c1, iv c2, iv c3, rv d69, .unset, .unset, .unset] []) tz
      refine XS.aload X69.here hx rfl (hb hby at_55) rfl rfl ?_
      exact kz
    obtain ⟨_, _, ⟨T71, L71, k71, n71⟩, -, X71, ⟨Lc71, hQ71, l71, y71, z71⟩, st71⟩ := Jvm.LawKit.callS X69 hx (y := (⟨"com/example/firm_gate/firmgate/TokenDecision", "accept", "(Ljava/lang/String;)Lcom/example/firm_gate/firmgate/TokenDecision;"⟩ : MethodName)) hown (mvT hZ (own_w hw 28 rfl)) (mvT hZ (own_w hw 29 rfl)) (mvT hZ (own_w hw 30 rfl)) (mvT hZ (own_w hw 31 rfl)) (by decide) (backOf (W := 0) (rm5 l Z a0 hw [] d69  T69.heap n0 O70 Eq69) hZ (own_w hw 31 rfl) (own_w hw 30 rfl) (by decide) (by decide)) (g := (mkF m 57 #[iv p0, iv p1, iv p2, iv (3 : Int32), iv c0, iv c1, iv c2, iv c3, rv d69, .unset, .unset, .unset] [(.ref d69)])) rfl (by rw [hml]; rfl) (argsL := [(.ref d69)]) (rest := []) (lenOf own_pd15 rfl) rfl (by show 2 * 0 + _ ≤ _; exact Nat.le_of_eq rfl) (hb hby at_57) (fun _ _ => ⟨rfl, rfl, (by decide : 4 + 1 ≤ _), (by decide : 16 + 2 ≤ _)⟩)
    dsimp only [Pt.U, Pt.locs, Pt.cells, Pt.slots] at X71 l71 y71 z71 st71 hQ71
    subst l71 y71 z71
    obtain ⟨d71, rfl, Nq71, Kq71, zq71, Eq71, Fp71, Fq71⟩ := hQ71
    have N71 := Fr.app N69 Nq71
    have ne_d69_d71 : d69 ≠ d71 := Nat.ne_of_lt (Nat.lt_of_lt_of_le (Eq69).lt zq71)
    have ne_b69_d71 : b69 ≠ d71 := Nat.ne_of_lt (Nat.lt_of_lt_of_le (Vb69).lt zq71)
    have g_d71 : n0 ≤ d71 := Nat.le_trans (own_old O70) zq71
    have sz_d71 : h0.size ≤ d71 := Nat.le_trans K70.1 zq71
    have O72 := O70.keep Kq71 all0
    have K72 : Keep h0 T71.heap [] := K70.trans Kq71 all0
    refine own_on (B := T71.setTop (mkF m 60 #[iv p0, iv p1, iv p2, iv (3 : Int32), iv c0, iv c1, iv c2, iv c3, rv d69, .unset, .unset, .unset] [(.ref d71)])) (fun tz kz => st71 _ kz) ?_
    refine own_on (B := T71.setTop (mkF m 64 #[iv p0, iv p1, iv p2, iv (3 : Int32), iv c0, iv c1, iv c2, iv c3, rv d69, rv d71, .unset, .unset] [(.ref d71)])) (fun tz kz => ?_) ?_
    · show sT p e below T71 (mkF m 60 #[iv p0, iv p1, iv p2, iv (3 : Int32), iv c0, iv c1, iv c2, iv c3, rv d69, .unset, .unset, .unset] [(.ref d71)]) tz
      refine XS.astore X71.here hx rfl (hb hby at_60) rfl rfl (l' := #[iv p0, iv p1, iv p2, iv (3 : Int32), iv c0, iv c1, iv c2, iv c3, rv d69, rv d71, .unset, .unset]) rfl ?_
      show sT p e below T71 (mkF m 62 #[iv p0, iv p1, iv p2, iv (3 : Int32), iv c0, iv c1, iv c2, iv c3, rv d69, rv d71, .unset, .unset] []) tz
      refine XS.aload X71.here hx rfl (hb hby at_62) rfl rfl ?_
      exact kz
    obtain ⟨cq73, kq73, q73a, q73b, q73c⟩ := isOf hZ rfl Eq71
    obtain ⟨_, _, ⟨T73, L73, k73, n73⟩, -, X73, ⟨Lc73, hQ73, l73, y73, z73⟩, st73⟩ := X71.virtualBack hx (y := (⟨"com/example/firm_gate/firmgate/TokenDecision", "accepted", "()Z"⟩ : MethodName)) (z := (⟨"com/example/firm_gate/firmgate/TokenDecision", "accepted", "()Z"⟩ : MethodName)) hown (mvT hZ (own_w hw 47 rfl)) (mvT hZ (own_w hw 48 rfl)) (notFace_of_selects (args := #[]) (mvT hZ (own_w hw 50 rfl))) (mvT hZ (own_w hw 50 rfl)) (mvT hZ (own_w hw 49 rfl)) (by decide) (backOf (W := 0) (rm8 l Z a0 hw [] d71  T71.heap n0 O72 Fq71) hZ (own_w hw 51 rfl) (own_w hw 30 rfl) (by decide) (by decide)) q73a q73c (g := (mkF m 64 #[iv p0, iv p1, iv p2, iv (3 : Int32), iv c0, iv c1, iv c2, iv c3, rv d69, rv d71, .unset, .unset] [(.ref d71)])) rfl (by rw [hml]; rfl) (Steps.refl _) (argsL := []) (rest := []) (lenOf own_pd16 rfl) rfl (by show 2 * 0 + _ ≤ _; exact Nat.le_of_eq rfl) (hb hby at_64) (fun _ _ => ⟨rfl, rfl, (by decide : 5 + 0 ≤ _), (by decide : 18 + 0 ≤ _)⟩)
    dsimp only [Pt.U, Pt.locs, Pt.cells, Pt.slots] at X73 l73 y73 z73 st73 hQ73
    subst l73 y73 z73
    obtain ⟨rfl, Nq73, e73⟩ := hQ73
    have N73 := Fr.app N71 Nq73
    refine own_on (B := T73.setTop (mkF m 67 #[iv p0, iv p1, iv p2, iv (3 : Int32), iv c0, iv c1, iv c2, iv c3, rv d69, rv d71, .unset, .unset] [(.int (1 : Int32))])) (fun tz kz => st73.trans kz) ?_
    refine own_on (B := T73.setTop (mkF m 74 #[iv p0, iv p1, iv p2, iv (3 : Int32), iv c0, iv c1, iv c2, iv c3, rv d69, rv d71, .unset, .unset] [(.ref d71)])) (fun tz kz => ?_) ?_
    · show sT p e below T73 (mkF m 67 #[iv p0, iv p1, iv p2, iv (3 : Int32), iv c0, iv c1, iv c2, iv c3, rv d69, rv d71, .unset, .unset] [(.int (1 : Int32))]) tz
      refine XS.ifYes X73.here hx rfl (pc0 := 67) (pc' := 72) rfl (hb hby at_67) rfl ((if0 _ _).trans (feq (by decide : ¬ ((1 : Int32) = (0 : Int32)))).2) (by decide) (by decide) ?_
      show sT p e below T73 (mkF m 72 #[iv p0, iv p1, iv p2, iv (3 : Int32), iv c0, iv c1, iv c2, iv c3, rv d69, rv d71, .unset, .unset] []) tz
      refine XS.aload X73.here hx rfl (hb hby at_72) rfl rfl ?_
      exact kz
    obtain ⟨cq74, kq74, q74a, q74b, q74c⟩ := isOf hZ e73 Eq71
    obtain ⟨_, _, ⟨T74, L74, k74, n74⟩, -, X74, ⟨Lc74, hQ74, l74, y74, z74⟩, st74⟩ := X73.virtualBack hx (y := (⟨"com/example/firm_gate/firmgate/TokenDecision", "principal", "()Ljava/util/Optional;"⟩ : MethodName)) (z := (⟨"com/example/firm_gate/firmgate/TokenDecision", "principal", "()Ljava/util/Optional;"⟩ : MethodName)) hown (mvT hZ (own_w hw 52 rfl)) (mvT hZ (own_w hw 53 rfl)) (notFace_of_selects (args := #[]) (mvT hZ (own_w hw 55 rfl))) (mvT hZ (own_w hw 55 rfl)) (mvT hZ (own_w hw 54 rfl)) (by decide) (backOf (W := 0) (rm9 l Z a0 hw [] d71 d69 T71.heap n0 O72 Fp71) hZ (own_w hw 56 rfl) (own_w hw 30 rfl) (by decide) (by decide)) q74a q74c (g := (mkF m 74 #[iv p0, iv p1, iv p2, iv (3 : Int32), iv c0, iv c1, iv c2, iv c3, rv d69, rv d71, .unset, .unset] [(.ref d71)])) rfl (by rw [hml]; rfl) (Steps.refl _) (argsL := []) (rest := []) (lenOf own_pd17 rfl) rfl (by show 2 * 0 + _ ≤ _; exact Nat.le_of_eq rfl) (hb hby at_74) (fun _ _ => ⟨rfl, e73, (by decide : 5 + 1 ≤ _), (by decide : 18 + 1 ≤ _)⟩)
    dsimp only [Pt.U, Pt.locs, Pt.cells, Pt.slots] at X74 l74 y74 z74 st74 hQ74
    subst l74 y74 z74
    obtain ⟨d74, rfl, Nq74, Kq74, zq74, Eq74, Fq74⟩ := hQ74
    have N74 := Fr.app N73 Nq74
    have f_75 := (Eq69.keep Kq71)
    have ne_d69_d74 : d69 ≠ d74 := Nat.ne_of_lt (Nat.lt_of_lt_of_le (f_75).lt zq74)
    have f_76 := (Vb69.keep Kq71 nin0)
    have ne_b69_d74 : b69 ≠ d74 := Nat.ne_of_lt (Nat.lt_of_lt_of_le (f_76).lt zq74)
    have ne_d71_d74 : d71 ≠ d74 := Nat.ne_of_lt (Nat.lt_of_lt_of_le (Eq71).lt zq74)
    have g_d74 : n0 ≤ d74 := Nat.le_trans (own_old O72) zq74
    have sz_d74 : h0.size ≤ d74 := Nat.le_trans K72.1 zq74
    have O77 := O72.keep Kq74 all0
    have K77 : Keep h0 T74.heap [] := K72.trans Kq74 all0
    refine own_on (B := T74.setTop (mkF m 77 #[iv p0, iv p1, iv p2, iv (3 : Int32), iv c0, iv c1, iv c2, iv c3, rv d69, rv d71, .unset, .unset] [(.ref d74)])) (fun tz kz => st74.trans kz) ?_
    refine own_on (B := T74.setTop (mkF m 81 #[iv p0, iv p1, iv p2, iv (3 : Int32), iv c0, iv c1, iv c2, iv c3, rv d69, rv d71, rv d74, .unset] [(.ref d74)])) (fun tz kz => ?_) ?_
    · show sT p e below T74 (mkF m 77 #[iv p0, iv p1, iv p2, iv (3 : Int32), iv c0, iv c1, iv c2, iv c3, rv d69, rv d71, .unset, .unset] [(.ref d74)]) tz
      refine XS.astore X74.here hx rfl (hb hby at_77) rfl rfl (l' := #[iv p0, iv p1, iv p2, iv (3 : Int32), iv c0, iv c1, iv c2, iv c3, rv d69, rv d71, rv d74, .unset]) rfl ?_
      show sT p e below T74 (mkF m 79 #[iv p0, iv p1, iv p2, iv (3 : Int32), iv c0, iv c1, iv c2, iv c3, rv d69, rv d71, rv d74, .unset] []) tz
      refine XS.aload X74.here hx rfl (hb hby at_79) rfl rfl ?_
      exact kz
    obtain ⟨cq78, kq78, q78a, q78b, q78c⟩ := isOf hZ rfl Eq74
    obtain ⟨_, _, ⟨T78, L78, k78, n78⟩, -, X78, ⟨Lc78, hQ78, l78, y78, z78⟩, st78⟩ := X74.virtualBack hx (y := (⟨"java/util/Optional", "isPresent", "()Z"⟩ : MethodName)) (z := (⟨"java/util/Optional", "isPresent", "()Z"⟩ : MethodName)) hown (mvT hZ (own_w hw 70 rfl)) (mvT hZ (own_w hw 71 rfl)) (notFace_of_selects (args := #[]) (mvT hZ (own_w hw 73 rfl))) (mvT hZ (own_w hw 73 rfl)) (mvT hZ (own_w hw 72 rfl)) (by decide) (backOf (W := 0) (rm12b l Z a0 hw [] d74 d69 T74.heap n0 O77 Fq74) hZ (own_w hw 74 rfl) (own_w hw 59 rfl) (by decide) (by decide)) q78a q78c (g := (mkF m 81 #[iv p0, iv p1, iv p2, iv (3 : Int32), iv c0, iv c1, iv c2, iv c3, rv d69, rv d71, rv d74, .unset] [(.ref d74)])) rfl (by rw [hml]; rfl) (Steps.refl _) (argsL := []) (rest := []) (lenOf own_pd16 rfl) rfl (by show 2 * 0 + _ ≤ _; exact Nat.le_of_eq rfl) (hb hby at_81) (fun _ _ => ⟨rfl, rfl, (by decide : 6 + 0 ≤ _), (by decide : 19 + 0 ≤ _)⟩)
    dsimp only [Pt.U, Pt.locs, Pt.cells, Pt.slots] at X78 l78 y78 z78 st78 hQ78
    subst l78 y78 z78
    obtain ⟨rfl, Nq78, e78⟩ := hQ78
    have N78 := Fr.app N74 Nq78
    refine own_on (B := T78.setTop (mkF m 84 #[iv p0, iv p1, iv p2, iv (3 : Int32), iv c0, iv c1, iv c2, iv c3, rv d69, rv d71, rv d74, .unset] [(.int (1 : Int32))])) (fun tz kz => st78.trans kz) ?_
    refine own_on (B := T78.setTop (mkF m 91 #[iv p0, iv p1, iv p2, iv (3 : Int32), iv c0, iv c1, iv c2, iv c3, rv d69, rv d71, rv d74, .unset] [(.ref d74)])) (fun tz kz => ?_) ?_
    · show sT p e below T78 (mkF m 84 #[iv p0, iv p1, iv p2, iv (3 : Int32), iv c0, iv c1, iv c2, iv c3, rv d69, rv d71, rv d74, .unset] [(.int (1 : Int32))]) tz
      refine XS.ifYes X78.here hx rfl (pc0 := 84) (pc' := 89) rfl (hb hby at_84) rfl ((if0 _ _).trans (feq (by decide : ¬ ((1 : Int32) = (0 : Int32)))).2) (by decide) (by decide) ?_
      show sT p e below T78 (mkF m 89 #[iv p0, iv p1, iv p2, iv (3 : Int32), iv c0, iv c1, iv c2, iv c3, rv d69, rv d71, rv d74, .unset] []) tz
      refine XS.aload X78.here hx rfl (hb hby at_89) rfl rfl ?_
      exact kz
    obtain ⟨cq79, kq79, q79a, q79b, q79c⟩ := isOf hZ e78 Eq74
    obtain ⟨_, _, ⟨T79, L79, k79, n79⟩, -, X79, ⟨Lc79, hQ79, l79, y79, z79⟩, st79⟩ := X78.virtualBack hx (y := (⟨"java/util/Optional", "get", "()Ljava/lang/Object;"⟩ : MethodName)) (z := (⟨"java/util/Optional", "get", "()Ljava/lang/Object;"⟩ : MethodName)) hown (mvT hZ (own_w hw 75 rfl)) (mvT hZ (own_w hw 76 rfl)) (notFace_of_selects (args := #[]) (mvT hZ (own_w hw 78 rfl))) (mvT hZ (own_w hw 78 rfl)) (mvT hZ (own_w hw 77 rfl)) (by decide) (backOf (W := 0) (rm13 l Z a0 hw [] d74 d69 T74.heap n0 O77 Fq74) hZ (own_w hw 79 rfl) (own_w hw 59 rfl) (by decide) (by decide)) q79a q79c (g := (mkF m 91 #[iv p0, iv p1, iv p2, iv (3 : Int32), iv c0, iv c1, iv c2, iv c3, rv d69, rv d71, rv d74, .unset] [(.ref d74)])) rfl (by rw [hml]; rfl) (Steps.refl _) (argsL := []) (rest := []) (lenOf own_pd18 rfl) rfl (by show 2 * 0 + _ ≤ _; exact Nat.le_of_eq rfl) (hb hby at_91) (fun _ _ => ⟨rfl, e78, (by decide : 6 + 0 ≤ _), (by decide : 19 + 0 ≤ _)⟩)
    dsimp only [Pt.U, Pt.locs, Pt.cells, Pt.slots] at X79 l79 y79 z79 st79 hQ79
    subst l79 y79 z79
    obtain ⟨rfl, Nq79, e79⟩ := hQ79
    have N79 := Fr.app N78 Nq79
    refine own_on (B := T79.setTop (mkF m 94 #[iv p0, iv p1, iv p2, iv (3 : Int32), iv c0, iv c1, iv c2, iv c3, rv d69, rv d71, rv d74, .unset] [(.ref d69)])) (fun tz kz => st79.trans kz) ?_
    have f_80 := (f_75.keep Kq74)
    obtain ⟨T81, X81, e81, st81⟩ := castY X79 hx hZ hown (own_w hw 6 rfl) e79 (Ins.self f_80) (g := (mkF m 94 #[iv p0, iv p1, iv p2, iv (3 : Int32), iv c0, iv c1, iv c2, iv c3, rv d69, rv d71, rv d74, .unset] [(.ref d69)])) rfl rfl (hb hby at_94)
    refine own_on (B := T81.setTop (mkF m 97 #[iv p0, iv p1, iv p2, iv (3 : Int32), iv c0, iv c1, iv c2, iv c3, rv d69, rv d71, rv d74, .unset] [(.ref d69)])) (fun tz kz => st81 _ kz) ?_
    have f_82 := ((Fv69.keep Kq71 nin0).keep Kq74 nin0)
    have f_83 := ((Fc69.keep Kq71 nin0).keep Kq74 nin0)
    have f_84 := (f_76.keep Kq74 nin0)
    refine own_on (B := T81.setTop (mkF m 101 #[iv p0, iv p1, iv p2, iv (3 : Int32), iv c0, iv c1, iv c2, iv c3, rv d69, rv d71, rv d74, rv d69] [(.ref d69)])) (fun tz kz => ?_) ?_
    · show sT p e below T81 (mkF m 97 #[iv p0, iv p1, iv p2, iv (3 : Int32), iv c0, iv c1, iv c2, iv c3, rv d69, rv d71, rv d74, .unset] [(.ref d69)]) tz
      refine XS.astore X81.here hx rfl (hb hby at_97) rfl rfl (l' := #[iv p0, iv p1, iv p2, iv (3 : Int32), iv c0, iv c1, iv c2, iv c3, rv d69, rv d71, rv d74, rv d69]) rfl ?_
      show sT p e below T81 (mkF m 99 #[iv p0, iv p1, iv p2, iv (3 : Int32), iv c0, iv c1, iv c2, iv c3, rv d69, rv d71, rv d74, rv d69] []) tz
      refine XS.aload X81.here hx rfl (hb hby at_99) rfl rfl ?_
      exact kz
    obtain ⟨cq85, kq85, q85a, q85b, q85c⟩ := isOf hZ e81 f_80
    obtain ⟨_, _, ⟨T85, L85, k85, n85⟩, -, X85, ⟨Lc85, hQ85, l85, y85, z85⟩, st85⟩ := X81.virtualBack hx (y := (⟨"java/lang/String", "length", "()I"⟩ : MethodName)) (z := (⟨"java/lang/String", "length", "()I"⟩ : MethodName)) hown (mvT hZ (own_w hw 80 rfl)) (mvT hZ (own_w hw 81 rfl)) (notFace_of_selects (args := #[]) (mvT hZ (own_w hw 83 rfl))) (mvT hZ (own_w hw 83 rfl)) (mvT hZ (own_w hw 82 rfl)) (by decide) (backOf (W := 0) (rm14 l Z a0 hw [] d69 cS b69 ln69 cd69 (3 : Int32) T74.heap n0 O77 S_cs hcS f_80 f_82 f_83 f_84 (own_cfb LC69) (own_ln3 LC69)) hZ (own_w hw 84 rfl) (own_w hw 8 rfl) (by decide) (by decide)) q85a q85c (g := (mkF m 101 #[iv p0, iv p1, iv p2, iv (3 : Int32), iv c0, iv c1, iv c2, iv c3, rv d69, rv d71, rv d74, rv d69] [(.ref d69)])) rfl (by rw [hml]; rfl) (Steps.refl _) (argsL := []) (rest := []) (lenOf own_pd19 rfl) rfl (by show 2 * 0 + _ ≤ _; exact Nat.le_of_eq rfl) (hb hby at_101) (fun _ _ => ⟨rfl, e81, (by decide : 6 + 0 ≤ _), (by decide : 19 + 0 ≤ _)⟩)
    dsimp only [Pt.U, Pt.locs, Pt.cells, Pt.slots] at X85 l85 y85 z85 st85 hQ85
    subst l85 y85 z85
    obtain ⟨rfl, Nq85, e85⟩ := hQ85
    have N85 := Fr.app N79 Nq85
    refine own_on (B := T85.setTop (mkF m 104 #[iv p0, iv p1, iv p2, iv (3 : Int32), iv c0, iv c1, iv c2, iv c3, rv d69, rv d71, rv d74, rv d69] [(.int (3 : Int32))])) (fun tz kz => st85.trans kz) ?_
    refine own_on (B := T85.setTop (mkF m 114 #[iv p0, iv p1, iv p2, iv (3 : Int32), iv c0, iv c1, iv c2, iv c3, rv d69, rv d71, rv d74, rv d69] [(.ref d69), (.ref d69)])) (fun tz kz => ?_) ?_
    · show sT p e below T85 (mkF m 104 #[iv p0, iv p1, iv p2, iv (3 : Int32), iv c0, iv c1, iv c2, iv c3, rv d69, rv d71, rv d74, rv d69] [(.int (3 : Int32))]) tz
      refine XS.iloadN X85.here hx rfl (hb hby at_104) rfl ?_
      show sT p e below T85 (mkF m 105 #[iv p0, iv p1, iv p2, iv (3 : Int32), iv c0, iv c1, iv c2, iv c3, rv d69, rv d71, rv d74, rv d69] [(.int (3 : Int32)), (.int (3 : Int32))]) tz
      refine XS.icmpYes X85.here hx rfl (pc0 := 105) (pc' := 110) rfl (hb hby at_105) rfl (teq rfl).1 (by decide) (by decide) ?_
      show sT p e below T85 (mkF m 110 #[iv p0, iv p1, iv p2, iv (3 : Int32), iv c0, iv c1, iv c2, iv c3, rv d69, rv d71, rv d74, rv d69] []) tz
      refine XS.aload X85.here hx rfl (hb hby at_110) rfl rfl ?_
      show sT p e below T85 (mkF m 112 #[iv p0, iv p1, iv p2, iv (3 : Int32), iv c0, iv c1, iv c2, iv c3, rv d69, rv d71, rv d74, rv d69] [(.ref d69)]) tz
      refine XS.aload X85.here hx rfl (hb hby at_112) rfl rfl ?_
      exact kz
    obtain ⟨cq86, kq86, q86a, q86b, q86c⟩ := isOf hZ e85 f_80
    obtain ⟨_, _, ⟨T86, L86, k86, n86⟩, -, X86, ⟨Lc86, hQ86, l86, y86, z86⟩, st86⟩ := X85.virtualBack hx (y := (⟨"java/lang/String", "equals", "(Ljava/lang/Object;)Z"⟩ : MethodName)) (z := (⟨"java/lang/String", "equals", "(Ljava/lang/Object;)Z"⟩ : MethodName)) hown (mvT hZ (own_w hw 91 rfl)) (mvT hZ (own_w hw 92 rfl)) (notFace_of_selects (args := #[]) (mvT hZ (own_w hw 94 rfl))) (mvT hZ (own_w hw 94 rfl)) (mvT hZ (own_w hw 93 rfl)) (by decide) (backOf (W := 0) (rm16 l Z a0 hw [] d69  T74.heap n0 O77 ) hZ (own_w hw 95 rfl) (own_w hw 8 rfl) (by decide) (by decide)) q86a q86c (g := (mkF m 114 #[iv p0, iv p1, iv p2, iv (3 : Int32), iv c0, iv c1, iv c2, iv c3, rv d69, rv d71, rv d74, rv d69] [(.ref d69), (.ref d69)])) rfl (by rw [hml]; rfl) (Steps.refl _) (argsL := [(.ref d69)]) (rest := []) (lenOf own_pd20 rfl) rfl (by show 2 * 0 + _ ≤ _; exact Nat.le_of_eq rfl) (hb hby at_114) (fun _ _ => ⟨rfl, e85, (by decide : 6 + 0 ≤ _), (by decide : 19 + 0 ≤ _)⟩)
    dsimp only [Pt.U, Pt.locs, Pt.cells, Pt.slots] at X86 l86 y86 z86 st86 hQ86
    subst l86 y86 z86
    obtain ⟨rfl, Nq86, e86⟩ := hQ86
    have N86 := Fr.app N85 Nq86
    refine own_on (B := T86.setTop (mkF m 117 #[iv p0, iv p1, iv p2, iv (3 : Int32), iv c0, iv c1, iv c2, iv c3, rv d69, rv d71, rv d74, rv d69] [(.int (1 : Int32))])) (fun tz kz => st86.trans kz) ?_
    have f_87 := (Fq71.keep Kq74 nin0)
    refine own_on (B := T86.setTop (mkF m 124 #[iv p0, iv p1, iv p2, iv (3 : Int32), iv c0, iv c1, iv c2, iv c3, rv d69, rv d71, rv d74, rv d69] [(.ref d71)])) (fun tz kz => ?_) ?_
    · show sT p e below T86 (mkF m 117 #[iv p0, iv p1, iv p2, iv (3 : Int32), iv c0, iv c1, iv c2, iv c3, rv d69, rv d71, rv d74, rv d69] [(.int (1 : Int32))]) tz
      refine XS.ifYes X86.here hx rfl (pc0 := 117) (pc' := 122) rfl (hb hby at_117) rfl ((if0 _ _).trans (feq (by decide : ¬ ((1 : Int32) = (0 : Int32)))).2) (by decide) (by decide) ?_
      show sT p e below T86 (mkF m 122 #[iv p0, iv p1, iv p2, iv (3 : Int32), iv c0, iv c1, iv c2, iv c3, rv d69, rv d71, rv d74, rv d69] []) tz
      refine XS.aload X86.here hx rfl (hb hby at_122) rfl rfl ?_
      exact kz
    have f_89 := (Eq71.keep Kq74)
    obtain ⟨cq88, kq88, q88a, q88b, q88c⟩ := isOf hZ e86 f_89
    obtain ⟨_, _, ⟨T88, L88, k88, n88⟩, -, X88, ⟨Lc88, hQ88, l88, y88, z88⟩, st88⟩ := X86.virtualBack hx (y := (⟨"com/example/firm_gate/firmgate/TokenDecision", "reason", "()Ljava/util/Optional;"⟩ : MethodName)) (z := (⟨"com/example/firm_gate/firmgate/TokenDecision", "reason", "()Ljava/util/Optional;"⟩ : MethodName)) hown (mvT hZ (own_w hw 96 rfl)) (mvT hZ (own_w hw 97 rfl)) (notFace_of_selects (args := #[]) (mvT hZ (own_w hw 99 rfl))) (mvT hZ (own_w hw 99 rfl)) (mvT hZ (own_w hw 98 rfl)) (by decide) (backOf (W := 0) (rm17 l Z a0 hw [] d71 wE T74.heap n0 O77 f_87 S_E) hZ (own_w hw 100 rfl) (own_w hw 30 rfl) (by decide) (by decide)) q88a q88c (g := (mkF m 124 #[iv p0, iv p1, iv p2, iv (3 : Int32), iv c0, iv c1, iv c2, iv c3, rv d69, rv d71, rv d74, rv d69] [(.ref d71)])) rfl (by rw [hml]; rfl) (Steps.refl _) (argsL := []) (rest := []) (lenOf own_pd17 rfl) rfl (by show 2 * 0 + _ ≤ _; exact Nat.le_of_eq rfl) (hb hby at_124) (fun _ _ => ⟨rfl, e86, (by decide : 6 + 0 ≤ _), (by decide : 19 + 0 ≤ _)⟩)
    dsimp only [Pt.U, Pt.locs, Pt.cells, Pt.slots] at X88 l88 y88 z88 st88 hQ88
    subst l88 y88 z88
    obtain ⟨rfl, Nq88, e88⟩ := hQ88
    have N88 := Fr.app N86 Nq88
    refine own_on (B := T88.setTop (mkF m 127 #[iv p0, iv p1, iv p2, iv (3 : Int32), iv c0, iv c1, iv c2, iv c3, rv d69, rv d71, rv d74, rv d69] [(.ref wE)])) (fun tz kz => st88.trans kz) ?_
    obtain ⟨cq90, kq90, q90a, q90b, q90c⟩ := isOf hZ e88 (E_E.ext O77.2)
    obtain ⟨_, _, ⟨T90, L90, k90, n90⟩, -, X90, ⟨Lc90, hQ90, l90, y90, z90⟩, st90⟩ := X88.virtualBack hx (y := (⟨"java/util/Optional", "isPresent", "()Z"⟩ : MethodName)) (z := (⟨"java/util/Optional", "isPresent", "()Z"⟩ : MethodName)) hown (mvT hZ (own_w hw 70 rfl)) (mvT hZ (own_w hw 71 rfl)) (notFace_of_selects (args := #[]) (mvT hZ (own_w hw 73 rfl))) (mvT hZ (own_w hw 73 rfl)) (mvT hZ (own_w hw 72 rfl)) (by decide) (backOf (W := 0) (rm12a l Z a0 hw [] wE  T74.heap n0 O77 (F_E.ext O77.2)) hZ (own_w hw 74 rfl) (own_w hw 59 rfl) (by decide) (by decide)) q90a q90c (g := (mkF m 127 #[iv p0, iv p1, iv p2, iv (3 : Int32), iv c0, iv c1, iv c2, iv c3, rv d69, rv d71, rv d74, rv d69] [(.ref wE)])) rfl (by rw [hml]; rfl) (Steps.refl _) (argsL := []) (rest := []) (lenOf own_pd16 rfl) rfl (by show 2 * 0 + _ ≤ _; exact Nat.le_of_eq rfl) (hb hby at_127) (fun _ _ => ⟨rfl, e88, (by decide : 6 + 0 ≤ _), (by decide : 19 + 0 ≤ _)⟩)
    dsimp only [Pt.U, Pt.locs, Pt.cells, Pt.slots] at X90 l90 y90 z90 st90 hQ90
    subst l90 y90 z90
    obtain ⟨rfl, Nq90, e90⟩ := hQ90
    have N90 := Fr.app N88 Nq90
    refine own_on (B := T90.setTop (mkF m 130 #[iv p0, iv p1, iv p2, iv (3 : Int32), iv c0, iv c1, iv c2, iv c3, rv d69, rv d71, rv d74, rv d69] [(.int (0 : Int32))])) (fun tz kz => st90.trans kz) ?_
    refine own_on (B := T90.setTop (mkF m 136 #[iv p0, iv p1, iv p2, iv (3 : Int32), iv c0, iv c1, iv c2, iv c3, rv d69, rv d71, rv d74, rv d69] [(.int (1 : Int32))])) (fun tz kz => ?_) ?_
    · show sT p e below T90 (mkF m 130 #[iv p0, iv p1, iv p2, iv (3 : Int32), iv c0, iv c1, iv c2, iv c3, rv d69, rv d71, rv d74, rv d69] [(.int (0 : Int32))]) tz
      refine XS.ifYes X90.here hx rfl (pc0 := 130) (pc' := 135) rfl (hb hby at_130) rfl ((if0 _ _).trans (teq rfl).1) (by decide) (by decide) ?_
      show sT p e below T90 (mkF m 135 #[iv p0, iv p1, iv p2, iv (3 : Int32), iv c0, iv c1, iv c2, iv c3, rv d69, rv d71, rv d74, rv d69] []) tz
      refine XS.iconst X90.here hx rfl (hb hby at_135) ?_
      exact kz
    obtain ⟨fs, hr, hrun, hended, hW, hsame⟩ := X90.leave (v := some (.int (1 : Int32))) (fun h => by rw [Bd.returns] at h; cases h)
    refine own_of ⟨_, _, ?_, hrun, hended, _, _, rfl, ?_, ReturnedEndW.of_narrow ⟨_, rfl⟩ hW (hsame.mono (by decide) (by decide))⟩
    · show sT p e below T90 (mkF m 136 #[iv p0, iv p1, iv p2, iv (3 : Int32), iv c0, iv c1, iv c2, iv c3, rv d69, rv d71, rv d74, rv d69] [(.int (1 : Int32))]) _
      exact own_retN X90 hx (t := .boolean) Bd.returns (by simp) (by first | rfl | (split <;> first | rfl | (split <;> first | rfl | (split <;> rfl)))) (hb hby at_136) hr
    · show Q0 Z p0 p1 p2 cS wE h0 n0 _ T90.heap _
      rw [e90]
      exact ⟨rfl, N90⟩
  · refine own_on (B := s₁.setTop (mkF m 50 #[iv p0, iv p1, iv p2, iv (4 : Int32), iv c0, iv c1, iv c2, iv c3, .unset, .unset, .unset, .unset] [(.int c3), (.int c2), (.int c1), (.int c0), (.int (4 : Int32))])) (fun tz kz => ?_) ?_
    · show sT p e below s₁ (mkF m 41 #[iv p0, iv p1, iv p2, iv (4 : Int32), iv c0, iv c1, iv c2, iv c3, .unset, .unset, .unset, .unset] []) tz
      refine XS.iloadN X0.here hx rfl (hb hby at_41) rfl ?_
      show sT p e below s₁ (mkF m 42 #[iv p0, iv p1, iv p2, iv (4 : Int32), iv c0, iv c1, iv c2, iv c3, .unset, .unset, .unset, .unset] [(.int (4 : Int32))]) tz
      refine XS.iload X0.here hx rfl (hb hby at_42) rfl ?_
      show sT p e below s₁ (mkF m 44 #[iv p0, iv p1, iv p2, iv (4 : Int32), iv c0, iv c1, iv c2, iv c3, .unset, .unset, .unset, .unset] [(.int c0), (.int (4 : Int32))]) tz
      refine XS.iload X0.here hx rfl (hb hby at_44) rfl ?_
      show sT p e below s₁ (mkF m 46 #[iv p0, iv p1, iv p2, iv (4 : Int32), iv c0, iv c1, iv c2, iv c3, .unset, .unset, .unset, .unset] [(.int c1), (.int c0), (.int (4 : Int32))]) tz
      refine XS.iload X0.here hx rfl (hb hby at_46) rfl ?_
      show sT p e below s₁ (mkF m 48 #[iv p0, iv p1, iv p2, iv (4 : Int32), iv c0, iv c1, iv c2, iv c3, .unset, .unset, .unset, .unset] [(.int c2), (.int c1), (.int c0), (.int (4 : Int32))]) tz
      refine XS.iload X0.here hx rfl (hb hby at_48) rfl ?_
      exact kz
    obtain ⟨_, _, ⟨T91, L91, k91, n91⟩, -, X91, ⟨Lc91, hQ91, l91, y91, z91⟩, st91⟩ := Jvm.LawKit.callS X0 hx (y := (⟨"com/example/firm_gate/firmgate/TokenDecisionAcceptPinLaw", "make", "(ICCCC)Ljava/lang/String;"⟩ : MethodName)) hown (mvT hZ (own_w hw 2 rfl)) (mvT hZ (own_w hw 3 rfl)) (mvT hZ (own_w hw 4 rfl)) (mvT hZ (own_w hw 5 rfl)) (by decide) (backOf (W := 0) (rm1d l Z a0 hw [] c0 c1 c2 c3 cS h0 n0 O0 S_cs hcS S_as S_hi S_lo hheld hcw) hZ (own_w hw 5 rfl) (own_w hw 4 rfl) (by decide) (by decide)) (g := (mkF m 50 #[iv p0, iv p1, iv p2, iv (4 : Int32), iv c0, iv c1, iv c2, iv c3, .unset, .unset, .unset, .unset] [(.int c3), (.int c2), (.int c1), (.int c0), (.int (4 : Int32))])) rfl (by rw [hml]; rfl) (argsL := [(.int (4 : Int32)), (.int c0), (.int c1), (.int c2), (.int c3)]) (rest := []) (lenOf own_pd14 rfl) rfl (by show 2 * 0 + _ ≤ _; exact Nat.le_of_eq rfl) (hb hby at_50) (fun _ _ => ⟨rfl, e0, (by decide : 0 + 4 ≤ _), (by decide : 0 + 20 ≤ _)⟩)
    dsimp only [Pt.U, Pt.locs, Pt.cells, Pt.slots] at X91 l91 y91 z91 st91 hQ91
    subst l91 y91 z91
    obtain ⟨d91, b91, ln91, cd91, rfl, Nq91, Kq91, zq91, Eq91, Fv91, Fc91, Vb91, LC91⟩ := hQ91
    have N91 := Fr.app N0 Nq91
    have g_d91 : n0 ≤ d91 := Nat.le_trans (own_old O0) zq91
    have sz_d91 : h0.size ≤ d91 := Nat.le_trans (Keep.refl h0 []).1 zq91
    have O92 := O0.keep Kq91 all0
    have K92 : Keep h0 T91.heap [] := (Keep.refl h0 []).trans Kq91 all0
    refine own_on (B := T91.setTop (mkF m 53 #[iv p0, iv p1, iv p2, iv (4 : Int32), iv c0, iv c1, iv c2, iv c3, .unset, .unset, .unset, .unset] [(.ref d91)])) (fun tz kz => st91 _ kz) ?_
    refine own_on (B := T91.setTop (mkF m 57 #[iv p0, iv p1, iv p2, iv (4 : Int32), iv c0, iv c1, iv c2, iv c3, rv d91, .unset, .unset, .unset] [(.ref d91)])) (fun tz kz => ?_) ?_
    · show sT p e below T91 (mkF m 53 #[iv p0, iv p1, iv p2, iv (4 : Int32), iv c0, iv c1, iv c2, iv c3, .unset, .unset, .unset, .unset] [(.ref d91)]) tz
      refine XS.astore X91.here hx rfl (hb hby at_53) rfl rfl (l' := #[iv p0, iv p1, iv p2, iv (4 : Int32), iv c0, iv c1, iv c2, iv c3, rv d91, .unset, .unset, .unset]) rfl ?_
      show sT p e below T91 (mkF m 55 #[iv p0, iv p1, iv p2, iv (4 : Int32), iv c0, iv c1, iv c2, iv c3, rv d91, .unset, .unset, .unset] []) tz
      refine XS.aload X91.here hx rfl (hb hby at_55) rfl rfl ?_
      exact kz
    obtain ⟨_, _, ⟨T93, L93, k93, n93⟩, -, X93, ⟨Lc93, hQ93, l93, y93, z93⟩, st93⟩ := Jvm.LawKit.callS X91 hx (y := (⟨"com/example/firm_gate/firmgate/TokenDecision", "accept", "(Ljava/lang/String;)Lcom/example/firm_gate/firmgate/TokenDecision;"⟩ : MethodName)) hown (mvT hZ (own_w hw 28 rfl)) (mvT hZ (own_w hw 29 rfl)) (mvT hZ (own_w hw 30 rfl)) (mvT hZ (own_w hw 31 rfl)) (by decide) (backOf (W := 0) (rm5 l Z a0 hw [] d91  T91.heap n0 O92 Eq91) hZ (own_w hw 31 rfl) (own_w hw 30 rfl) (by decide) (by decide)) (g := (mkF m 57 #[iv p0, iv p1, iv p2, iv (4 : Int32), iv c0, iv c1, iv c2, iv c3, rv d91, .unset, .unset, .unset] [(.ref d91)])) rfl (by rw [hml]; rfl) (argsL := [(.ref d91)]) (rest := []) (lenOf own_pd15 rfl) rfl (by show 2 * 0 + _ ≤ _; exact Nat.le_of_eq rfl) (hb hby at_57) (fun _ _ => ⟨rfl, rfl, (by decide : 4 + 1 ≤ _), (by decide : 20 + 2 ≤ _)⟩)
    dsimp only [Pt.U, Pt.locs, Pt.cells, Pt.slots] at X93 l93 y93 z93 st93 hQ93
    subst l93 y93 z93
    obtain ⟨d93, rfl, Nq93, Kq93, zq93, Eq93, Fp93, Fq93⟩ := hQ93
    have N93 := Fr.app N91 Nq93
    have ne_d91_d93 : d91 ≠ d93 := Nat.ne_of_lt (Nat.lt_of_lt_of_le (Eq91).lt zq93)
    have ne_b91_d93 : b91 ≠ d93 := Nat.ne_of_lt (Nat.lt_of_lt_of_le (Vb91).lt zq93)
    have g_d93 : n0 ≤ d93 := Nat.le_trans (own_old O92) zq93
    have sz_d93 : h0.size ≤ d93 := Nat.le_trans K92.1 zq93
    have O94 := O92.keep Kq93 all0
    have K94 : Keep h0 T93.heap [] := K92.trans Kq93 all0
    refine own_on (B := T93.setTop (mkF m 60 #[iv p0, iv p1, iv p2, iv (4 : Int32), iv c0, iv c1, iv c2, iv c3, rv d91, .unset, .unset, .unset] [(.ref d93)])) (fun tz kz => st93 _ kz) ?_
    refine own_on (B := T93.setTop (mkF m 64 #[iv p0, iv p1, iv p2, iv (4 : Int32), iv c0, iv c1, iv c2, iv c3, rv d91, rv d93, .unset, .unset] [(.ref d93)])) (fun tz kz => ?_) ?_
    · show sT p e below T93 (mkF m 60 #[iv p0, iv p1, iv p2, iv (4 : Int32), iv c0, iv c1, iv c2, iv c3, rv d91, .unset, .unset, .unset] [(.ref d93)]) tz
      refine XS.astore X93.here hx rfl (hb hby at_60) rfl rfl (l' := #[iv p0, iv p1, iv p2, iv (4 : Int32), iv c0, iv c1, iv c2, iv c3, rv d91, rv d93, .unset, .unset]) rfl ?_
      show sT p e below T93 (mkF m 62 #[iv p0, iv p1, iv p2, iv (4 : Int32), iv c0, iv c1, iv c2, iv c3, rv d91, rv d93, .unset, .unset] []) tz
      refine XS.aload X93.here hx rfl (hb hby at_62) rfl rfl ?_
      exact kz
    obtain ⟨cq95, kq95, q95a, q95b, q95c⟩ := isOf hZ rfl Eq93
    obtain ⟨_, _, ⟨T95, L95, k95, n95⟩, -, X95, ⟨Lc95, hQ95, l95, y95, z95⟩, st95⟩ := X93.virtualBack hx (y := (⟨"com/example/firm_gate/firmgate/TokenDecision", "accepted", "()Z"⟩ : MethodName)) (z := (⟨"com/example/firm_gate/firmgate/TokenDecision", "accepted", "()Z"⟩ : MethodName)) hown (mvT hZ (own_w hw 47 rfl)) (mvT hZ (own_w hw 48 rfl)) (notFace_of_selects (args := #[]) (mvT hZ (own_w hw 50 rfl))) (mvT hZ (own_w hw 50 rfl)) (mvT hZ (own_w hw 49 rfl)) (by decide) (backOf (W := 0) (rm8 l Z a0 hw [] d93  T93.heap n0 O94 Fq93) hZ (own_w hw 51 rfl) (own_w hw 30 rfl) (by decide) (by decide)) q95a q95c (g := (mkF m 64 #[iv p0, iv p1, iv p2, iv (4 : Int32), iv c0, iv c1, iv c2, iv c3, rv d91, rv d93, .unset, .unset] [(.ref d93)])) rfl (by rw [hml]; rfl) (Steps.refl _) (argsL := []) (rest := []) (lenOf own_pd16 rfl) rfl (by show 2 * 0 + _ ≤ _; exact Nat.le_of_eq rfl) (hb hby at_64) (fun _ _ => ⟨rfl, rfl, (by decide : 5 + 0 ≤ _), (by decide : 22 + 0 ≤ _)⟩)
    dsimp only [Pt.U, Pt.locs, Pt.cells, Pt.slots] at X95 l95 y95 z95 st95 hQ95
    subst l95 y95 z95
    obtain ⟨rfl, Nq95, e95⟩ := hQ95
    have N95 := Fr.app N93 Nq95
    refine own_on (B := T95.setTop (mkF m 67 #[iv p0, iv p1, iv p2, iv (4 : Int32), iv c0, iv c1, iv c2, iv c3, rv d91, rv d93, .unset, .unset] [(.int (1 : Int32))])) (fun tz kz => st95.trans kz) ?_
    refine own_on (B := T95.setTop (mkF m 74 #[iv p0, iv p1, iv p2, iv (4 : Int32), iv c0, iv c1, iv c2, iv c3, rv d91, rv d93, .unset, .unset] [(.ref d93)])) (fun tz kz => ?_) ?_
    · show sT p e below T95 (mkF m 67 #[iv p0, iv p1, iv p2, iv (4 : Int32), iv c0, iv c1, iv c2, iv c3, rv d91, rv d93, .unset, .unset] [(.int (1 : Int32))]) tz
      refine XS.ifYes X95.here hx rfl (pc0 := 67) (pc' := 72) rfl (hb hby at_67) rfl ((if0 _ _).trans (feq (by decide : ¬ ((1 : Int32) = (0 : Int32)))).2) (by decide) (by decide) ?_
      show sT p e below T95 (mkF m 72 #[iv p0, iv p1, iv p2, iv (4 : Int32), iv c0, iv c1, iv c2, iv c3, rv d91, rv d93, .unset, .unset] []) tz
      refine XS.aload X95.here hx rfl (hb hby at_72) rfl rfl ?_
      exact kz
    obtain ⟨cq96, kq96, q96a, q96b, q96c⟩ := isOf hZ e95 Eq93
    obtain ⟨_, _, ⟨T96, L96, k96, n96⟩, -, X96, ⟨Lc96, hQ96, l96, y96, z96⟩, st96⟩ := X95.virtualBack hx (y := (⟨"com/example/firm_gate/firmgate/TokenDecision", "principal", "()Ljava/util/Optional;"⟩ : MethodName)) (z := (⟨"com/example/firm_gate/firmgate/TokenDecision", "principal", "()Ljava/util/Optional;"⟩ : MethodName)) hown (mvT hZ (own_w hw 52 rfl)) (mvT hZ (own_w hw 53 rfl)) (notFace_of_selects (args := #[]) (mvT hZ (own_w hw 55 rfl))) (mvT hZ (own_w hw 55 rfl)) (mvT hZ (own_w hw 54 rfl)) (by decide) (backOf (W := 0) (rm9 l Z a0 hw [] d93 d91 T93.heap n0 O94 Fp93) hZ (own_w hw 56 rfl) (own_w hw 30 rfl) (by decide) (by decide)) q96a q96c (g := (mkF m 74 #[iv p0, iv p1, iv p2, iv (4 : Int32), iv c0, iv c1, iv c2, iv c3, rv d91, rv d93, .unset, .unset] [(.ref d93)])) rfl (by rw [hml]; rfl) (Steps.refl _) (argsL := []) (rest := []) (lenOf own_pd17 rfl) rfl (by show 2 * 0 + _ ≤ _; exact Nat.le_of_eq rfl) (hb hby at_74) (fun _ _ => ⟨rfl, e95, (by decide : 5 + 1 ≤ _), (by decide : 22 + 1 ≤ _)⟩)
    dsimp only [Pt.U, Pt.locs, Pt.cells, Pt.slots] at X96 l96 y96 z96 st96 hQ96
    subst l96 y96 z96
    obtain ⟨d96, rfl, Nq96, Kq96, zq96, Eq96, Fq96⟩ := hQ96
    have N96 := Fr.app N95 Nq96
    have f_97 := (Eq91.keep Kq93)
    have ne_d91_d96 : d91 ≠ d96 := Nat.ne_of_lt (Nat.lt_of_lt_of_le (f_97).lt zq96)
    have f_98 := (Vb91.keep Kq93 nin0)
    have ne_b91_d96 : b91 ≠ d96 := Nat.ne_of_lt (Nat.lt_of_lt_of_le (f_98).lt zq96)
    have ne_d93_d96 : d93 ≠ d96 := Nat.ne_of_lt (Nat.lt_of_lt_of_le (Eq93).lt zq96)
    have g_d96 : n0 ≤ d96 := Nat.le_trans (own_old O94) zq96
    have sz_d96 : h0.size ≤ d96 := Nat.le_trans K94.1 zq96
    have O99 := O94.keep Kq96 all0
    have K99 : Keep h0 T96.heap [] := K94.trans Kq96 all0
    refine own_on (B := T96.setTop (mkF m 77 #[iv p0, iv p1, iv p2, iv (4 : Int32), iv c0, iv c1, iv c2, iv c3, rv d91, rv d93, .unset, .unset] [(.ref d96)])) (fun tz kz => st96.trans kz) ?_
    refine own_on (B := T96.setTop (mkF m 81 #[iv p0, iv p1, iv p2, iv (4 : Int32), iv c0, iv c1, iv c2, iv c3, rv d91, rv d93, rv d96, .unset] [(.ref d96)])) (fun tz kz => ?_) ?_
    · show sT p e below T96 (mkF m 77 #[iv p0, iv p1, iv p2, iv (4 : Int32), iv c0, iv c1, iv c2, iv c3, rv d91, rv d93, .unset, .unset] [(.ref d96)]) tz
      refine XS.astore X96.here hx rfl (hb hby at_77) rfl rfl (l' := #[iv p0, iv p1, iv p2, iv (4 : Int32), iv c0, iv c1, iv c2, iv c3, rv d91, rv d93, rv d96, .unset]) rfl ?_
      show sT p e below T96 (mkF m 79 #[iv p0, iv p1, iv p2, iv (4 : Int32), iv c0, iv c1, iv c2, iv c3, rv d91, rv d93, rv d96, .unset] []) tz
      refine XS.aload X96.here hx rfl (hb hby at_79) rfl rfl ?_
      exact kz
    obtain ⟨cq100, kq100, q100a, q100b, q100c⟩ := isOf hZ rfl Eq96
    obtain ⟨_, _, ⟨T100, L100, k100, n100⟩, -, X100, ⟨Lc100, hQ100, l100, y100, z100⟩, st100⟩ := X96.virtualBack hx (y := (⟨"java/util/Optional", "isPresent", "()Z"⟩ : MethodName)) (z := (⟨"java/util/Optional", "isPresent", "()Z"⟩ : MethodName)) hown (mvT hZ (own_w hw 70 rfl)) (mvT hZ (own_w hw 71 rfl)) (notFace_of_selects (args := #[]) (mvT hZ (own_w hw 73 rfl))) (mvT hZ (own_w hw 73 rfl)) (mvT hZ (own_w hw 72 rfl)) (by decide) (backOf (W := 0) (rm12b l Z a0 hw [] d96 d91 T96.heap n0 O99 Fq96) hZ (own_w hw 74 rfl) (own_w hw 59 rfl) (by decide) (by decide)) q100a q100c (g := (mkF m 81 #[iv p0, iv p1, iv p2, iv (4 : Int32), iv c0, iv c1, iv c2, iv c3, rv d91, rv d93, rv d96, .unset] [(.ref d96)])) rfl (by rw [hml]; rfl) (Steps.refl _) (argsL := []) (rest := []) (lenOf own_pd16 rfl) rfl (by show 2 * 0 + _ ≤ _; exact Nat.le_of_eq rfl) (hb hby at_81) (fun _ _ => ⟨rfl, rfl, (by decide : 6 + 0 ≤ _), (by decide : 23 + 0 ≤ _)⟩)
    dsimp only [Pt.U, Pt.locs, Pt.cells, Pt.slots] at X100 l100 y100 z100 st100 hQ100
    subst l100 y100 z100
    obtain ⟨rfl, Nq100, e100⟩ := hQ100
    have N100 := Fr.app N96 Nq100
    refine own_on (B := T100.setTop (mkF m 84 #[iv p0, iv p1, iv p2, iv (4 : Int32), iv c0, iv c1, iv c2, iv c3, rv d91, rv d93, rv d96, .unset] [(.int (1 : Int32))])) (fun tz kz => st100.trans kz) ?_
    refine own_on (B := T100.setTop (mkF m 91 #[iv p0, iv p1, iv p2, iv (4 : Int32), iv c0, iv c1, iv c2, iv c3, rv d91, rv d93, rv d96, .unset] [(.ref d96)])) (fun tz kz => ?_) ?_
    · show sT p e below T100 (mkF m 84 #[iv p0, iv p1, iv p2, iv (4 : Int32), iv c0, iv c1, iv c2, iv c3, rv d91, rv d93, rv d96, .unset] [(.int (1 : Int32))]) tz
      refine XS.ifYes X100.here hx rfl (pc0 := 84) (pc' := 89) rfl (hb hby at_84) rfl ((if0 _ _).trans (feq (by decide : ¬ ((1 : Int32) = (0 : Int32)))).2) (by decide) (by decide) ?_
      show sT p e below T100 (mkF m 89 #[iv p0, iv p1, iv p2, iv (4 : Int32), iv c0, iv c1, iv c2, iv c3, rv d91, rv d93, rv d96, .unset] []) tz
      refine XS.aload X100.here hx rfl (hb hby at_89) rfl rfl ?_
      exact kz
    obtain ⟨cq101, kq101, q101a, q101b, q101c⟩ := isOf hZ e100 Eq96
    obtain ⟨_, _, ⟨T101, L101, k101, n101⟩, -, X101, ⟨Lc101, hQ101, l101, y101, z101⟩, st101⟩ := X100.virtualBack hx (y := (⟨"java/util/Optional", "get", "()Ljava/lang/Object;"⟩ : MethodName)) (z := (⟨"java/util/Optional", "get", "()Ljava/lang/Object;"⟩ : MethodName)) hown (mvT hZ (own_w hw 75 rfl)) (mvT hZ (own_w hw 76 rfl)) (notFace_of_selects (args := #[]) (mvT hZ (own_w hw 78 rfl))) (mvT hZ (own_w hw 78 rfl)) (mvT hZ (own_w hw 77 rfl)) (by decide) (backOf (W := 0) (rm13 l Z a0 hw [] d96 d91 T96.heap n0 O99 Fq96) hZ (own_w hw 79 rfl) (own_w hw 59 rfl) (by decide) (by decide)) q101a q101c (g := (mkF m 91 #[iv p0, iv p1, iv p2, iv (4 : Int32), iv c0, iv c1, iv c2, iv c3, rv d91, rv d93, rv d96, .unset] [(.ref d96)])) rfl (by rw [hml]; rfl) (Steps.refl _) (argsL := []) (rest := []) (lenOf own_pd18 rfl) rfl (by show 2 * 0 + _ ≤ _; exact Nat.le_of_eq rfl) (hb hby at_91) (fun _ _ => ⟨rfl, e100, (by decide : 6 + 0 ≤ _), (by decide : 23 + 0 ≤ _)⟩)
    dsimp only [Pt.U, Pt.locs, Pt.cells, Pt.slots] at X101 l101 y101 z101 st101 hQ101
    subst l101 y101 z101
    obtain ⟨rfl, Nq101, e101⟩ := hQ101
    have N101 := Fr.app N100 Nq101
    refine own_on (B := T101.setTop (mkF m 94 #[iv p0, iv p1, iv p2, iv (4 : Int32), iv c0, iv c1, iv c2, iv c3, rv d91, rv d93, rv d96, .unset] [(.ref d91)])) (fun tz kz => st101.trans kz) ?_
    have f_102 := (f_97.keep Kq96)
    obtain ⟨T103, X103, e103, st103⟩ := castY X101 hx hZ hown (own_w hw 6 rfl) e101 (Ins.self f_102) (g := (mkF m 94 #[iv p0, iv p1, iv p2, iv (4 : Int32), iv c0, iv c1, iv c2, iv c3, rv d91, rv d93, rv d96, .unset] [(.ref d91)])) rfl rfl (hb hby at_94)
    refine own_on (B := T103.setTop (mkF m 97 #[iv p0, iv p1, iv p2, iv (4 : Int32), iv c0, iv c1, iv c2, iv c3, rv d91, rv d93, rv d96, .unset] [(.ref d91)])) (fun tz kz => st103 _ kz) ?_
    have f_104 := ((Fv91.keep Kq93 nin0).keep Kq96 nin0)
    have f_105 := ((Fc91.keep Kq93 nin0).keep Kq96 nin0)
    have f_106 := (f_98.keep Kq96 nin0)
    refine own_on (B := T103.setTop (mkF m 101 #[iv p0, iv p1, iv p2, iv (4 : Int32), iv c0, iv c1, iv c2, iv c3, rv d91, rv d93, rv d96, rv d91] [(.ref d91)])) (fun tz kz => ?_) ?_
    · show sT p e below T103 (mkF m 97 #[iv p0, iv p1, iv p2, iv (4 : Int32), iv c0, iv c1, iv c2, iv c3, rv d91, rv d93, rv d96, .unset] [(.ref d91)]) tz
      refine XS.astore X103.here hx rfl (hb hby at_97) rfl rfl (l' := #[iv p0, iv p1, iv p2, iv (4 : Int32), iv c0, iv c1, iv c2, iv c3, rv d91, rv d93, rv d96, rv d91]) rfl ?_
      show sT p e below T103 (mkF m 99 #[iv p0, iv p1, iv p2, iv (4 : Int32), iv c0, iv c1, iv c2, iv c3, rv d91, rv d93, rv d96, rv d91] []) tz
      refine XS.aload X103.here hx rfl (hb hby at_99) rfl rfl ?_
      exact kz
    obtain ⟨cq107, kq107, q107a, q107b, q107c⟩ := isOf hZ e103 f_102
    obtain ⟨_, _, ⟨T107, L107, k107, n107⟩, -, X107, ⟨Lc107, hQ107, l107, y107, z107⟩, st107⟩ := X103.virtualBack hx (y := (⟨"java/lang/String", "length", "()I"⟩ : MethodName)) (z := (⟨"java/lang/String", "length", "()I"⟩ : MethodName)) hown (mvT hZ (own_w hw 80 rfl)) (mvT hZ (own_w hw 81 rfl)) (notFace_of_selects (args := #[]) (mvT hZ (own_w hw 83 rfl))) (mvT hZ (own_w hw 83 rfl)) (mvT hZ (own_w hw 82 rfl)) (by decide) (backOf (W := 0) (rm14 l Z a0 hw [] d91 cS b91 ln91 cd91 (4 : Int32) T96.heap n0 O99 S_cs hcS f_102 f_104 f_105 f_106 (own_cfb LC91) (own_ln4 LC91)) hZ (own_w hw 84 rfl) (own_w hw 8 rfl) (by decide) (by decide)) q107a q107c (g := (mkF m 101 #[iv p0, iv p1, iv p2, iv (4 : Int32), iv c0, iv c1, iv c2, iv c3, rv d91, rv d93, rv d96, rv d91] [(.ref d91)])) rfl (by rw [hml]; rfl) (Steps.refl _) (argsL := []) (rest := []) (lenOf own_pd19 rfl) rfl (by show 2 * 0 + _ ≤ _; exact Nat.le_of_eq rfl) (hb hby at_101) (fun _ _ => ⟨rfl, e103, (by decide : 6 + 0 ≤ _), (by decide : 23 + 0 ≤ _)⟩)
    dsimp only [Pt.U, Pt.locs, Pt.cells, Pt.slots] at X107 l107 y107 z107 st107 hQ107
    subst l107 y107 z107
    obtain ⟨rfl, Nq107, e107⟩ := hQ107
    have N107 := Fr.app N101 Nq107
    refine own_on (B := T107.setTop (mkF m 104 #[iv p0, iv p1, iv p2, iv (4 : Int32), iv c0, iv c1, iv c2, iv c3, rv d91, rv d93, rv d96, rv d91] [(.int (4 : Int32))])) (fun tz kz => st107.trans kz) ?_
    refine own_on (B := T107.setTop (mkF m 114 #[iv p0, iv p1, iv p2, iv (4 : Int32), iv c0, iv c1, iv c2, iv c3, rv d91, rv d93, rv d96, rv d91] [(.ref d91), (.ref d91)])) (fun tz kz => ?_) ?_
    · show sT p e below T107 (mkF m 104 #[iv p0, iv p1, iv p2, iv (4 : Int32), iv c0, iv c1, iv c2, iv c3, rv d91, rv d93, rv d96, rv d91] [(.int (4 : Int32))]) tz
      refine XS.iloadN X107.here hx rfl (hb hby at_104) rfl ?_
      show sT p e below T107 (mkF m 105 #[iv p0, iv p1, iv p2, iv (4 : Int32), iv c0, iv c1, iv c2, iv c3, rv d91, rv d93, rv d96, rv d91] [(.int (4 : Int32)), (.int (4 : Int32))]) tz
      refine XS.icmpYes X107.here hx rfl (pc0 := 105) (pc' := 110) rfl (hb hby at_105) rfl (teq rfl).1 (by decide) (by decide) ?_
      show sT p e below T107 (mkF m 110 #[iv p0, iv p1, iv p2, iv (4 : Int32), iv c0, iv c1, iv c2, iv c3, rv d91, rv d93, rv d96, rv d91] []) tz
      refine XS.aload X107.here hx rfl (hb hby at_110) rfl rfl ?_
      show sT p e below T107 (mkF m 112 #[iv p0, iv p1, iv p2, iv (4 : Int32), iv c0, iv c1, iv c2, iv c3, rv d91, rv d93, rv d96, rv d91] [(.ref d91)]) tz
      refine XS.aload X107.here hx rfl (hb hby at_112) rfl rfl ?_
      exact kz
    obtain ⟨cq108, kq108, q108a, q108b, q108c⟩ := isOf hZ e107 f_102
    obtain ⟨_, _, ⟨T108, L108, k108, n108⟩, -, X108, ⟨Lc108, hQ108, l108, y108, z108⟩, st108⟩ := X107.virtualBack hx (y := (⟨"java/lang/String", "equals", "(Ljava/lang/Object;)Z"⟩ : MethodName)) (z := (⟨"java/lang/String", "equals", "(Ljava/lang/Object;)Z"⟩ : MethodName)) hown (mvT hZ (own_w hw 91 rfl)) (mvT hZ (own_w hw 92 rfl)) (notFace_of_selects (args := #[]) (mvT hZ (own_w hw 94 rfl))) (mvT hZ (own_w hw 94 rfl)) (mvT hZ (own_w hw 93 rfl)) (by decide) (backOf (W := 0) (rm16 l Z a0 hw [] d91  T96.heap n0 O99 ) hZ (own_w hw 95 rfl) (own_w hw 8 rfl) (by decide) (by decide)) q108a q108c (g := (mkF m 114 #[iv p0, iv p1, iv p2, iv (4 : Int32), iv c0, iv c1, iv c2, iv c3, rv d91, rv d93, rv d96, rv d91] [(.ref d91), (.ref d91)])) rfl (by rw [hml]; rfl) (Steps.refl _) (argsL := [(.ref d91)]) (rest := []) (lenOf own_pd20 rfl) rfl (by show 2 * 0 + _ ≤ _; exact Nat.le_of_eq rfl) (hb hby at_114) (fun _ _ => ⟨rfl, e107, (by decide : 6 + 0 ≤ _), (by decide : 23 + 0 ≤ _)⟩)
    dsimp only [Pt.U, Pt.locs, Pt.cells, Pt.slots] at X108 l108 y108 z108 st108 hQ108
    subst l108 y108 z108
    obtain ⟨rfl, Nq108, e108⟩ := hQ108
    have N108 := Fr.app N107 Nq108
    refine own_on (B := T108.setTop (mkF m 117 #[iv p0, iv p1, iv p2, iv (4 : Int32), iv c0, iv c1, iv c2, iv c3, rv d91, rv d93, rv d96, rv d91] [(.int (1 : Int32))])) (fun tz kz => st108.trans kz) ?_
    have f_109 := (Fq93.keep Kq96 nin0)
    refine own_on (B := T108.setTop (mkF m 124 #[iv p0, iv p1, iv p2, iv (4 : Int32), iv c0, iv c1, iv c2, iv c3, rv d91, rv d93, rv d96, rv d91] [(.ref d93)])) (fun tz kz => ?_) ?_
    · show sT p e below T108 (mkF m 117 #[iv p0, iv p1, iv p2, iv (4 : Int32), iv c0, iv c1, iv c2, iv c3, rv d91, rv d93, rv d96, rv d91] [(.int (1 : Int32))]) tz
      refine XS.ifYes X108.here hx rfl (pc0 := 117) (pc' := 122) rfl (hb hby at_117) rfl ((if0 _ _).trans (feq (by decide : ¬ ((1 : Int32) = (0 : Int32)))).2) (by decide) (by decide) ?_
      show sT p e below T108 (mkF m 122 #[iv p0, iv p1, iv p2, iv (4 : Int32), iv c0, iv c1, iv c2, iv c3, rv d91, rv d93, rv d96, rv d91] []) tz
      refine XS.aload X108.here hx rfl (hb hby at_122) rfl rfl ?_
      exact kz
    have f_111 := (Eq93.keep Kq96)
    obtain ⟨cq110, kq110, q110a, q110b, q110c⟩ := isOf hZ e108 f_111
    obtain ⟨_, _, ⟨T110, L110, k110, n110⟩, -, X110, ⟨Lc110, hQ110, l110, y110, z110⟩, st110⟩ := X108.virtualBack hx (y := (⟨"com/example/firm_gate/firmgate/TokenDecision", "reason", "()Ljava/util/Optional;"⟩ : MethodName)) (z := (⟨"com/example/firm_gate/firmgate/TokenDecision", "reason", "()Ljava/util/Optional;"⟩ : MethodName)) hown (mvT hZ (own_w hw 96 rfl)) (mvT hZ (own_w hw 97 rfl)) (notFace_of_selects (args := #[]) (mvT hZ (own_w hw 99 rfl))) (mvT hZ (own_w hw 99 rfl)) (mvT hZ (own_w hw 98 rfl)) (by decide) (backOf (W := 0) (rm17 l Z a0 hw [] d93 wE T96.heap n0 O99 f_109 S_E) hZ (own_w hw 100 rfl) (own_w hw 30 rfl) (by decide) (by decide)) q110a q110c (g := (mkF m 124 #[iv p0, iv p1, iv p2, iv (4 : Int32), iv c0, iv c1, iv c2, iv c3, rv d91, rv d93, rv d96, rv d91] [(.ref d93)])) rfl (by rw [hml]; rfl) (Steps.refl _) (argsL := []) (rest := []) (lenOf own_pd17 rfl) rfl (by show 2 * 0 + _ ≤ _; exact Nat.le_of_eq rfl) (hb hby at_124) (fun _ _ => ⟨rfl, e108, (by decide : 6 + 0 ≤ _), (by decide : 23 + 0 ≤ _)⟩)
    dsimp only [Pt.U, Pt.locs, Pt.cells, Pt.slots] at X110 l110 y110 z110 st110 hQ110
    subst l110 y110 z110
    obtain ⟨rfl, Nq110, e110⟩ := hQ110
    have N110 := Fr.app N108 Nq110
    refine own_on (B := T110.setTop (mkF m 127 #[iv p0, iv p1, iv p2, iv (4 : Int32), iv c0, iv c1, iv c2, iv c3, rv d91, rv d93, rv d96, rv d91] [(.ref wE)])) (fun tz kz => st110.trans kz) ?_
    obtain ⟨cq112, kq112, q112a, q112b, q112c⟩ := isOf hZ e110 (E_E.ext O99.2)
    obtain ⟨_, _, ⟨T112, L112, k112, n112⟩, -, X112, ⟨Lc112, hQ112, l112, y112, z112⟩, st112⟩ := X110.virtualBack hx (y := (⟨"java/util/Optional", "isPresent", "()Z"⟩ : MethodName)) (z := (⟨"java/util/Optional", "isPresent", "()Z"⟩ : MethodName)) hown (mvT hZ (own_w hw 70 rfl)) (mvT hZ (own_w hw 71 rfl)) (notFace_of_selects (args := #[]) (mvT hZ (own_w hw 73 rfl))) (mvT hZ (own_w hw 73 rfl)) (mvT hZ (own_w hw 72 rfl)) (by decide) (backOf (W := 0) (rm12a l Z a0 hw [] wE  T96.heap n0 O99 (F_E.ext O99.2)) hZ (own_w hw 74 rfl) (own_w hw 59 rfl) (by decide) (by decide)) q112a q112c (g := (mkF m 127 #[iv p0, iv p1, iv p2, iv (4 : Int32), iv c0, iv c1, iv c2, iv c3, rv d91, rv d93, rv d96, rv d91] [(.ref wE)])) rfl (by rw [hml]; rfl) (Steps.refl _) (argsL := []) (rest := []) (lenOf own_pd16 rfl) rfl (by show 2 * 0 + _ ≤ _; exact Nat.le_of_eq rfl) (hb hby at_127) (fun _ _ => ⟨rfl, e110, (by decide : 6 + 0 ≤ _), (by decide : 23 + 0 ≤ _)⟩)
    dsimp only [Pt.U, Pt.locs, Pt.cells, Pt.slots] at X112 l112 y112 z112 st112 hQ112
    subst l112 y112 z112
    obtain ⟨rfl, Nq112, e112⟩ := hQ112
    have N112 := Fr.app N110 Nq112
    refine own_on (B := T112.setTop (mkF m 130 #[iv p0, iv p1, iv p2, iv (4 : Int32), iv c0, iv c1, iv c2, iv c3, rv d91, rv d93, rv d96, rv d91] [(.int (0 : Int32))])) (fun tz kz => st112.trans kz) ?_
    refine own_on (B := T112.setTop (mkF m 136 #[iv p0, iv p1, iv p2, iv (4 : Int32), iv c0, iv c1, iv c2, iv c3, rv d91, rv d93, rv d96, rv d91] [(.int (1 : Int32))])) (fun tz kz => ?_) ?_
    · show sT p e below T112 (mkF m 130 #[iv p0, iv p1, iv p2, iv (4 : Int32), iv c0, iv c1, iv c2, iv c3, rv d91, rv d93, rv d96, rv d91] [(.int (0 : Int32))]) tz
      refine XS.ifYes X112.here hx rfl (pc0 := 130) (pc' := 135) rfl (hb hby at_130) rfl ((if0 _ _).trans (teq rfl).1) (by decide) (by decide) ?_
      show sT p e below T112 (mkF m 135 #[iv p0, iv p1, iv p2, iv (4 : Int32), iv c0, iv c1, iv c2, iv c3, rv d91, rv d93, rv d96, rv d91] []) tz
      refine XS.iconst X112.here hx rfl (hb hby at_135) ?_
      exact kz
    obtain ⟨fs, hr, hrun, hended, hW, hsame⟩ := X112.leave (v := some (.int (1 : Int32))) (fun h => by rw [Bd.returns] at h; cases h)
    refine own_of ⟨_, _, ?_, hrun, hended, _, _, rfl, ?_, ReturnedEndW.of_narrow ⟨_, rfl⟩ hW (hsame.mono (by decide) (by decide))⟩
    · show sT p e below T112 (mkF m 136 #[iv p0, iv p1, iv p2, iv (4 : Int32), iv c0, iv c1, iv c2, iv c3, rv d91, rv d93, rv d96, rv d91] [(.int (1 : Int32))]) _
      exact own_retN X112 hx (t := .boolean) Bd.returns (by simp) (by first | rfl | (split <;> first | rfl | (split <;> first | rfl | (split <;> rfl)))) (hb hby at_136) hr
    · show Q0 Z p0 p1 p2 cS wE h0 n0 _ T112.heap _
      rw [e112]
      exact ⟨rfl, N112⟩
set_option maxRecDepth 65536 in
set_option maxHeartbeats 40000000 in
theorem comes_1 {Post : Tables → Env → Array Value → State → Outcome → State → Prop} (hpost : ∀ tb e args s v u, (limb_1_1.after args s (.returned v) u = true ∧ limb_1_2.after args s (.returned v) u = true ∧ True) → ReturnedEndW s (.returned v) u (Jvm.fieldLocs frame_1_writes args s ++ Jvm.arrayLocs frame_1_arrays args s ++ Jvm.staticLocs frame_1_statics s) 24 1152 → Post tb e args s (.returned v) u) :
    ArmFor flags0 classFile x code maxLocals ret World_1 tables_1 room_1 Calls_1 rest_1 Pre_1 Post := by
  intro l hfl _ _ p e ha hc hk s m args below hf hA hF happ hP
  obtain ⟨hcalls, hrest, hpre⟩ := hP
  obtain ⟨-, -, -, hnamed, -, -, -, hat⟩ := (Spec.applies_iff hf).mp happ
  obtain ⟨hg, hn⟩ := and_e (Cond.before_iff.mp (show (Jvm.Cond.and given_1 narrow_1).before args s = true from hpre))
  obtain ⟨hcnt, hg0⟩ := and_e hg
  obtain ⟨ha0, hg1⟩ := and_e hg0
  obtain ⟨ha1, hg2⟩ := and_e hg1
  have ha2 := hg2
  obtain ⟨w0, w1, w2, rfl⟩ : ∃ w0 w1 w2 : Value, args = #[w0, w1, w2] := by
    have hs : args.size = 3 := by simpa [Cond.value, given_1] using hcnt
    obtain ⟨L⟩ := args
    match L, hs with
    | [w0, w1, w2], _ => exact ⟨w0, w1, w2, rfl⟩
  have hw := fun d (hd : d ∈ tables_1) => atoms_spec (ws := Jvm.Cond.code x code maxLocals ret :: tables_1) hat d (List.mem_cons_of_mem _ hd)
  have hfit : Fit s := fun {y c} hc i hi => by
    obtain ⟨ha, rfl⟩ := Array.getElem?_eq_some_iff.mp hc
    have q := List.all_eq_true.mp ((Array.all_eq_true_iff_forall_mem.mp hF) _ (Array.getElem_mem ha)) i (List.mem_range.mpr hi)
    simpa [Array.getElem?_eq_getElem hi] using q
  obtain ⟨hsets, hown0⟩ := atoms_of _ (rest_1_c_eq ▸ (show rest_1_c.before _ s = true from hrest))
  have hr0 := Cond.before_iff.mp hown0
  obtain ⟨i0, ei0⟩ := is_v ha0
  obtain rfl : w0 = (.int i0) := Option.some.inj ei0
  obtain ⟨i1, ei1⟩ := is_v ha1
  obtain rfl : w1 = (.int i1) := Option.some.inj ei1
  obtain ⟨i2, ei2⟩ := is_v ha2
  obtain rfl : w2 = (.int i2) := Option.some.inj ei2
  have hj_EMPTY := Cond.before_iff.mp (hsets _ (List.mem_of_getElem? (i := 11) rfl))
  obtain ⟨j_EMPTY, jev_EMPTY⟩ := exa_v hj_EMPTY
  have JS_EMPTY := Sta.start jev_EMPTY (Or.inl (hsets _ (List.mem_of_getElem? (i := 10) rfl)))
  have JE_EMPTY := Exa.start jev_EMPTY hj_EMPTY
  have JF_EMPTY_value := own_fldN jev_EMPTY (Cond.before_iff.mp (hsets _ (List.mem_of_getElem? (i := 12) rfl)))
  obtain ⟨j_COMPACT_STRINGS, jev_COMPACT_STRINGS⟩ := is_v (Cond.before_iff.mp (hsets _ (List.mem_of_getElem? (i := 1) rfl)))
  have JS_COMPACT_STRINGS := Sta.start jev_COMPACT_STRINGS (Or.inl (hsets _ (List.mem_of_getElem? (i := 0) rfl)))
  have JN_COMPACT_STRINGS := own_evN jev_COMPACT_STRINGS (Cond.before_iff.mp (hsets _ (List.mem_of_getElem? (i := 2) rfl)))
  have JC_COMPACT_STRINGS := (hsets _ (List.mem_of_getElem? (i := 2) rfl))
  have JS_assertionsDisabled := Sta.start (own_evI (Cond.before_iff.mp (hsets _ (List.mem_of_getElem? (i := 16) rfl)))) (Or.inl (hsets _ (List.mem_of_getElem? (i := 15) rfl)))
  have JS_HI_BYTE_SHIFT := Sta.start (own_evI (Cond.before_iff.mp (hsets _ (List.mem_of_getElem? (i := 19) rfl)))) (Or.inl (hsets _ (List.mem_of_getElem? (i := 18) rfl)))
  have JS_LO_BYTE_SHIFT := Sta.start (own_evI (Cond.before_iff.mp (hsets _ (List.mem_of_getElem? (i := 22) rfl)))) (Or.inl (hsets _ (List.mem_of_getElem? (i := 21) rfl)))
  obtain ⟨n, o, h1, h2, h3, _, L, rfl, ⟨rfl, N⟩, hq⟩ := rm0 l s _ hw tables_1 i0 i1 i2 j_COMPACT_STRINGS j_EMPTY s.heap s.heap.size (Old.start s) JS_COMPACT_STRINGS JN_COMPACT_STRINGS JS_assertionsDisabled JS_HI_BYTE_SHIFT JS_LO_BYTE_SHIFT (hcalls.1 _ (List.mem_of_getElem? (i := 0) rfl)) JC_COMPACT_STRINGS JS_EMPTY JE_EMPTY JF_EMPTY_value p e ha hc hk s m _ below hf ((Spec.applies_iff_loose hf).mp happ).1 ⟨rfl, State.Warmed39.refl s, rfl, rfl⟩ trivial
  refine ⟨n, _, h1, h2, h3, hpost _ _ _ _ _ _ ⟨Cond.after_iff.mpr rfl, Cond.after_iff.mpr (eq_i res_at (Term.int_eval (1)) rfl), trivial⟩ ⟨hq.1, hq.2.1, hq.2.2.1, (hq.2.2.2.sift fun y hy => Or.inr (N y hy)).mono (by decide) (by decide)⟩⟩
theorem main_1_1 : Claimed_1_1 := comes_1 fun _ _ _ _ _ _ h hF => ⟨h.1, hF⟩
theorem main_1_2 : Claimed_1_2 := comes_1 fun _ _ _ _ _ _ h hF => ⟨h.2.1, hF⟩
end Jvm.Pilot.@@N@@
namespace Jvm.Pilot.@@N@@
open Jvm Jvm.ClassFile Sem Op Lib Jvm.Free Jvm.Stand Jvm.Pilot.@@N@@.Jvm.D
/-! MADE BY PROGRAM (witnessworld.py) out of the Statement's table words and the real class files: 22 classes; the members and pool entries that the words name. The judged class is class 1, her method 2. -/
namespace start1
open Jvm.ClassFile
def u (s : String) : CpInfo := .utf8 (stringToUtf16 s)
/-- a pool by its gaps: so many unusable entries, then the entry; so many at the end -/
def gap : Nat → List CpInfo → List CpInfo
  | 0, r => r
  | n + 1, r => .unusable :: gap n r
def poolList (es : List (Nat × CpInfo)) (last : Nat) : List CpInfo := es.foldr (fun e r => gap e.1 (e.2 :: r)) (gap last [])
def pool (es : List (Nat × CpInfo)) (last : Nat) : Array CpInfo := ⟨poolList es last⟩
def fileOf (pool : Array CpInfo) (this : Nat) (attrs : Array Attribute := #[]) (ms : Array MethodInfo := #[]) (fl : Nat := 33) (sup : Nat := 0) (ifs : Array Nat := #[]) (fds : Array FieldInfo := #[]) : ClassFile where
  minorVersion := 0
  majorVersion := 65
  constantPool := pool
  accessFlags := fl
  thisClass := this
  superClass := sup
  interfaces := ifs
  fields := fds
  methods := ms
  attributes := attrs
def plain (name : String) (sup : Option ClassId) : Class where
  name := name
  kind := .ordinary
  loader := none
  accessFlags := 33
  super := sup
  interfaces := #[]
  cf := none
  fields := #[]
  methods := #[]
  instanceTypes := #[]
  staticTypes := #[]
  resolved := #[]
  callSites := []
  init := .initialized
  statics := none
  mirror := none

def pool0 : Array CpInfo := pool [(5, u "<init>"), (0, u "()V"), (1, .class_ 10), (1, u "java/lang/Object")] 113

def k0c0 : Code := { maxStack := 0, maxLocals := 1, code := object_method_1_code, exceptionTable := #[], attributes := #[] }
def k0m0 : Method := { name := "<init>", desc := "()V", sig := { parameters := [], returnType := none }, accessFlags := 1, code := some k0c0 }
/-- java/lang/Object -/
def k0 : Class := { plain "java/lang/Object" none with
  accessFlags := 33
  interfaces := #[]
  cf := some (fileOf pool0 8 #[] #[{ accessFlags := 1, nameIndex := 5, descriptorIndex := 6, attributes := #[] }] 33 0 #[] #[])
  fields := #[]
  methods := #[k0m0]
  instanceTypes := #[]
  staticTypes := #[]
  resolved := Array.replicate 124 none
  statics := none }

def pool1 : Array CpInfo := pool [(2, .class_ 4), (1, u "java/lang/Object"), (0, u "<init>"), (0, u "()V"), (0, .class_ 8), (0, u "java/lang/String"), (0, .methodref 7 10), (0, .nameAndType 5 11), (0, u "([C)V"), (0, .integer 2147483647), (0, .integer 65535), (0, .methodref 15 16), (0, .class_ 17), (0, .nameAndType 18 19), (0, u "com/example/firm_gate/firmgate/TokenDecisionAcceptPinLaw"), (0, u "make"), (0, u "(ICCCC)Ljava/lang/String;"), (0, .methodref 21 22), (0, .class_ 23), (0, .nameAndType 24 25), (0, u "com/example/firm_gate/firmgate/TokenDecision"), (0, u "accept"), (0, u "(Ljava/lang/String;)Lcom/example/firm_gate/firmgate/TokenDecision;"), (0, .methodref 21 27), (0, .nameAndType 28 29), (0, u "accepted"), (0, u "()Z"), (0, .methodref 21 31), (0, .nameAndType 32 33), (0, u "principal"), (0, u "()Ljava/util/Optional;"), (0, .methodref 35 36), (0, .class_ 37), (0, .nameAndType 38 29), (0, u "java/util/Optional"), (0, u "isPresent"), (0, .methodref 35 40), (0, .nameAndType 41 42), (0, u "get"), (0, u "()Ljava/lang/Object;"), (0, .methodref 7 44), (0, .nameAndType 45 46), (0, u "length"), (0, u "()I"), (0, .methodref 7 48), (0, .nameAndType 49 50), (0, u "equals"), (0, u "(Ljava/lang/Object;)Z"), (0, .methodref 21 52), (0, .nameAndType 53 33), (0, u "reason"), (3, u "law"), (0, u "(III)Z")] 2

def k1m0 : Method := { name := "<init>", desc := "()V", sig := { parameters := [], returnType := none }, accessFlags := 1, code := none }
def k1c1 : Code := { maxStack := 3, maxLocals := 6, code := method_2_code, exceptionTable := #[], attributes := #[] }
def k1m1 : Method := { name := "make", desc := "(ICCCC)Ljava/lang/String;", sig := { parameters := [.int, .char, .char, .char, .char], returnType := some (.object "java/lang/String") }, accessFlags := 10, code := some k1c1 }
def k1c2 : Code := { maxStack := 5, maxLocals := 12, code := code, exceptionTable := #[], attributes := #[] }
def k1m2 : Method := { name := "law", desc := "(III)Z", sig := { parameters := [.int, .int, .int], returnType := some .boolean }, accessFlags := 9, code := some k1c2 }
/-- com/example/firm_gate/firmgate/TokenDecisionAcceptPinLaw -/
def k1 : Class := { plain "com/example/firm_gate/firmgate/TokenDecisionAcceptPinLaw" (some 0) with
  accessFlags := 49
  interfaces := #[]
  cf := some (fileOf pool1 15 #[] #[{ accessFlags := 1, nameIndex := 5, descriptorIndex := 6, attributes := #[] }, { accessFlags := 10, nameIndex := 18, descriptorIndex := 19, attributes := #[] }, { accessFlags := 9, nameIndex := 57, descriptorIndex := 58, attributes := #[] }] 49 2 #[] #[])
  fields := #[]
  methods := #[k1m0, k1m1, k1m2]
  instanceTypes := #[]
  staticTypes := #[]
  resolved := Array.replicate 61 none
  statics := none }

def pool2 : Array CpInfo := pool [(1, .class_ 2), (0, u "java/io/Serializable"), (0, .class_ 4), (0, u "java/lang/Object")] 2

/-- java/io/Serializable -/
def k2 : Class := { plain "java/io/Serializable" (some 0) with
  accessFlags := 1537
  interfaces := #[]
  cf := some (fileOf pool2 1 #[] #[] 1537 3 #[] #[])
  fields := #[]
  methods := #[]
  instanceTypes := #[]
  staticTypes := #[]
  resolved := Array.replicate 7 none
  statics := none }

def pool3 : Array CpInfo := pool [(1, .class_ 2), (0, u "java/lang/Comparable"), (0, .class_ 4), (0, u "java/lang/Object")] 7

/-- java/lang/Comparable -/
def k3 : Class := { plain "java/lang/Comparable" (some 0) with
  accessFlags := 1537
  interfaces := #[]
  cf := some (fileOf pool3 1 #[] #[] 1537 3 #[] #[])
  fields := #[]
  methods := #[]
  instanceTypes := #[]
  staticTypes := #[]
  resolved := Array.replicate 12 none
  statics := none }

def pool4 : Array CpInfo := pool [(2, .class_ 4), (1, u "java/lang/CharSequence"), (42, .class_ 48), (0, u "java/lang/CharSequence$1CodePointIterator"), (10, .class_ 60), (0, u "java/lang/CharSequence$1CharIterator"), (5, .class_ 67), (0, u "java/lang/Object")] 63

/-- java/lang/CharSequence -/
def k4 : Class := { plain "java/lang/CharSequence" (some 0) with
  accessFlags := 1537
  interfaces := #[]
  cf := some (fileOf pool4 2 #[.nestMembers #[47, 59]] #[] 1537 66 #[] #[])
  fields := #[]
  methods := #[]
  instanceTypes := #[]
  staticTypes := #[]
  resolved := Array.replicate 131 none
  statics := none }

def pool5 : Array CpInfo := pool [(1, .class_ 2), (0, u "java/lang/constant/Constable"), (0, .class_ 4), (0, u "java/lang/Object")] 6

/-- java/lang/constant/Constable -/
def k5 : Class := { plain "java/lang/constant/Constable" (some 0) with
  accessFlags := 1537
  interfaces := #[]
  cf := some (fileOf pool5 1 #[] #[] 1537 3 #[] #[])
  fields := #[]
  methods := #[]
  instanceTypes := #[]
  staticTypes := #[]
  resolved := Array.replicate 11 none
  statics := none }

def pool6 : Array CpInfo := pool [(1, .class_ 2), (0, u "java/lang/constant/ConstantDesc"), (0, .class_ 4), (0, u "java/lang/Object")] 32

/-- java/lang/constant/ConstantDesc -/
def k6 : Class := { plain "java/lang/constant/ConstantDesc" (some 0) with
  accessFlags := 1537
  interfaces := #[]
  cf := some (fileOf pool6 1 #[] #[] 1537 3 #[] #[])
  fields := #[]
  methods := #[]
  instanceTypes := #[]
  staticTypes := #[]
  resolved := Array.replicate 37 none
  statics := none }

def pool7 : Array CpInfo := pool [(1, .methodref 2 3), (0, .class_ 4), (0, .nameAndType 5 6), (0, u "java/lang/Object"), (0, u "<init>"), (0, u "()V"), (0, .string 8), (0, u ""), (0, .fieldref 10 11), (0, .class_ 12), (0, .nameAndType 13 14), (0, u "java/lang/String"), (0, u "value"), (0, u "[B"), (0, .fieldref 10 16), (0, .nameAndType 17 18), (0, u "coder"), (0, u "B"), (2, u "hash"), (0, u "I"), (2, u "hashIsZero"), (0, u "Z"), (0, .methodref 10 28), (0, .nameAndType 5 29), (0, u "([CIILjava/lang/Void;)V"), (8, .fieldref 10 39), (0, .nameAndType 40 26), (0, u "COMPACT_STRINGS"), (1, .class_ 44), (1, u "java/lang/StringUTF16"), (0, u "compress"), (1, .methodref 42 48), (0, .nameAndType 49 50), (0, u "coderFromArrayLen"), (0, u "([BI)B"), (126, .methodref 42 178), (0, .nameAndType 45 179), (0, u "([CII)[B"), (154, u "()I"), (0, .methodref 10 336), (0, .nameAndType 17 337), (0, u "()B"), (169, u "length"), (35, u "equals"), (29, u "(Ljava/lang/Object;)Z"), (1, .class_ 576), (0, u "java/lang/CharSequence"), (22, u "CASE_INSENSITIVE_ORDER"), (0, u "Ljava/util/Comparator;"), (409, u "([C)V"), (90, u "serialPersistentFields"), (0, u "[Ljava/io/ObjectStreamField;"), (0, .class_ 1104), (0, u "java/lang/String$CaseInsensitiveComparator"), (1, .class_ 1107), (0, u "java/io/Serializable"), (0, .class_ 1109), (0, u "java/lang/Comparable"), (0, .class_ 1111), (0, u "java/lang/constant/Constable"), (0, .class_ 1113), (0, u "java/lang/constant/ConstantDesc"), (2, u "serialVersionUID"), (0, u "J"), (3, u "REPL"), (0, u "C"), (2, u "LATIN1"), (1, u "UTF16")] 323

def k7m0 : Method := { name := "<init>", desc := "()V", sig := { parameters := [], returnType := none }, accessFlags := 1, code := none }
def k7c1 : Code := { maxStack := 5, maxLocals := 2, code := jdk_42_method_3_code, exceptionTable := #[], attributes := #[] }
def k7m1 : Method := { name := "<init>", desc := "([C)V", sig := { parameters := [(.array .char)], returnType := none }, accessFlags := 1, code := some k7c1 }
def k7c2 : Code := { maxStack := 2, maxLocals := 1, code := jdk_42_method_54_code, exceptionTable := #[], attributes := #[] }
def k7m2 : Method := { name := "length", desc := "()I", sig := { parameters := [], returnType := some .int }, accessFlags := 1, code := some k7c2 }
def k7c3 : Code := { maxStack := 2, maxLocals := 3, code := jdk_42_method_66_code, exceptionTable := #[], attributes := #[] }
def k7m3 : Method := { name := "equals", desc := "(Ljava/lang/Object;)Z", sig := { parameters := [(.object "java/lang/Object")], returnType := some .boolean }, accessFlags := 1, code := some k7c3 }
def k7c4 : Code := { maxStack := 4, maxLocals := 6, code := jdk_42_method_149_code, exceptionTable := #[], attributes := #[] }
def k7m4 : Method := { name := "<init>", desc := "([CIILjava/lang/Void;)V", sig := { parameters := [(.array .char), .int, .int, (.object "java/lang/Void")], returnType := none }, accessFlags := 2, code := some k7c4 }
def k7c5 : Code := { maxStack := 1, maxLocals := 1, code := jdk_42_method_152_code, exceptionTable := #[], attributes := #[] }
def k7m5 : Method := { name := "coder", desc := "()B", sig := { parameters := [], returnType := some .byte }, accessFlags := 0, code := some k7c5 }
/-- java/lang/String -/
def k7 : Class := { plain "java/lang/String" (some 0) with
  accessFlags := 49
  interfaces := #[2, 3, 4, 5, 6]
  cf := some (fileOf pool7 10 #[.nestMembers #[1103]] #[{ accessFlags := 1, nameIndex := 5, descriptorIndex := 6, attributes := #[] }, { accessFlags := 1, nameIndex := 5, descriptorIndex := 1010, attributes := #[] }, { accessFlags := 1, nameIndex := 507, descriptorIndex := 334, attributes := #[] }, { accessFlags := 1, nameIndex := 543, descriptorIndex := 573, attributes := #[] }, { accessFlags := 2, nameIndex := 5, descriptorIndex := 29, attributes := #[] }, { accessFlags := 0, nameIndex := 17, descriptorIndex := 337, attributes := #[] }] 49 2 #[1106, 1108, 575, 1110, 1112] #[{ accessFlags := 18, nameIndex := 13, descriptorIndex := 14, attributes := #[] }, { accessFlags := 18, nameIndex := 17, descriptorIndex := 18, attributes := #[] }, { accessFlags := 2, nameIndex := 21, descriptorIndex := 22, attributes := #[] }, { accessFlags := 2, nameIndex := 25, descriptorIndex := 26, attributes := #[] }, { accessFlags := 26, nameIndex := 1116, descriptorIndex := 1117, attributes := #[] }, { accessFlags := 24, nameIndex := 40, descriptorIndex := 26, attributes := #[] }, { accessFlags := 26, nameIndex := 1101, descriptorIndex := 1102, attributes := #[] }, { accessFlags := 26, nameIndex := 1121, descriptorIndex := 1122, attributes := #[] }, { accessFlags := 25, nameIndex := 599, descriptorIndex := 600, attributes := #[] }, { accessFlags := 24, nameIndex := 1125, descriptorIndex := 18, attributes := #[] }, { accessFlags := 24, nameIndex := 1127, descriptorIndex := 18, attributes := #[] }])
  fields := #[{ name := "value", type := (.array .byte), accessFlags := 18, slot := 0, constantValue := 0 }, { name := "coder", type := .byte, accessFlags := 18, slot := 1, constantValue := 0 }, { name := "hash", type := .int, accessFlags := 2, slot := 2, constantValue := 0 }, { name := "hashIsZero", type := .boolean, accessFlags := 2, slot := 3, constantValue := 0 }, { name := "serialVersionUID", type := .long, accessFlags := 26, slot := 0, constantValue := 0 }, { name := "COMPACT_STRINGS", type := .boolean, accessFlags := 24, slot := 1, constantValue := 0 }, { name := "serialPersistentFields", type := (.array (.object "java/io/ObjectStreamField")), accessFlags := 26, slot := 2, constantValue := 0 }, { name := "REPL", type := .char, accessFlags := 26, slot := 3, constantValue := 0 }, { name := "CASE_INSENSITIVE_ORDER", type := (.object "java/util/Comparator"), accessFlags := 25, slot := 4, constantValue := 0 }, { name := "LATIN1", type := .byte, accessFlags := 24, slot := 5, constantValue := 0 }, { name := "UTF16", type := .byte, accessFlags := 24, slot := 6, constantValue := 0 }]
  methods := #[k7m0, k7m1, k7m2, k7m3, k7m4, k7m5]
  instanceTypes := #[(.array .byte), .byte, .int, .boolean]
  staticTypes := #[.long, .boolean, (.array (.object "java/io/ObjectStreamField")), .char, (.object "java/util/Comparator"), .byte, .byte]
  resolved := Array.replicate 1451 none
  statics := some 0 }

def pool8 : Array CpInfo := pool [(1, .methodref 2 3), (0, .class_ 4), (0, .nameAndType 5 6), (0, u "java/lang/Object"), (0, u "<init>"), (0, u "()V"), (0, .fieldref 8 9), (0, .class_ 10), (0, .nameAndType 11 12), (0, u "com/example/firm_gate/firmgate/TokenDecision"), (0, u "principal"), (0, u "Ljava/lang/String;"), (0, .fieldref 8 14), (0, .nameAndType 15 16), (0, u "reason"), (0, u "Lcom/example/firm_gate/firmgate/RefusalReason;"), (0, .methodref 18 19), (0, .class_ 20), (0, .nameAndType 21 22), (0, u "java/util/Objects"), (0, u "requireNonNull"), (0, u "(Ljava/lang/Object;)Ljava/lang/Object;"), (0, .class_ 24), (0, u "java/lang/String"), (0, .methodref 8 26), (0, .nameAndType 5 27), (0, u "(Ljava/lang/String;Lcom/example/firm_gate/firmgate/RefusalReason;)V"), (2, .methodref 31 32), (0, .class_ 33), (0, .nameAndType 34 35), (0, u "java/util/Optional"), (0, u "ofNullable"), (0, u "(Ljava/lang/Object;)Ljava/util/Optional;"), (2, u "accept"), (0, u "(Ljava/lang/String;)Lcom/example/firm_gate/firmgate/TokenDecision;"), (2, u "accepted"), (0, u "()Z"), (1, u "()Ljava/util/Optional;")] 5

def k8c0 : Code := { maxStack := 2, maxLocals := 3, code := prog_13_method_1_code, exceptionTable := #[], attributes := #[] }
def k8m0 : Method := { name := "<init>", desc := "(Ljava/lang/String;Lcom/example/firm_gate/firmgate/RefusalReason;)V", sig := { parameters := [(.object "java/lang/String"), (.object "com/example/firm_gate/firmgate/RefusalReason")], returnType := none }, accessFlags := 2, code := some k8c0 }
def k8c1 : Code := { maxStack := 4, maxLocals := 1, code := prog_13_method_2_code, exceptionTable := #[], attributes := #[] }
def k8m1 : Method := { name := "accept", desc := "(Ljava/lang/String;)Lcom/example/firm_gate/firmgate/TokenDecision;", sig := { parameters := [(.object "java/lang/String")], returnType := some (.object "com/example/firm_gate/firmgate/TokenDecision") }, accessFlags := 8, code := some k8c1 }
def k8c2 : Code := { maxStack := 1, maxLocals := 1, code := prog_13_method_4_code, exceptionTable := #[], attributes := #[] }
def k8m2 : Method := { name := "accepted", desc := "()Z", sig := { parameters := [], returnType := some .boolean }, accessFlags := 1, code := some k8c2 }
def k8c3 : Code := { maxStack := 1, maxLocals := 1, code := prog_13_method_5_code, exceptionTable := #[], attributes := #[] }
def k8m3 : Method := { name := "principal", desc := "()Ljava/util/Optional;", sig := { parameters := [], returnType := some (.object "java/util/Optional") }, accessFlags := 1, code := some k8c3 }
def k8c4 : Code := { maxStack := 1, maxLocals := 1, code := prog_13_method_6_code, exceptionTable := #[], attributes := #[] }
def k8m4 : Method := { name := "reason", desc := "()Ljava/util/Optional;", sig := { parameters := [], returnType := some (.object "java/util/Optional") }, accessFlags := 1, code := some k8c4 }
/-- com/example/firm_gate/firmgate/TokenDecision -/
def k8 : Class := { plain "com/example/firm_gate/firmgate/TokenDecision" (some 0) with
  accessFlags := 33
  interfaces := #[]
  cf := some (fileOf pool8 8 #[] #[{ accessFlags := 2, nameIndex := 5, descriptorIndex := 27, attributes := #[] }, { accessFlags := 8, nameIndex := 38, descriptorIndex := 39, attributes := #[] }, { accessFlags := 1, nameIndex := 42, descriptorIndex := 43, attributes := #[] }, { accessFlags := 1, nameIndex := 11, descriptorIndex := 45, attributes := #[] }, { accessFlags := 1, nameIndex := 15, descriptorIndex := 45, attributes := #[] }] 33 2 #[] #[{ accessFlags := 18, nameIndex := 11, descriptorIndex := 12, attributes := #[] }, { accessFlags := 18, nameIndex := 15, descriptorIndex := 16, attributes := #[] }])
  fields := #[{ name := "principal", type := (.object "java/lang/String"), accessFlags := 18, slot := 0, constantValue := 0 }, { name := "reason", type := (.object "com/example/firm_gate/firmgate/RefusalReason"), accessFlags := 18, slot := 1, constantValue := 0 }]
  methods := #[k8m0, k8m1, k8m2, k8m3, k8m4]
  instanceTypes := #[(.object "java/lang/String"), (.object "com/example/firm_gate/firmgate/RefusalReason")]
  staticTypes := #[]
  resolved := Array.replicate 51 none
  statics := none }

def pool9 : Array CpInfo := pool [(2, .class_ 4), (1, u "java/lang/Object"), (0, u "<init>"), (0, u "()V"), (35, .class_ 44), (1, u "java/util/Objects"), (0, u "requireNonNull"), (0, u "(Ljava/lang/Object;)Ljava/lang/Object;")] 137

def k9m0 : Method := { name := "<init>", desc := "()V", sig := { parameters := [], returnType := none }, accessFlags := 2, code := none }
def k9c1 : Code := { maxStack := 2, maxLocals := 1, code := jdk_31_method_10_code, exceptionTable := #[], attributes := #[] }
def k9m1 : Method := { name := "requireNonNull", desc := "(Ljava/lang/Object;)Ljava/lang/Object;", sig := { parameters := [(.object "java/lang/Object")], returnType := some (.object "java/lang/Object") }, accessFlags := 9, code := some k9c1 }
/-- java/util/Objects -/
def k9 : Class := { plain "java/util/Objects" (some 0) with
  accessFlags := 49
  interfaces := #[]
  cf := some (fileOf pool9 42 #[] #[{ accessFlags := 2, nameIndex := 5, descriptorIndex := 6, attributes := #[] }, { accessFlags := 9, nameIndex := 45, descriptorIndex := 46, attributes := #[] }] 49 2 #[] #[])
  fields := #[]
  methods := #[k9m0, k9m1]
  instanceTypes := #[]
  staticTypes := #[]
  resolved := Array.replicate 184 none
  statics := none }

def pool10 : Array CpInfo := pool [(1, .fieldref 2 3), (0, .class_ 4), (0, .nameAndType 5 6), (0, u "java/util/Optional"), (0, u "EMPTY"), (0, u "Ljava/util/Optional;"), (0, .methodref 8 9), (0, .class_ 10), (0, .nameAndType 11 12), (0, u "java/lang/Object"), (0, u "<init>"), (0, u "()V"), (0, .fieldref 2 14), (0, .nameAndType 15 16), (0, u "value"), (0, u "Ljava/lang/Object;"), (6, .methodref 2 24), (0, .nameAndType 11 25), (0, u "(Ljava/lang/Object;)V"), (20, u "()Z"), (17, u "ofNullable"), (0, u "(Ljava/lang/Object;)Ljava/util/Optional;"), (2, u "isPresent"), (4, u "get"), (0, u "()Ljava/lang/Object;")] 112

def k10c0 : Code := { maxStack := 2, maxLocals := 2, code := jdk_32_method_2_code, exceptionTable := #[], attributes := #[] }
def k10m0 : Method := { name := "<init>", desc := "(Ljava/lang/Object;)V", sig := { parameters := [(.object "java/lang/Object")], returnType := none }, accessFlags := 2, code := some k10c0 }
def k10c1 : Code := { maxStack := 3, maxLocals := 1, code := jdk_32_method_4_code, exceptionTable := #[], attributes := #[] }
def k10m1 : Method := { name := "ofNullable", desc := "(Ljava/lang/Object;)Ljava/util/Optional;", sig := { parameters := [(.object "java/lang/Object")], returnType := some (.object "java/util/Optional") }, accessFlags := 9, code := some k10c1 }
def k10c2 : Code := { maxStack := 3, maxLocals := 1, code := jdk_32_method_5_code, exceptionTable := #[], attributes := #[] }
def k10m2 : Method := { name := "get", desc := "()Ljava/lang/Object;", sig := { parameters := [], returnType := some (.object "java/lang/Object") }, accessFlags := 1, code := some k10c2 }
def k10c3 : Code := { maxStack := 1, maxLocals := 1, code := jdk_32_method_6_code, exceptionTable := #[], attributes := #[] }
def k10m3 : Method := { name := "isPresent", desc := "()Z", sig := { parameters := [], returnType := some .boolean }, accessFlags := 1, code := some k10c3 }
/-- java/util/Optional -/
def k10 : Class := { plain "java/util/Optional" (some 0) with
  accessFlags := 49
  interfaces := #[]
  cf := some (fileOf pool10 2 #[] #[{ accessFlags := 2, nameIndex := 11, descriptorIndex := 25, attributes := #[] }, { accessFlags := 9, nameIndex := 64, descriptorIndex := 65, attributes := #[] }, { accessFlags := 1, nameIndex := 73, descriptorIndex := 74, attributes := #[] }, { accessFlags := 1, nameIndex := 68, descriptorIndex := 46, attributes := #[] }] 49 8 #[] #[{ accessFlags := 26, nameIndex := 5, descriptorIndex := 6, attributes := #[] }, { accessFlags := 18, nameIndex := 15, descriptorIndex := 16, attributes := #[] }])
  fields := #[{ name := "EMPTY", type := (.object "java/util/Optional"), accessFlags := 26, slot := 0, constantValue := 0 }, { name := "value", type := (.object "java/lang/Object"), accessFlags := 18, slot := 0, constantValue := 0 }]
  methods := #[k10m0, k10m1, k10m2, k10m3]
  instanceTypes := #[(.object "java/lang/Object")]
  staticTypes := #[(.object "java/util/Optional")]
  resolved := Array.replicate 187 none
  statics := some 1 }

def pool11 : Array CpInfo := pool [(6, .class_ 8), (1, u "java/lang/Object"), (0, u "<init>"), (0, u "()V"), (0, .methodref 12 13), (0, .class_ 14), (0, .nameAndType 15 16), (0, u "java/lang/StringUTF16"), (0, u "newBytesLength"), (0, u "(I)I"), (3, .integer 1073741823), (23, .fieldref 12 45), (0, .nameAndType 46 47), (0, u "$assertionsDisabled"), (0, u "Z"), (11, .fieldref 12 60), (0, .nameAndType 61 62), (0, u "HI_BYTE_SHIFT"), (0, u "I"), (0, .fieldref 12 64), (0, .nameAndType 65 62), (0, u "LO_BYTE_SHIFT"), (5, .methodref 12 72), (0, .nameAndType 73 74), (0, u "getChar"), (0, u "([BI)C"), (32, .methodref 12 108), (0, .nameAndType 109 110), (0, u "newBytesFor"), (0, u "(I)[B"), (0, .methodref 12 112), (0, .nameAndType 113 114), (0, u "putChar"), (0, u "([BII)V"), (0, .methodref 12 116), (0, .nameAndType 117 118), (0, u "compress"), (0, u "([CI[BII)I"), (0, .methodref 12 120), (0, .nameAndType 121 122), (0, u "toBytes"), (0, u "([CII)[B"), (138, u "coderFromArrayLen"), (0, u "([BI)B"), (106, .class_ 371), (1, u "java/lang/StringUTF16$LinesSpliterator"), (58, u "MAX_LENGTH"), (196, .class_ 628), (0, u "java/lang/StringUTF16$CodePointsSpliterator"), (0, .class_ 630), (0, u "java/lang/StringUTF16$CharsSpliterator")] 4

def k11m0 : Method := { name := "<init>", desc := "()V", sig := { parameters := [], returnType := none }, accessFlags := 0, code := none }
def k11c1 : Code := { maxStack := 1, maxLocals := 1, code := jdk_52_method_2_code, exceptionTable := #[], attributes := #[] }
def k11m1 : Method := { name := "newBytesFor", desc := "(I)[B", sig := { parameters := [.int], returnType := some (.array .byte) }, accessFlags := 9, code := some k11c1 }
def k11c2 : Code := { maxStack := 4, maxLocals := 1, code := jdk_52_method_3_code, exceptionTable := #[], attributes := #[] }
def k11m2 : Method := { name := "newBytesLength", desc := "(I)I", sig := { parameters := [.int], returnType := some .int }, accessFlags := 9, code := some k11c2 }
def k11c3 : Code := { maxStack := 4, maxLocals := 3, code := jdk_52_method_4_code, exceptionTable := #[], attributes := #[] }
def k11m3 : Method := { name := "putChar", desc := "([BII)V", sig := { parameters := [(.array .byte), .int, .int], returnType := none }, accessFlags := 8, code := some k11c3 }
def k11c4 : Code := { maxStack := 3, maxLocals := 2, code := jdk_52_method_5_code, exceptionTable := #[], attributes := #[] }
def k11m4 : Method := { name := "getChar", desc := "([BI)C", sig := { parameters := [(.array .byte), .int], returnType := some .char }, accessFlags := 8, code := some k11c4 }
def k11c5 : Code := { maxStack := 4, maxLocals := 5, code := jdk_52_method_14_code, exceptionTable := #[], attributes := #[] }
def k11m5 : Method := { name := "toBytes", desc := "([CII)[B", sig := { parameters := [(.array .char), .int, .int], returnType := some (.array .byte) }, accessFlags := 9, code := some k11c5 }
def k11c6 : Code := { maxStack := 2, maxLocals := 2, code := jdk_52_method_15_code, exceptionTable := #[], attributes := #[] }
def k11m6 : Method := { name := "coderFromArrayLen", desc := "([BI)B", sig := { parameters := [(.array .byte), .int], returnType := some .byte }, accessFlags := 8, code := some k11c6 }
def k11c7 : Code := { maxStack := 5, maxLocals := 6, code := jdk_52_method_16_code, exceptionTable := #[], attributes := #[] }
def k11m7 : Method := { name := "compress", desc := "([CII)[B", sig := { parameters := [(.array .char), .int, .int], returnType := some (.array .byte) }, accessFlags := 9, code := some k11c7 }
def k11c8 : Code := { maxStack := 3, maxLocals := 7, code := jdk_52_method_21_code, exceptionTable := #[], attributes := #[] }
def k11m8 : Method := { name := "compress", desc := "([CI[BII)I", sig := { parameters := [(.array .char), .int, (.array .byte), .int, .int], returnType := some .int }, accessFlags := 9, code := some k11c8 }
/-- java/lang/StringUTF16 -/
def k11 : Class := { plain "java/lang/StringUTF16" (some 0) with
  accessFlags := 48
  interfaces := #[]
  cf := some (fileOf pool11 12 #[.nestMembers #[627, 629, 369]] #[{ accessFlags := 0, nameIndex := 9, descriptorIndex := 10, attributes := #[] }, { accessFlags := 9, nameIndex := 109, descriptorIndex := 110, attributes := #[] }, { accessFlags := 9, nameIndex := 15, descriptorIndex := 16, attributes := #[] }, { accessFlags := 8, nameIndex := 113, descriptorIndex := 114, attributes := #[] }, { accessFlags := 8, nameIndex := 73, descriptorIndex := 74, attributes := #[] }, { accessFlags := 9, nameIndex := 121, descriptorIndex := 122, attributes := #[] }, { accessFlags := 8, nameIndex := 261, descriptorIndex := 262, attributes := #[] }, { accessFlags := 9, nameIndex := 117, descriptorIndex := 122, attributes := #[] }, { accessFlags := 9, nameIndex := 117, descriptorIndex := 118, attributes := #[] }] 48 6 #[] #[{ accessFlags := 26, nameIndex := 61, descriptorIndex := 62, attributes := #[] }, { accessFlags := 26, nameIndex := 65, descriptorIndex := 62, attributes := #[] }, { accessFlags := 24, nameIndex := 430, descriptorIndex := 62, attributes := #[] }, { accessFlags := 4120, nameIndex := 46, descriptorIndex := 47, attributes := #[] }])
  fields := #[{ name := "HI_BYTE_SHIFT", type := .int, accessFlags := 26, slot := 0, constantValue := 0 }, { name := "LO_BYTE_SHIFT", type := .int, accessFlags := 26, slot := 1, constantValue := 0 }, { name := "MAX_LENGTH", type := .int, accessFlags := 24, slot := 2, constantValue := 0 }, { name := "$assertionsDisabled", type := .boolean, accessFlags := 4120, slot := 3, constantValue := 0 }]
  methods := #[k11m0, k11m1, k11m2, k11m3, k11m4, k11m5, k11m6, k11m7, k11m8]
  instanceTypes := #[]
  staticTypes := #[.int, .int, .int, .boolean]
  resolved := Array.replicate 635 none
  statics := some 2 }

def pool12 : Array CpInfo := pool [(4, .class_ 6), (1, u "java/lang/Object"), (0, u "<init>"), (0, u "()V"), (5, .class_ 16), (1, u "java/lang/StringLatin1"), (104, u "$assertionsDisabled"), (0, u "Z"), (98, .class_ 223), (1, u "java/lang/StringLatin1$LinesSpliterator"), (166, .class_ 391), (0, u "java/lang/StringLatin1$CharsSpliterator")] 3

def k12m0 : Method := { name := "<init>", desc := "()V", sig := { parameters := [], returnType := none }, accessFlags := 0, code := none }
/-- java/lang/StringLatin1 -/
def k12 : Class := { plain "java/lang/StringLatin1" (some 0) with
  accessFlags := 48
  interfaces := #[]
  cf := some (fileOf pool12 14 #[.nestMembers #[390, 221]] #[{ accessFlags := 0, nameIndex := 7, descriptorIndex := 8, attributes := #[] }] 48 4 #[] #[{ accessFlags := 4120, nameIndex := 121, descriptorIndex := 122, attributes := #[] }])
  fields := #[{ name := "$assertionsDisabled", type := .boolean, accessFlags := 4120, slot := 0, constantValue := 0 }]
  methods := #[k12m0]
  instanceTypes := #[]
  staticTypes := #[.boolean]
  resolved := Array.replicate 395 none
  statics := none }

def pool13 : Array CpInfo := pool [(2, .class_ 4), (1, u "java/lang/Object"), (0, u "<init>"), (0, u "()V"), (17, .class_ 26), (1, u "jdk/internal/util/Preconditions"), (28, .class_ 56), (0, u "jdk/internal/util/Preconditions$4"), (57, .class_ 115), (0, u "jdk/internal/util/Preconditions$1"), (7, u "SIOOBE_FORMATTER"), (0, u "Ljava/util/function/BiFunction;"), (0, .class_ 126), (0, u "jdk/internal/util/Preconditions$2"), (3, u "AIOOBE_FORMATTER"), (0, .class_ 132), (0, u "jdk/internal/util/Preconditions$3"), (3, u "IOOBE_FORMATTER")] 57

def k13m0 : Method := { name := "<init>", desc := "()V", sig := { parameters := [], returnType := none }, accessFlags := 1, code := none }
/-- jdk/internal/util/Preconditions -/
def k13 : Class := { plain "jdk/internal/util/Preconditions" (some 0) with
  accessFlags := 33
  interfaces := #[]
  cf := some (fileOf pool13 24 #[.nestMembers #[55, 131, 125, 114]] #[{ accessFlags := 1, nameIndex := 5, descriptorIndex := 6, attributes := #[] }] 33 2 #[] #[{ accessFlags := 25, nameIndex := 123, descriptorIndex := 124, attributes := #[] }, { accessFlags := 25, nameIndex := 130, descriptorIndex := 124, attributes := #[] }, { accessFlags := 25, nameIndex := 136, descriptorIndex := 124, attributes := #[] }])
  fields := #[{ name := "SIOOBE_FORMATTER", type := (.object "java/util/function/BiFunction"), accessFlags := 25, slot := 0, constantValue := 0 }, { name := "AIOOBE_FORMATTER", type := (.object "java/util/function/BiFunction"), accessFlags := 25, slot := 1, constantValue := 0 }, { name := "IOOBE_FORMATTER", type := (.object "java/util/function/BiFunction"), accessFlags := 25, slot := 2, constantValue := 0 }]
  methods := #[k13m0]
  instanceTypes := #[]
  staticTypes := #[(.object "java/util/function/BiFunction"), (.object "java/util/function/BiFunction"), (.object "java/util/function/BiFunction")]
  resolved := Array.replicate 194 none
  statics := some 3 }

def pool14 : Array CpInfo := pool [(9, u "<init>"), (6, .class_ 18), (1, u "java/lang/Object"), (0, u "()V"), (1, .class_ 23), (1, u "jdk/internal/util/ArraysSupport"), (0, u "LOG2_ARRAY_LONG_INDEX_SCALE"), (0, u "I"), (2, u "U"), (0, u "Ljdk/internal/misc/Unsafe;"), (8, u "BIG_ENDIAN"), (0, u "Z"), (8, u "LOG2_BYTE_BIT_SIZE"), (4, u "LOG2_ARRAY_INT_INDEX_SCALE"), (54, u "JLA"), (0, u "Ljdk/internal/access/JavaLangAccess;"), (11, u "LOG2_ARRAY_BOOLEAN_INDEX_SCALE"), (9, u "LOG2_ARRAY_BYTE_INDEX_SCALE"), (5, u "LOG2_ARRAY_CHAR_INDEX_SCALE"), (5, u "LOG2_ARRAY_SHORT_INDEX_SCALE"), (18, u "LOG2_ARRAY_FLOAT_INDEX_SCALE"), (24, u "LOG2_ARRAY_DOUBLE_INDEX_SCALE"), (89, u "T_BOOLEAN"), (2, u "T_CHAR"), (1, u "T_FLOAT"), (1, u "T_DOUBLE"), (1, u "T_BYTE"), (1, u "T_SHORT"), (1, u "T_INT"), (1, u "T_LONG"), (1, u "SOFT_MAX_ARRAY_LENGTH")] 83

def k14m0 : Method := { name := "<init>", desc := "()V", sig := { parameters := [], returnType := none }, accessFlags := 2, code := none }
/-- jdk/internal/util/ArraysSupport -/
def k14 : Class := { plain "jdk/internal/util/ArraysSupport" (some 0) with
  accessFlags := 33
  interfaces := #[]
  cf := some (fileOf pool14 21 #[] #[{ accessFlags := 2, nameIndex := 9, descriptorIndex := 19, attributes := #[] }] 33 16 #[] #[{ accessFlags := 24, nameIndex := 28, descriptorIndex := 29, attributes := #[] }, { accessFlags := 26, nameIndex := 38, descriptorIndex := 39, attributes := #[] }, { accessFlags := 25, nameIndex := 121, descriptorIndex := 25, attributes := #[] }, { accessFlags := 25, nameIndex := 131, descriptorIndex := 25, attributes := #[] }, { accessFlags := 25, nameIndex := 137, descriptorIndex := 25, attributes := #[] }, { accessFlags := 25, nameIndex := 143, descriptorIndex := 25, attributes := #[] }, { accessFlags := 25, nameIndex := 53, descriptorIndex := 25, attributes := #[] }, { accessFlags := 25, nameIndex := 24, descriptorIndex := 25, attributes := #[] }, { accessFlags := 25, nameIndex := 162, descriptorIndex := 25, attributes := #[] }, { accessFlags := 25, nameIndex := 187, descriptorIndex := 25, attributes := #[] }, { accessFlags := 26, nameIndex := 48, descriptorIndex := 25, attributes := #[] }, { accessFlags := 25, nameIndex := 277, descriptorIndex := 25, attributes := #[] }, { accessFlags := 25, nameIndex := 280, descriptorIndex := 25, attributes := #[] }, { accessFlags := 25, nameIndex := 282, descriptorIndex := 25, attributes := #[] }, { accessFlags := 25, nameIndex := 284, descriptorIndex := 25, attributes := #[] }, { accessFlags := 25, nameIndex := 286, descriptorIndex := 25, attributes := #[] }, { accessFlags := 25, nameIndex := 288, descriptorIndex := 25, attributes := #[] }, { accessFlags := 25, nameIndex := 290, descriptorIndex := 25, attributes := #[] }, { accessFlags := 25, nameIndex := 292, descriptorIndex := 25, attributes := #[] }, { accessFlags := 26, nameIndex := 108, descriptorIndex := 109, attributes := #[] }, { accessFlags := 25, nameIndex := 294, descriptorIndex := 25, attributes := #[] }])
  fields := #[{ name := "U", type := (.object "jdk/internal/misc/Unsafe"), accessFlags := 24, slot := 0, constantValue := 0 }, { name := "BIG_ENDIAN", type := .boolean, accessFlags := 26, slot := 1, constantValue := 0 }, { name := "LOG2_ARRAY_BOOLEAN_INDEX_SCALE", type := .int, accessFlags := 25, slot := 2, constantValue := 0 }, { name := "LOG2_ARRAY_BYTE_INDEX_SCALE", type := .int, accessFlags := 25, slot := 3, constantValue := 0 }, { name := "LOG2_ARRAY_CHAR_INDEX_SCALE", type := .int, accessFlags := 25, slot := 4, constantValue := 0 }, { name := "LOG2_ARRAY_SHORT_INDEX_SCALE", type := .int, accessFlags := 25, slot := 5, constantValue := 0 }, { name := "LOG2_ARRAY_INT_INDEX_SCALE", type := .int, accessFlags := 25, slot := 6, constantValue := 0 }, { name := "LOG2_ARRAY_LONG_INDEX_SCALE", type := .int, accessFlags := 25, slot := 7, constantValue := 0 }, { name := "LOG2_ARRAY_FLOAT_INDEX_SCALE", type := .int, accessFlags := 25, slot := 8, constantValue := 0 }, { name := "LOG2_ARRAY_DOUBLE_INDEX_SCALE", type := .int, accessFlags := 25, slot := 9, constantValue := 0 }, { name := "LOG2_BYTE_BIT_SIZE", type := .int, accessFlags := 26, slot := 10, constantValue := 0 }, { name := "T_BOOLEAN", type := .int, accessFlags := 25, slot := 11, constantValue := 0 }, { name := "T_CHAR", type := .int, accessFlags := 25, slot := 12, constantValue := 0 }, { name := "T_FLOAT", type := .int, accessFlags := 25, slot := 13, constantValue := 0 }, { name := "T_DOUBLE", type := .int, accessFlags := 25, slot := 14, constantValue := 0 }, { name := "T_BYTE", type := .int, accessFlags := 25, slot := 15, constantValue := 0 }, { name := "T_SHORT", type := .int, accessFlags := 25, slot := 16, constantValue := 0 }, { name := "T_INT", type := .int, accessFlags := 25, slot := 17, constantValue := 0 }, { name := "T_LONG", type := .int, accessFlags := 25, slot := 18, constantValue := 0 }, { name := "JLA", type := (.object "jdk/internal/access/JavaLangAccess"), accessFlags := 26, slot := 19, constantValue := 0 }, { name := "SOFT_MAX_ARRAY_LENGTH", type := .int, accessFlags := 25, slot := 20, constantValue := 0 }]
  methods := #[k14m0]
  instanceTypes := #[]
  staticTypes := #[(.object "jdk/internal/misc/Unsafe"), .boolean, .int, .int, .int, .int, .int, .int, .int, .int, .int, .int, .int, .int, .int, .int, .int, .int, .int, (.object "jdk/internal/access/JavaLangAccess"), .int]
  resolved := Array.replicate 378 none
  statics := none }

def pool15 : Array CpInfo := pool [(1, u "java/lang/Cloneable"), (0, .class_ 1), (0, u "java/lang/Object"), (0, .class_ 3)] 3

/-- java/lang/Cloneable -/
def k15 : Class := { plain "java/lang/Cloneable" (some 0) with
  accessFlags := 1537
  interfaces := #[]
  cf := some (fileOf pool15 2 #[] #[] 1537 4 #[] #[])
  fields := #[]
  methods := #[]
  instanceTypes := #[]
  staticTypes := #[]
  resolved := Array.replicate 8 none
  statics := none }

/-- the primitive byte -/
def k16 : Class := { plain "byte" none with kind := .primitive 'B', accessFlags := 0x411 }
/-- [B -/
def k17 : Class := { plain "[B" (some 0) with kind := .array 16 .byte, interfaces := #[15, 2], accessFlags := 1041 }

/-- the primitive char -/
def k18 : Class := { plain "char" none with kind := .primitive 'C', accessFlags := 0x411 }
/-- [C -/
def k19 : Class := { plain "[C" (some 0) with kind := .array 18 .char, interfaces := #[15, 2], accessFlags := 1041 }

/-- the primitive int -/
def k20 : Class := { plain "int" none with kind := .primitive 'I', accessFlags := 0x411 }
/-- [I -/
def k21 : Class := { plain "[I" (some 0) with kind := .array 20 .int, interfaces := #[15, 2], accessFlags := 1041 }

def heap : Heap := #[{ cls := 7, slots := #[.long 0, .int 1, .null, .int 0, .null, .int 0, .int 0], vm := .statics 7 },
  { cls := 10, slots := #[.ref 4], vm := .statics 10 },
  { cls := 11, slots := #[.int 0, .int 8, .int 0, .int 1], vm := .statics 11 },
  { cls := 13, slots := #[.null, .null, .null], vm := .statics 13 },
  { cls := 10, slots := #[.null], vm := .none }]
def classes : Array Class := #[k0, k1, k2, k3, k4, k5, k6, k7, k8, k9, k10, k11, k12, k13, k14, k15, k16, k17, k18, k19, k20, k21]
def interned : List (Array UInt16 × Addr) := []
def slotsUsed : Nat := 16
def theMethod : MethodId := ⟨1, 2⟩
def args0 : Array Value := #[.int 3, .int 66, .int 67]
def aboutOver (below : List Frame) : State where
  vm := { classes := classes, interned := interned.toArray }
  heap := heap
  slotsUsed := slotsUsed
  threads := #[{ frames := .invoking theMethod args0 :: below }]
def below0 : List Frame := [.native { method := ⟨0, 0⟩, args := #[] }]
def about1 : State := aboutOver below0
def p0 : Program := .bare "" "" ""
def e0 : Env := launch0.env 0 0 0
theorem w_frames : about1.frames = Frame.invoking theMethod args0 :: below0 := rfl
set_option maxRecDepth 65536 in
theorem w_args : argsFit about1.vm theMethod args0 = true := by decide +kernel
set_option maxRecDepth 65536 in
theorem w_heap : heapFits about1 = true := by decide +kernel
set_option maxRecDepth 65536 in
theorem w_runnable : about1.curStatus? = some .runnable := by decide +kernel
set_option maxRecDepth 65536 in
theorem w_alone : about1.alone = true := by decide +kernel
set_option maxRecDepth 65536 in
theorem w_named : about1.methodNamed? x = some theMethod := by decide +kernel
set_option maxRecDepth 65536 in
theorem w_hears : about1.hears theMethod below0 = true := by decide +kernel
set_option maxRecDepth 65536 in
theorem w_ripe : about1.ripe theMethod args0 below0 = true := by decide +kernel
theorem w_running : about1.status = .running := rfl
set_option maxRecDepth 65536 in
theorem w_room : about1.hasRoom e0.platform room_1 = true :=
  launch0.hasRoom_least _ room_1 (by decide +kernel) (by decide +kernel) (by decide +kernel) (by decide +kernel) (by decide +kernel) (by decide +kernel)
theorem allAtoms_all (ts : List Jvm.Cond) (a : Array Jvm.Value) (st : Jvm.State) : (allAtoms ts).before a st = ts.all (fun c => c.before a st) := by
  induction ts with
  | nil => rfl
  | cons c t ih =>
    show (Jvm.Cond.and c (allAtoms t)).before a st = _
    rw [Jvm.Cond.before_and, ih, List.all_cons]
def words1 : List Jvm.Cond := Jvm.Cond.code x code maxLocals ret :: tables_1
/-- a 'code' word, met by the world's own term for the bytes: nothing is compared byte by byte -/
theorem code_word {y : MethodName} {bytes : ByteArray} {mx : Nat} {rt : Option FieldType} {a : Array Value} {s : State} {m : MethodId} {meth : Method} {c : Code} (h1 : s.methodNamed? y = some m) (h2 : s.vm.method? m = some meth) (h3 : meth.code = some c) (h4 : c.code = bytes)
    (h5 : (c.maxLocals == mx && c.exceptionTable.isEmpty && decide (c.maxStack ≤ mostOperands) && decide (meth.sig.returnType = rt) && !meth.locks && decide (parseMethodDescriptor y.desc = some meth.sig)) = true) : (Jvm.Cond.code y bytes mx rt).before a s = true := by
  simp only [Bool.and_eq_true, beq_iff_eq, Bool.not_eq_true', decide_eq_true_eq] at h5
  obtain ⟨⟨⟨⟨⟨g1, g2⟩, g3⟩, g4⟩, g5⟩, g6⟩ := h5
  simp [Cond.before, Cond.holds, Cond.value, h1, h2, h3, h4, g1, g2, g3, g4, g5, g6]
def isCode : Jvm.Cond → Bool
  | .code _ _ _ _ => true
  | _ => false
theorem all_split {L : List Jvm.Cond} {P : Jvm.Cond → Bool} (h1 : L.all (fun c => isCode c || P c) = true) (h2 : ∀ c ∈ L.filter isCode, P c = true) : L.all P = true := by
  refine List.all_eq_true.mpr fun c hc => ?_
  have h := List.all_eq_true.mp h1 c hc
  rcases Bool.eq_false_or_eq_true (isCode c) with hi | hi
  · exact h2 c (List.mem_filter.mpr ⟨hc, hi⟩)
  · simpa [hi] using h
set_option maxRecDepth 65536 in
theorem w_c0 : (Jvm.Cond.code x code maxLocals ret).before args0 about1 = true := code_word (m := ⟨1, 2⟩) (meth := k1m2) (c := k1c2) (by decide +kernel) rfl rfl rfl (by decide +kernel)
set_option maxRecDepth 65536 in
theorem w_c1 : (Jvm.Cond.code ({ cls := "com/example/firm_gate/firmgate/TokenDecisionAcceptPinLaw", name := "make", desc := "(ICCCC)Ljava/lang/String;" } : Jvm.MethodName) method_2_code (6 : Nat) (Option.some (Jvm.ClassFile.FieldType.object "java/lang/String"))).before args0 about1 = true := code_word (m := ⟨1, 1⟩) (meth := k1m1) (c := k1c1) (by decide +kernel) rfl rfl rfl (by decide +kernel)
set_option maxRecDepth 65536 in
theorem w_c2 : (Jvm.Cond.code ({ cls := "java/lang/String", name := "<init>", desc := "([C)V" } : Jvm.MethodName) jdk_42_method_3_code (2 : Nat) (Option.none : Option Jvm.ClassFile.FieldType)).before args0 about1 = true := code_word (m := ⟨7, 1⟩) (meth := k7m1) (c := k7c1) (by decide +kernel) rfl rfl rfl (by decide +kernel)
set_option maxRecDepth 65536 in
theorem w_c3 : (Jvm.Cond.code ({ cls := "java/lang/String", name := "<init>", desc := "([CIILjava/lang/Void;)V" } : Jvm.MethodName) jdk_42_method_149_code (6 : Nat) (Option.none : Option Jvm.ClassFile.FieldType)).before args0 about1 = true := code_word (m := ⟨7, 4⟩) (meth := k7m4) (c := k7c4) (by decide +kernel) rfl rfl rfl (by decide +kernel)
set_option maxRecDepth 65536 in
theorem w_c4 : (Jvm.Cond.code ({ cls := "java/lang/Object", name := "<init>", desc := "()V" } : Jvm.MethodName) object_method_1_code (1 : Nat) (Option.none : Option Jvm.ClassFile.FieldType)).before args0 about1 = true := code_word (m := ⟨0, 0⟩) (meth := k0m0) (c := k0c0) (by decide +kernel) rfl rfl rfl (by decide +kernel)
set_option maxRecDepth 65536 in
theorem w_c5 : (Jvm.Cond.code ({ cls := "com/example/firm_gate/firmgate/TokenDecision", name := "accept", desc := "(Ljava/lang/String;)Lcom/example/firm_gate/firmgate/TokenDecision;" } : Jvm.MethodName) prog_13_method_2_code (1 : Nat) (Option.some (Jvm.ClassFile.FieldType.object "com/example/firm_gate/firmgate/TokenDecision"))).before args0 about1 = true := code_word (m := ⟨8, 1⟩) (meth := k8m1) (c := k8c1) (by decide +kernel) rfl rfl rfl (by decide +kernel)
set_option maxRecDepth 65536 in
theorem w_c6 : (Jvm.Cond.code ({ cls := "java/util/Objects", name := "requireNonNull", desc := "(Ljava/lang/Object;)Ljava/lang/Object;" } : Jvm.MethodName) jdk_31_method_10_code (1 : Nat) (Option.some (Jvm.ClassFile.FieldType.object "java/lang/Object"))).before args0 about1 = true := code_word (m := ⟨9, 1⟩) (meth := k9m1) (c := k9c1) (by decide +kernel) rfl rfl rfl (by decide +kernel)
set_option maxRecDepth 65536 in
theorem w_c7 : (Jvm.Cond.code ({ cls := "com/example/firm_gate/firmgate/TokenDecision", name := "<init>", desc := "(Ljava/lang/String;Lcom/example/firm_gate/firmgate/RefusalReason;)V" } : Jvm.MethodName) prog_13_method_1_code (3 : Nat) (Option.none : Option Jvm.ClassFile.FieldType)).before args0 about1 = true := code_word (m := ⟨8, 0⟩) (meth := k8m0) (c := k8c0) (by decide +kernel) rfl rfl rfl (by decide +kernel)
set_option maxRecDepth 65536 in
theorem w_c8 : (Jvm.Cond.code ({ cls := "com/example/firm_gate/firmgate/TokenDecision", name := "accepted", desc := "()Z" } : Jvm.MethodName) prog_13_method_4_code (1 : Nat) (Option.some Jvm.ClassFile.FieldType.boolean)).before args0 about1 = true := code_word (m := ⟨8, 2⟩) (meth := k8m2) (c := k8c2) (by decide +kernel) rfl rfl rfl (by decide +kernel)
set_option maxRecDepth 65536 in
theorem w_c9 : (Jvm.Cond.code ({ cls := "com/example/firm_gate/firmgate/TokenDecision", name := "principal", desc := "()Ljava/util/Optional;" } : Jvm.MethodName) prog_13_method_5_code (1 : Nat) (Option.some (Jvm.ClassFile.FieldType.object "java/util/Optional"))).before args0 about1 = true := code_word (m := ⟨8, 3⟩) (meth := k8m3) (c := k8c3) (by decide +kernel) rfl rfl rfl (by decide +kernel)
set_option maxRecDepth 65536 in
theorem w_c10 : (Jvm.Cond.code ({ cls := "java/util/Optional", name := "ofNullable", desc := "(Ljava/lang/Object;)Ljava/util/Optional;" } : Jvm.MethodName) jdk_32_method_4_code (1 : Nat) (Option.some (Jvm.ClassFile.FieldType.object "java/util/Optional"))).before args0 about1 = true := code_word (m := ⟨10, 1⟩) (meth := k10m1) (c := k10c1) (by decide +kernel) rfl rfl rfl (by decide +kernel)
set_option maxRecDepth 65536 in
theorem w_c11 : (Jvm.Cond.code ({ cls := "java/util/Optional", name := "<init>", desc := "(Ljava/lang/Object;)V" } : Jvm.MethodName) jdk_32_method_2_code (2 : Nat) (Option.none : Option Jvm.ClassFile.FieldType)).before args0 about1 = true := code_word (m := ⟨10, 0⟩) (meth := k10m0) (c := k10c0) (by decide +kernel) rfl rfl rfl (by decide +kernel)
set_option maxRecDepth 65536 in
theorem w_c12 : (Jvm.Cond.code ({ cls := "java/util/Optional", name := "isPresent", desc := "()Z" } : Jvm.MethodName) jdk_32_method_6_code (1 : Nat) (Option.some Jvm.ClassFile.FieldType.boolean)).before args0 about1 = true := code_word (m := ⟨10, 3⟩) (meth := k10m3) (c := k10c3) (by decide +kernel) rfl rfl rfl (by decide +kernel)
set_option maxRecDepth 65536 in
theorem w_c13 : (Jvm.Cond.code ({ cls := "java/util/Optional", name := "get", desc := "()Ljava/lang/Object;" } : Jvm.MethodName) jdk_32_method_5_code (1 : Nat) (Option.some (Jvm.ClassFile.FieldType.object "java/lang/Object"))).before args0 about1 = true := code_word (m := ⟨10, 2⟩) (meth := k10m2) (c := k10c2) (by decide +kernel) rfl rfl rfl (by decide +kernel)
set_option maxRecDepth 65536 in
theorem w_c14 : (Jvm.Cond.code ({ cls := "java/lang/String", name := "length", desc := "()I" } : Jvm.MethodName) jdk_42_method_54_code (1 : Nat) (Option.some Jvm.ClassFile.FieldType.int)).before args0 about1 = true := code_word (m := ⟨7, 2⟩) (meth := k7m2) (c := k7c2) (by decide +kernel) rfl rfl rfl (by decide +kernel)
set_option maxRecDepth 65536 in
theorem w_c15 : (Jvm.Cond.code ({ cls := "java/lang/String", name := "coder", desc := "()B" } : Jvm.MethodName) jdk_42_method_152_code (1 : Nat) (Option.some Jvm.ClassFile.FieldType.byte)).before args0 about1 = true := code_word (m := ⟨7, 5⟩) (meth := k7m5) (c := k7c5) (by decide +kernel) rfl rfl rfl (by decide +kernel)
set_option maxRecDepth 65536 in
theorem w_c16 : (Jvm.Cond.code ({ cls := "java/lang/String", name := "equals", desc := "(Ljava/lang/Object;)Z" } : Jvm.MethodName) jdk_42_method_66_code (3 : Nat) (Option.some Jvm.ClassFile.FieldType.boolean)).before args0 about1 = true := code_word (m := ⟨7, 3⟩) (meth := k7m3) (c := k7c3) (by decide +kernel) rfl rfl rfl (by decide +kernel)
set_option maxRecDepth 65536 in
theorem w_c17 : (Jvm.Cond.code ({ cls := "com/example/firm_gate/firmgate/TokenDecision", name := "reason", desc := "()Ljava/util/Optional;" } : Jvm.MethodName) prog_13_method_6_code (1 : Nat) (Option.some (Jvm.ClassFile.FieldType.object "java/util/Optional"))).before args0 about1 = true := code_word (m := ⟨8, 4⟩) (meth := k8m4) (c := k8c4) (by decide +kernel) rfl rfl rfl (by decide +kernel)
set_option maxRecDepth 65536 in
theorem w_c18 : (Jvm.Cond.code ({ cls := "java/lang/StringUTF16", name := "compress", desc := "([CII)[B" } : Jvm.MethodName) jdk_52_method_16_code (6 : Nat) (Option.some (Jvm.ClassFile.FieldType.array Jvm.ClassFile.FieldType.byte))).before args0 about1 = true := code_word (m := ⟨11, 7⟩) (meth := k11m7) (c := k11c7) (by decide +kernel) rfl rfl rfl (by decide +kernel)
set_option maxRecDepth 65536 in
theorem w_c19 : (Jvm.Cond.code ({ cls := "java/lang/StringUTF16", name := "compress", desc := "([CI[BII)I" } : Jvm.MethodName) jdk_52_method_21_code (7 : Nat) (Option.some Jvm.ClassFile.FieldType.int)).before args0 about1 = true := code_word (m := ⟨11, 8⟩) (meth := k11m8) (c := k11c8) (by decide +kernel) rfl rfl rfl (by decide +kernel)
set_option maxRecDepth 65536 in
theorem w_c20 : (Jvm.Cond.code ({ cls := "java/lang/StringUTF16", name := "coderFromArrayLen", desc := "([BI)B" } : Jvm.MethodName) jdk_52_method_15_code (2 : Nat) (Option.some Jvm.ClassFile.FieldType.byte)).before args0 about1 = true := code_word (m := ⟨11, 6⟩) (meth := k11m6) (c := k11c6) (by decide +kernel) rfl rfl rfl (by decide +kernel)
set_option maxRecDepth 65536 in
theorem w_c21 : (Jvm.Cond.code ({ cls := "java/lang/StringUTF16", name := "toBytes", desc := "([CII)[B" } : Jvm.MethodName) jdk_52_method_14_code (5 : Nat) (Option.some (Jvm.ClassFile.FieldType.array Jvm.ClassFile.FieldType.byte))).before args0 about1 = true := code_word (m := ⟨11, 5⟩) (meth := k11m5) (c := k11c5) (by decide +kernel) rfl rfl rfl (by decide +kernel)
set_option maxRecDepth 65536 in
theorem w_c22 : (Jvm.Cond.code ({ cls := "java/lang/StringUTF16", name := "newBytesFor", desc := "(I)[B" } : Jvm.MethodName) jdk_52_method_2_code (1 : Nat) (Option.some (Jvm.ClassFile.FieldType.array Jvm.ClassFile.FieldType.byte))).before args0 about1 = true := code_word (m := ⟨11, 1⟩) (meth := k11m1) (c := k11c1) (by decide +kernel) rfl rfl rfl (by decide +kernel)
set_option maxRecDepth 65536 in
theorem w_c23 : (Jvm.Cond.code ({ cls := "java/lang/StringUTF16", name := "newBytesLength", desc := "(I)I" } : Jvm.MethodName) jdk_52_method_3_code (1 : Nat) (Option.some Jvm.ClassFile.FieldType.int)).before args0 about1 = true := code_word (m := ⟨11, 2⟩) (meth := k11m2) (c := k11c2) (by decide +kernel) rfl rfl rfl (by decide +kernel)
set_option maxRecDepth 65536 in
theorem w_c24 : (Jvm.Cond.code ({ cls := "java/lang/StringUTF16", name := "putChar", desc := "([BII)V" } : Jvm.MethodName) jdk_52_method_4_code (3 : Nat) (Option.none : Option Jvm.ClassFile.FieldType)).before args0 about1 = true := code_word (m := ⟨11, 3⟩) (meth := k11m3) (c := k11c3) (by decide +kernel) rfl rfl rfl (by decide +kernel)
set_option maxRecDepth 65536 in
theorem w_c25 : (Jvm.Cond.code ({ cls := "java/lang/StringUTF16", name := "getChar", desc := "([BI)C" } : Jvm.MethodName) jdk_52_method_5_code (2 : Nat) (Option.some Jvm.ClassFile.FieldType.char)).before args0 about1 = true := code_word (m := ⟨11, 4⟩) (meth := k11m4) (c := k11c4) (by decide +kernel) rfl rfl rfl (by decide +kernel)
def codes1 : List Jvm.Cond := [Jvm.Cond.code x code maxLocals ret, Jvm.Cond.code ({ cls := "com/example/firm_gate/firmgate/TokenDecisionAcceptPinLaw", name := "make", desc := "(ICCCC)Ljava/lang/String;" } : Jvm.MethodName) method_2_code (6 : Nat) (Option.some (Jvm.ClassFile.FieldType.object "java/lang/String")), Jvm.Cond.code ({ cls := "java/lang/String", name := "<init>", desc := "([C)V" } : Jvm.MethodName) jdk_42_method_3_code (2 : Nat) (Option.none : Option Jvm.ClassFile.FieldType), Jvm.Cond.code ({ cls := "java/lang/String", name := "<init>", desc := "([CIILjava/lang/Void;)V" } : Jvm.MethodName) jdk_42_method_149_code (6 : Nat) (Option.none : Option Jvm.ClassFile.FieldType), Jvm.Cond.code ({ cls := "java/lang/Object", name := "<init>", desc := "()V" } : Jvm.MethodName) object_method_1_code (1 : Nat) (Option.none : Option Jvm.ClassFile.FieldType), Jvm.Cond.code ({ cls := "com/example/firm_gate/firmgate/TokenDecision", name := "accept", desc := "(Ljava/lang/String;)Lcom/example/firm_gate/firmgate/TokenDecision;" } : Jvm.MethodName) prog_13_method_2_code (1 : Nat) (Option.some (Jvm.ClassFile.FieldType.object "com/example/firm_gate/firmgate/TokenDecision")), Jvm.Cond.code ({ cls := "java/util/Objects", name := "requireNonNull", desc := "(Ljava/lang/Object;)Ljava/lang/Object;" } : Jvm.MethodName) jdk_31_method_10_code (1 : Nat) (Option.some (Jvm.ClassFile.FieldType.object "java/lang/Object")), Jvm.Cond.code ({ cls := "com/example/firm_gate/firmgate/TokenDecision", name := "<init>", desc := "(Ljava/lang/String;Lcom/example/firm_gate/firmgate/RefusalReason;)V" } : Jvm.MethodName) prog_13_method_1_code (3 : Nat) (Option.none : Option Jvm.ClassFile.FieldType), Jvm.Cond.code ({ cls := "com/example/firm_gate/firmgate/TokenDecision", name := "accepted", desc := "()Z" } : Jvm.MethodName) prog_13_method_4_code (1 : Nat) (Option.some Jvm.ClassFile.FieldType.boolean), Jvm.Cond.code ({ cls := "com/example/firm_gate/firmgate/TokenDecision", name := "principal", desc := "()Ljava/util/Optional;" } : Jvm.MethodName) prog_13_method_5_code (1 : Nat) (Option.some (Jvm.ClassFile.FieldType.object "java/util/Optional")), Jvm.Cond.code ({ cls := "java/util/Optional", name := "ofNullable", desc := "(Ljava/lang/Object;)Ljava/util/Optional;" } : Jvm.MethodName) jdk_32_method_4_code (1 : Nat) (Option.some (Jvm.ClassFile.FieldType.object "java/util/Optional")), Jvm.Cond.code ({ cls := "java/util/Optional", name := "<init>", desc := "(Ljava/lang/Object;)V" } : Jvm.MethodName) jdk_32_method_2_code (2 : Nat) (Option.none : Option Jvm.ClassFile.FieldType), Jvm.Cond.code ({ cls := "java/util/Optional", name := "isPresent", desc := "()Z" } : Jvm.MethodName) jdk_32_method_6_code (1 : Nat) (Option.some Jvm.ClassFile.FieldType.boolean), Jvm.Cond.code ({ cls := "java/util/Optional", name := "get", desc := "()Ljava/lang/Object;" } : Jvm.MethodName) jdk_32_method_5_code (1 : Nat) (Option.some (Jvm.ClassFile.FieldType.object "java/lang/Object")), Jvm.Cond.code ({ cls := "java/lang/String", name := "length", desc := "()I" } : Jvm.MethodName) jdk_42_method_54_code (1 : Nat) (Option.some Jvm.ClassFile.FieldType.int), Jvm.Cond.code ({ cls := "java/lang/String", name := "coder", desc := "()B" } : Jvm.MethodName) jdk_42_method_152_code (1 : Nat) (Option.some Jvm.ClassFile.FieldType.byte), Jvm.Cond.code ({ cls := "java/lang/String", name := "equals", desc := "(Ljava/lang/Object;)Z" } : Jvm.MethodName) jdk_42_method_66_code (3 : Nat) (Option.some Jvm.ClassFile.FieldType.boolean), Jvm.Cond.code ({ cls := "com/example/firm_gate/firmgate/TokenDecision", name := "reason", desc := "()Ljava/util/Optional;" } : Jvm.MethodName) prog_13_method_6_code (1 : Nat) (Option.some (Jvm.ClassFile.FieldType.object "java/util/Optional")), Jvm.Cond.code ({ cls := "java/lang/StringUTF16", name := "compress", desc := "([CII)[B" } : Jvm.MethodName) jdk_52_method_16_code (6 : Nat) (Option.some (Jvm.ClassFile.FieldType.array Jvm.ClassFile.FieldType.byte)), Jvm.Cond.code ({ cls := "java/lang/StringUTF16", name := "compress", desc := "([CI[BII)I" } : Jvm.MethodName) jdk_52_method_21_code (7 : Nat) (Option.some Jvm.ClassFile.FieldType.int), Jvm.Cond.code ({ cls := "java/lang/StringUTF16", name := "coderFromArrayLen", desc := "([BI)B" } : Jvm.MethodName) jdk_52_method_15_code (2 : Nat) (Option.some Jvm.ClassFile.FieldType.byte), Jvm.Cond.code ({ cls := "java/lang/StringUTF16", name := "toBytes", desc := "([CII)[B" } : Jvm.MethodName) jdk_52_method_14_code (5 : Nat) (Option.some (Jvm.ClassFile.FieldType.array Jvm.ClassFile.FieldType.byte)), Jvm.Cond.code ({ cls := "java/lang/StringUTF16", name := "newBytesFor", desc := "(I)[B" } : Jvm.MethodName) jdk_52_method_2_code (1 : Nat) (Option.some (Jvm.ClassFile.FieldType.array Jvm.ClassFile.FieldType.byte)), Jvm.Cond.code ({ cls := "java/lang/StringUTF16", name := "newBytesLength", desc := "(I)I" } : Jvm.MethodName) jdk_52_method_3_code (1 : Nat) (Option.some Jvm.ClassFile.FieldType.int), Jvm.Cond.code ({ cls := "java/lang/StringUTF16", name := "putChar", desc := "([BII)V" } : Jvm.MethodName) jdk_52_method_4_code (3 : Nat) (Option.none : Option Jvm.ClassFile.FieldType), Jvm.Cond.code ({ cls := "java/lang/StringUTF16", name := "getChar", desc := "([BI)C" } : Jvm.MethodName) jdk_52_method_5_code (2 : Nat) (Option.some Jvm.ClassFile.FieldType.char)]
set_option maxRecDepth 65536 in
theorem codes_eq : words1.filter isCode = codes1 := rfl
theorem w_codes : ∀ c ∈ words1.filter isCode, c.before args0 about1 = true := by
  rw [codes_eq]
  intro c hc
  simp only [codes1, List.mem_cons, List.not_mem_nil, or_false] at hc
  rcases hc with rfl | rfl | rfl | rfl | rfl | rfl | rfl | rfl | rfl | rfl | rfl | rfl | rfl | rfl | rfl | rfl | rfl | rfl | rfl | rfl | rfl | rfl | rfl | rfl | rfl | rfl
  · exact w_c0
  · exact w_c1
  · exact w_c2
  · exact w_c3
  · exact w_c4
  · exact w_c5
  · exact w_c6
  · exact w_c7
  · exact w_c8
  · exact w_c9
  · exact w_c10
  · exact w_c11
  · exact w_c12
  · exact w_c13
  · exact w_c14
  · exact w_c15
  · exact w_c16
  · exact w_c17
  · exact w_c18
  · exact w_c19
  · exact w_c20
  · exact w_c21
  · exact w_c22
  · exact w_c23
  · exact w_c24
  · exact w_c25
set_option maxRecDepth 65536 in
theorem w_t1 : (words1.take 24).all (fun c => isCode c || c.before args0 about1) = true := by decide +kernel
set_option maxRecDepth 65536 in
theorem w_t2 : ((words1.drop 24).take 24).all (fun c => isCode c || c.before args0 about1) = true := by decide +kernel
set_option maxRecDepth 65536 in
theorem w_t3 : (((words1.drop 24).drop 24).take 24).all (fun c => isCode c || c.before args0 about1) = true := by decide +kernel
set_option maxRecDepth 65536 in
theorem w_t4 : ((((words1.drop 24).drop 24).drop 24).take 24).all (fun c => isCode c || c.before args0 about1) = true := by decide +kernel
set_option maxRecDepth 65536 in
theorem w_t5 : (((((words1.drop 24).drop 24).drop 24).drop 24).take 24).all (fun c => isCode c || c.before args0 about1) = true := by decide +kernel
set_option maxRecDepth 65536 in
theorem w_t6 : (((((words1.drop 24).drop 24).drop 24).drop 24).drop 24).all (fun c => isCode c || c.before args0 about1) = true := by decide +kernel
theorem w_tables : (allAtoms (Jvm.Cond.code x code maxLocals ret :: tables_1)).before args0 about1 = true := by
  rw [allAtoms_all]
  show words1.all (fun c => c.before args0 about1) = true
  refine all_split ?_ w_codes
  rw [← List.take_append_drop 24 words1, List.all_append, w_t1, ← List.take_append_drop 24 (words1.drop 24), List.all_append, w_t2, ← List.take_append_drop 24 ((words1.drop 24).drop 24), List.all_append, w_t3, ← List.take_append_drop 24 (((words1.drop 24).drop 24).drop 24), List.all_append, w_t4, ← List.take_append_drop 24 ((((words1.drop 24).drop 24).drop 24).drop 24), List.all_append, w_t5, w_t6]
  rfl
set_option maxRecDepth 65536 in
theorem w_rest : rest_1_c.before args0 about1 = true := by decide +kernel
set_option maxRecDepth 65536 in
theorem w_case : (Jvm.Cond.and given_1 narrow_1).before args0 about1 = true := by decide +kernel
set_option maxRecDepth 65536 in
theorem w_consts : constsHeld consts_1 about1 := Jvm.Lit.constsHeldB_iff.mp (by decide +kernel)
theorem w_applies : (headSpec (Jvm.Cond.code x code maxLocals ret :: tables_1) room_1).applies x e0.platform about1 = true :=
  (Spec.applies_iff w_frames).mpr ⟨w_running, w_runnable, w_alone, w_named, w_hears, w_ripe, w_room, w_tables⟩
theorem atStart : AtStart classFile x code maxLocals ret World_1 tables_1 room_1 Calls_1 rest_1 Pre_1 launch0 p0 e0 about1 theMethod args0 below0 :=
  ⟨lists_1, trivial, launch0.admits_env _ _ _, launch0.least_env, fairChoices_fair.cas, fairChoices_fair.clock, w_frames, w_args, w_heap, w_applies, ⟨w_consts, trivial⟩, w_rest, w_case⟩
end start1
theorem witness_1 : WitnessClaimed_1 := ⟨start1.p0, start1.e0, start1.about1, start1.theMethod, start1.args0, start1.below0, start1.atStart⟩
end Jvm.Pilot.@@N@@
