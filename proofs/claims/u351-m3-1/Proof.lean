import JvmDerived
import JvmDerived.Pilot.@@N@@Statement
import JvmDerived.Pilot.@@N@@Code
set_option linter.unusedVariables false
set_option linter.unusedSimpArgs false
namespace Jvm.Pilot.@@N@@
open Jvm Jvm.ClassFile Sem Op Lib Jvm.Free Jvm.Stand Jvm.LawKit Jvm.RoadKit Bundle Jvm.Pilot.@@N@@.Jvm.D
/-! own: the run from A ends well -/
def Go (tb : Tables) (e : Env) (below : List Frame) (A : State) (P : State → Outcome → Prop) : Prop := ∃ t o, Steps tb e below A t ∧ P t o
abbrev un : Slot := .unset
abbrev sT (p : Program) (e : Env) (b : List Frame) (T : State) (F : JFrame) (t : State) : Prop := Steps p.tables e b (T.setTop F) t
theorem own_w {a0 : Array Value} {Z : State} (hw : ∀ d ∈ tables_1, d.before a0 Z = true) (i : Nat) {d : Jvm.Cond} (h : tables_1[i]? = some d) : d.before a0 Z = true := hw d (List.mem_of_getElem? h)
theorem own_on {tb : Tables} {e : Env} {below : List Frame} {A B : State} {P : State → Outcome → Prop} (k : ∀ t, Steps tb e below B t → Steps tb e below A t) (h : Go tb e below B P) : Go tb e below A P := by
  obtain ⟨t, o, h1, h2⟩ := h
  exact ⟨t, o, k t h1, h2⟩
theorem own_of {tb : Tables} {e : Env} {below : List Frame} {A : State} {P : State → Outcome → Prop} (h : Go tb e below A P) : ∃ t o, Steps tb e below A t ∧ P t o := h
theorem own_old {Z : State} {n0 : Nat} {h : Heap} (O : Old Z n0 h) : n0 ≤ h.size := O.1 ▸ O.2.1
theorem own_retV {p : Program} {l : Launch} {e : Env} {R : Room} {s : State} {m : MethodId} {args : Array Value} {below : List Frame} {meth : Method} {c : Code} {T : State} {locs : List Loc} {cells slots : Nat}
    (X : Stand p l e R s m args below meth c T locs cells slots) (hx : p.tables.exec = Jvm.exec) {pc : Nat} {Ls : Array Slot} {w : Value} {t : FieldType} {rest : List Value} (hret : meth.sig.returnType = some t) (ht : t.isReference = true) (hw : w.isRef = true) (hd : decode c.code pc = .ok (.areturn, 1)) {fs : List Frame}
    (hl : ∀ (f : JFrame) (acts : List Action), f.method = m → f.locked = none → f.entered = [] → (doReturn e (T.setTop f) acts (some w)).1 = T.setFrames fs) : Steps p.tables e below (T.setTop (mkF m pc Ls (w :: rest))) (T.setFrames fs) :=
  retOut X hx hret (by cases t <;> first | (simp [FieldType.isReference] at ht; done) | (cases w <;> first | rfl | (simp [Value.isRef] at hw))) (Or.inr (Or.inr (Or.inr (Or.inr ⟨rfl, ht, hw⟩)))) hd hl
theorem own_retI {p : Program} {l : Launch} {e : Env} {R : Room} {s : State} {m : MethodId} {args : Array Value} {below : List Frame} {meth : Method} {c : Code} {T : State} {locs : List Loc} {cells slots : Nat}
    (X : Stand p l e R s m args below meth c T locs cells slots) (hx : p.tables.exec = Jvm.exec) {pc : Nat} {Ls : Array Slot} {z : Int32} {rest : List Value} (hret : meth.sig.returnType = some .int) (hd : decode c.code pc = .ok (.ireturn, 1)) {fs : List Frame}
    (hl : ∀ (f : JFrame) (acts : List Action), f.method = m → f.locked = none → f.entered = [] → (doReturn e (T.setTop f) acts (some (.int z))).1 = T.setFrames fs) : Steps p.tables e below (T.setTop (mkF m pc Ls (.int z :: rest))) (T.setFrames fs) :=
  retOut X hx hret rfl (Or.inl ⟨rfl, Or.inl rfl, z, rfl⟩) hd hl
theorem own_retN {p : Program} {l : Launch} {e : Env} {R : Room} {s : State} {m : MethodId} {args : Array Value} {below : List Frame} {meth : Method} {c : Code} {T : State} {locs : List Loc} {cells slots : Nat}
    (X : Stand p l e R s m args below meth c T locs cells slots) (hx : p.tables.exec = Jvm.exec) {pc : Nat} {Ls : Array Slot} {z : Int32} {t : FieldType} {rest : List Value} (hret : meth.sig.returnType = some t) (ht : t = .boolean ∨ t = .byte ∨ t = .char ∨ t = .short) (hz : nar t z = z) (hd : decode c.code pc = .ok (.ireturn, 1)) {fs : List Frame}
    (hl : ∀ (f : JFrame) (acts : List Action), f.method = m → f.locked = none → f.entered = [] → (doReturn e (T.setTop f) acts (some (.int z))).1 = T.setFrames fs) : Steps p.tables e below (T.setTop (mkF m pc Ls (.int z :: rest))) (T.setFrames fs) :=
  retN X hx hret ht hd (by rw [hz]; exact hl)
theorem own_retD {p : Program} {l : Launch} {e : Env} {R : Room} {s : State} {m : MethodId} {args : Array Value} {below : List Frame} {meth : Method} {c : Code} {T : State} {locs : List Loc} {cells slots : Nat}
    (X : Stand p l e R s m args below meth c T locs cells slots) (hx : p.tables.exec = Jvm.exec) {pc : Nat} {Ls : Array Slot} {z : UInt64} {rest : List Value} (hret : meth.sig.returnType = some .double) (hd : decode c.code pc = .ok (.dreturn, 1)) {fs : List Frame}
    (hl : ∀ (f : JFrame) (acts : List Action), f.method = m → f.locked = none → f.entered = [] → (doReturn e (T.setTop f) acts (some (.double z))).1 = T.setFrames fs) : Steps p.tables e below (T.setTop (mkF m pc Ls (.double z :: rest))) (T.setFrames fs) :=
  retOut X hx hret rfl (Or.inr (Or.inr (Or.inl ⟨rfl, rfl, z, rfl⟩))) hd hl
theorem own_retJ {p : Program} {l : Launch} {e : Env} {R : Room} {s : State} {m : MethodId} {args : Array Value} {below : List Frame} {meth : Method} {c : Code} {T : State} {locs : List Loc} {cells slots : Nat}
    (X : Stand p l e R s m args below meth c T locs cells slots) (hx : p.tables.exec = Jvm.exec) {pc : Nat} {Ls : Array Slot} {z : Int64} {rest : List Value} (hret : meth.sig.returnType = some .long) (hd : decode c.code pc = .ok (.lreturn, 1)) {fs : List Frame}
    (hl : ∀ (f : JFrame) (acts : List Action), f.method = m → f.locked = none → f.entered = [] → (doReturn e (T.setTop f) acts (some (.long z))).1 = T.setFrames fs) : Steps p.tables e below (T.setTop (mkF m pc Ls (.long z :: rest))) (T.setFrames fs) :=
  retOut X hx hret rfl (Or.inr (Or.inl ⟨rfl, rfl, z, rfl⟩)) hd hl
theorem own_fldI {Z : State} {args : Array Value} {t : Term} {x : Addr} {C n d : String} {k : Int32} (ev : t.eval args Z none [] Z = some (.ref x)) (h : (Cond.eq (.field t C n d) (.int k)).value args Z none Z [] = some true) : Fld Z Z.heap x C n d (.int k) := by
  refine Fld.start ?_
  cases hf : Z.fieldOf? x C n d with
  | none => simp [Cond.value, Term.eval, ev, hf] at h
  | some v => cases v <;> simp [Cond.value, Term.eval, ev, hf] at h; subst h; rfl
theorem own_nar {t : FieldType} {v : Value} (h : v.isRef = true) : narrow t v = v := by rcases ref_cases h with rfl | ⟨r, rfl⟩ <;> cases t <;> rfl
theorem own_fit {t : FieldType} {v : Value} (h : v.isRef = true) (ht : t.isReference = true := by rfl) : fits t v = true := by rcases ref_cases h with rfl | ⟨r, rfl⟩ <;> cases t <;> first | rfl | (simp [FieldType.isReference] at ht)
theorem own_st {l l' : Array Slot} {i : Nat} {v : Value} {o : Slot} (hold : l[i]? = some o) (ho : o = .unset ∨ ∃ w, o = .val w ∧ w.category = 1) (hv : v.category = 1) (e : l.setIfInBounds i (.val v) = l' := by rfl) : storeLocals l i v = some l' := e ▸ Jvm.Free.XS.store1 hold ho hv
theorem own_lremM {p : Program} {l : Launch} {e : Env} {R : Room} {s : State} {m : MethodId} {args : Array Value} {below : List Frame} {meth : Method} {c : Code} {T : State} {locs : List Loc} {cells slots : Nat} {g : JFrame} {target : State}
    (X : Stand p l e R s m args below meth c T locs cells slots) (hx : p.tables.exec = Jvm.exec) (hg : g.method = m) {x y : Int64} {rest : List Value} (hd : decode c.code g.pc = .ok (.lrem, 1)) (hs : g.stack = .long y :: .long x :: rest) (hy : y ≠ 0)
    (hr : Steps p.tables e below (T.setTop { g with pc := g.pc + 1, stack := .long (x % y) :: rest }) target) : Steps p.tables e below (T.setTop g) target :=
  Jvm.Free.XT.lrem X.here hx hg hd hs hy (by rw [lrem_mod]; exact hr)
/-! own: an array of a known length, whatever it holds -/
def OwnArz (Z : State) (h : Heap) (a : Addr) (ty : FieldType) (n : Int32) : Prop := ∃ c : Cell, Arr Z h a c ty ∧ c.slots.size = n.toNatClampNeg ∧ ¬ n < 0
theorem OwnArz.of {Z : State} {h : Heap} {a : Addr} {k : ClassId} {ty : FieldType} {n : Int32} {vs : List Value} {d : Value} (F : Arv Z h a k ty n vs d) : OwnArz Z h a ty n := by obtain ⟨c, A, -, S, M, -⟩ := F; exact ⟨c, A, S, M⟩
theorem OwnArz.lt {Z : State} {h : Heap} {a : Addr} {ty : FieldType} {n : Int32} (F : OwnArz Z h a ty n) : a < h.size := by obtain ⟨c, A, -⟩ := F; exact A.lt
theorem OwnArz.ext {Z : State} {h h' : Heap} {a : Addr} {ty : FieldType} {n : Int32} (F : OwnArz Z h a ty n) (E : Ext h h') : OwnArz Z h' a ty n := by obtain ⟨c, A, r⟩ := F; exact ⟨c, A.ext E, r⟩
theorem OwnArz.other {Z : State} {h h' : Heap} {a b : Addr} {sl : Nat} {v : Value} {ty : FieldType} {n : Int32} (F : OwnArz Z h b ty n) (W : Wr h h' a sl v) (q : b ≠ a) : OwnArz Z h' b ty n := by obtain ⟨c, A, r⟩ := F; exact ⟨c, A.other W q, r⟩
theorem OwnArz.keep {Z : State} {h h' : Heap} {a : Addr} {ws : List Addr} {ty : FieldType} {n : Int32} (F : OwnArz Z h a ty n) (K : Keep h h' ws) (q : a ∉ ws) : OwnArz Z h' a ty n := by obtain ⟨c, A, r⟩ := F; exact ⟨c, ⟨K.2.1 a c A.1 q, A.2⟩, r⟩
theorem OwnArz.set {Z : State} {h h' : Heap} {a : Addr} {sl : Nat} {v : Value} {ty : FieldType} {n : Int32} {c : Cell} (A : Arr Z h a c ty) (S : c.slots.size = n.toNatClampNeg) (M : ¬ n < 0) (W : Wr h h' a sl v) : OwnArz Z h' a ty n := ⟨_, A.same W, by rw [sz_set]; exact S, M⟩
theorem own_fldN {Z : State} {args : Array Value} {t : Term} {x : Addr} {C n d : String} (ev : t.eval args Z none [] Z = some (.ref x)) (h : (Cond.eq (.field t C n d) .null).value args Z none Z [] = some true) : Fld Z Z.heap x C n d .null :=
  Fld.start ((fld_at ev).symm.trans (null_v h))
theorem own_backI {p : Program} {l : Launch} {e : Env} {R : Room} {s : State} {args : Array Value} {below : List Frame} {Z : State} {a0 : Array Value} {h : Heap} {y : MethodName} {bytes : ByteArray} {maxL : Nat} {ret : Option FieldType} {rm : Room} {len W : Nat} {as' : Array Value} {Q : Option Value → Heap → List Loc → Prop}
    (hI : s.vm.interned = Z.vm.interned) (hM : MetFree l y (head1 [Cond.code y bytes maxL ret] rm) (fun a U => a = as' ∧ Z.Warmed39 U.vm ∧ U.heap = h ∧ U.vm.interned = Z.vm.interned) (fun _ _ _ _ _ => True) (fun _ U o U' => ∃ v L, o = .returned v ∧ Q v U'.heap L ∧ ReturnedEndW U o U' L rm.cells rm.slots))
    (hZ : Z.Warmed39 s.vm) (wc : (Cond.code y bytes maxL ret).before a0 Z = true) (wz : (Cond.initialized y.cls).before a0 Z = true) (hf : rm.frames + 1 ≤ R.frames) (hl : W + (maxL + 11) + rm.locals ≤ R.locals) :
    BackS l R p e below s args y len W (fun A a => a = as' ∧ A.U.heap = h ∧ A.cells + rm.cells ≤ R.cells ∧ A.slots + rm.slots ≤ R.slots)
      (fun A _ v B => ∃ L, Q v B.U.heap L ∧ B.locs = A.locs ++ L ∧ B.cells = A.cells + rm.cells ∧ B.slots = A.slots + rm.slots) :=
  BackS.of_freeW (bytes := bytes) (maxL := maxL) (ret := ret) (E := fun _ _ o t L k n => k = rm.cells ∧ n = rm.slots ∧ ∃ v, o = .returned v ∧ Q v t.heap L) hM hf hl
    (fun m meth c A a Y hp => have hU : Z.Warmed39 A.U.vm := wtrans hZ Y.warmed
      ⟨by show (Cond.and _ .tt).before a A.U = true; rw [Cond.before_and, mv hU wc]; rfl, mv hU wc, mv hU wz, hp.2.2.1, hp.2.2.2⟩)
    (fun m meth c A a g mk Y hp => ⟨hp.1, wtrans hZ Y.warmed, hp.2.1, (Y.warmed.interned_eq).trans hI⟩) (fun _ _ _ _ _ _ _ _ _ => trivial)
    (fun _ _ _ _ ⟨v, L, h1, h2, h3⟩ => ⟨L, _, _, h3, rfl, rfl, v, h1, h2⟩)
    (fun m meth c A a g mk v t L k n Y hp _ _ ⟨e1, e2, v', e3, e4⟩ => by cases e3; subst e1 e2; exact ⟨L, e4, rfl, rfl, rfl⟩)
theorem own_evI {args : Array Value} {Z : State} {t : Term} {k : Int32} (h : (Cond.eq t (.int k)).value args Z none Z [] = some true) : t.eval args Z none [] Z = some (.int k) := by
  have e2 : (Term.int k).eval args Z none [] Z = some (.int k) := rfl
  cases ht : t.eval args Z none [] Z with
  | none => simp [Cond.value, ht] at h
  | some v => cases v <;> simp [Cond.value, ht, e2] at h; subst h; rfl
theorem own_evN {args : Array Value} {Z : State} {t : Term} {k x : Int32} (ev : t.eval args Z none [] Z = some (.int x)) (h : (Cond.not (.eq t (.int k))).value args Z none Z [] = some true) : ¬ x = k := by
  have e2 : (Term.int k).eval args Z none [] Z = some (.int k) := rfl
  have q := not_v h
  simp only [Cond.value, ev, e2] at q
  simpa using q
def rebS' (s T : State) : State := { s with vm := T.vm, heap := T.heap, slotsUsed := T.slotsUsed }
theorem own_reb {p : Program} {l : Launch} {e : Env} {R : Room} {s : State} {m : MethodId} {args : Array Value} {below : List Frame} {meth : Method} {c : Code} {T : State} {locs : List Loc} {cells slots : Nat}
    (X : Stand p l e R s m args below meth c T locs cells slots) {ck cs : Nat} (hc : cells + ck ≤ R.cells) (hs : slots + cs ≤ R.slots) :
    Stand p l e { R with cells := ck, slots := cs } (rebS' s T) m args below meth c T [] 0 0 := by
  have Y : Stand p l e R (s.setVm T.vm) m args below meth c T locs cells slots := X.retabled X.warmed.wide
  refine ⟨Y.admits, Y.cas, Y.clock, Y.frames, ?_, Y.hears, Y.method, Y.code, Y.here, Y.tail, State.WarmedH.refl _, Y.limits, Y.bytes, ?_⟩
  · have h := Y.room
    have h1 := X.cellsAbove hc
    have h2 := X.slotsAbove hs
    have h3 := X.book
    simp only [State.hasRoom, Bool.and_eq_true, decide_eq_true_eq] at h ⊢
    exact ⟨⟨⟨h.1.1.1, h1⟩, h2⟩, h3⟩
  · refine ⟨?_, Nat.le_refl _, Nat.le_refl _, ?_, ?_, fun a c h => ⟨c, h, rfl, rfl, fun _ _ => rfl⟩⟩
    · have q := congrArg (fun z => z.setVm T.vm) X.same.1
      exact q
    · show T.slotsUsed = T.slotsUsed + ((T.heap.toList.drop T.heap.size).map _).sum
      rw [List.drop_eq_nil_of_le (by simp)]; simp
    · show ((T.heap.toList.drop T.heap.size).map _).sum ≤ 0
      rw [List.drop_eq_nil_of_le (by simp)]; simp
theorem own_unreb {p : Program} {l : Launch} {e : Env} {R R' : Room} {s : State} {m : MethodId} {args : Array Value} {below : List Frame} {meth : Method} {c : Code} {T T' : State} {locs : List Loc} {cells slots ck cs : Nat}
    (X : Stand p l e R s m args below meth c T locs cells slots) (X' : Stand p l e R' ((rebS' s T).setVm T'.vm) m args below meth c T' [] ck cs) (hW : s.Warmed39 T'.vm) :
    Stand p l e R (s.setVm T'.vm) m args below meth c T' locs (cells + ck) (slots + cs) := by
  have Y := X.retabled hW
  have q := Y.moved (T₂ := T') (l₂ := []) (c₂ := ck) (n₂ := cs) X'.here X'.tail (X'.limits.trans X.limits.symm) (X'.bytes.trans X.bytes.symm) (State.WarmedH.refl _) ?_
  · rw [List.append_nil] at q; exact q
  · obtain ⟨h1, h2⟩ := X'.same
    refine ⟨?_, h2⟩
    have e1 : (T.setVm T'.vm).setFrames T'.frames = { ((rebS' s T).setVm T'.vm).setFrames T'.frames with heap := T.heap, slotsUsed := T.slotsUsed } := by
      have q := congrArg (fun z => (z.setVm T'.vm).setFrames T'.frames) X.same.1
      refine q.trans ?_
      show ({ (s.setFrames (T.setVm s.vm).frames).setFrames T'.frames with vm := T'.vm, heap := T.heap, slotsUsed := T.slotsUsed } : State) = _
      rw [State.setFrames_setFrames]
      rfl
    refine (show T'.setVm (T.setVm T'.vm).vm = _ from h1).trans ?_
    show _ = ({ (T.setVm T'.vm).setFrames T'.frames with heap := T'.heap, slotsUsed := T'.slotsUsed } : State)
    rw [e1]
    rfl
theorem own_ldcT {p : Program} {l : Launch} {e : Env} {R : Room} {s : State} {m : MethodId} {args : Array Value} {below : List Frame} {meth : Method} {c : Code} {T : State} {locs : List Loc} {cells slots : Nat} {Z : State} {a0 : Array Value} {h : Heap} {vm0 : Vm} {Ts : List String} {own text : String} {index : Nat}
    (X : Stand p l e R (s.setVm vm0) m args below meth c T locs cells slots) (hx : p.tables.exec = Jvm.exec) (hZ : Z.Warmed39 vm0) (hown : vm0.findClass own = some m.cls) (w : (Cond.stringLink own index text).before a0 Z = true) (wS : ∀ a ∈ Bundle.stringAtoms, a.before a0 Z = true)
    (eT : T.heap = h) {k0 : Nat} (hS : s.Since vm0 k0) (hk : k0 ≤ h.size) (hkeep : ∀ (b : Addr) (cl : Cell), Z.heap[b]? = some cl → h[b]? = some cl) (I : IB Z vm0 Ts) (hnot : text ∉ Ts) (hh : Jvm.Lit.constHeld Z own index) (hcw : Jvm.Lit.compactW.before a0 Z = true)
    {vs : List Value} {z : Int32} (ht : (∀ c ∈ text.toList, c.toNat < 256) ∧ text.toList.map (fun c => Value.int (Jvm.Lit.byteI c.toNat.toUInt16)) = vs) (hz : ¬ z < 0) (hl : z.toNatClampNeg = vs.length)
    {g : JFrame} (hg : g.method = m) (hd : decode c.code g.pc = .ok (.ldc index, 2)) {n : Nat} (hn : 4 * text.toList.length ≤ n) (hbig : n ≤ 536870912) (hc : cells + 2 ≤ R.cells) (hl' : slots + (n + 4) ≤ R.slots) :
    ∃ (a : Addr) (T' : State) (h' : Heap) (k1 : Nat) (b : Addr) (k : ClassId), Stand p l e R (s.setVm T'.vm) m args below meth c T' locs (cells + 2) (slots + (n + 4)) ∧ T'.heap = h' ∧ Ext h h' ∧ s.Since T'.vm k1 ∧ k1 ≤ h'.size ∧ Z.Warmed39 (s.setVm T'.vm).vm ∧ (s.setVm T'.vm).vm.findClass own = some m.cls ∧
      Exa Z h' a "java/lang/String" ∧ Fld Z h' a "java/lang/String" "coder" "B" (.int 0) ∧ Fld Z h' a "java/lang/String" "value" "[B" (.ref b) ∧ Arv Z h' b k .byte z vs (.int 0) ∧ a < h'.size ∧ b < h'.size ∧ IB Z T'.vm (text :: Ts) ∧ Lit (s.setVm T'.vm) own index a ∧
      ∀ target, Steps p.tables e below (T'.setTop { g with pc := g.pc + 2, stack := .ref a :: g.stack }) target → Steps p.tables e below (T.setTop g) target := by
  subst eT
  have hint : T.vm.interned = vm0.interned := X.warmed.interned_eq
  have hZT : Z.Warmed39 T.vm := wtrans (s := s.setVm vm0) hZ X.warmed
  have X1 : Stand p l e { R with cells := 2, slots := n + 4 } ((rebS' (s.setVm vm0) T).setVm T.vm) m args below meth c T [] 0 0 := own_reb X hc hl'
  have hownT : T.vm.findClass own = some m.cls := by rw [X.warmed.alike.findClass]; exact hown
  obtain ⟨a, T', h', k1, b, k, X2, e2, E, hS2, hk1, hZ2, hown2, q1, q2, q3, q4, q5, q6, q7, q8, st⟩ := ldcSVL X1 hx hZT hownT w wS rfl (k0 := 0) (State.WarmedH.since (State.WarmedH.refl (rebS' (s.setVm vm0) T)) 0) (Nat.zero_le _) (Fr.nil _) hkeep (by obtain ⟨mo, i1, i2⟩ := I; exact ⟨mo, by rw [hint]; exact i1, i2⟩) hnot hh hcw ht hz hl hg hd hn hbig (Nat.le_refl _) (by show 0 + (n + 4) ≤ n + 4; omega)
  have hW1 : (s.setVm vm0).Warmed39 T'.vm := State.Warmed39.trans (t := rebS' (s.setVm vm0) T) X.warmed.wide hS2.1
  have X3 := own_unreb X X2 hW1
  refine ⟨a, T', h', h'.size, b, k, ?_, e2, E, ?_, Nat.le_refl _, hZ2, hown2, q1, q2, q3, q4, q5, q6, q7, ?_, st⟩
  · have e0 : 0 + 2 = 2 := rfl
    have e1 : 0 + (n + 4) = n + 4 := Nat.zero_add _
    rw [e1] at X3
    exact X3
  · refine State.Since.trans (s := s) hS (vm₂ := T'.vm) ⟨hW1, ?_⟩ (Nat.le_trans hk E.1)
    intro j q hj hq
    have hj' : T.vm.interned.size ≤ j := by rw [hint]; exact hj
    obtain ⟨z1, z2⟩ := hS2.2 j q hj' hq
    exact ⟨Nat.le_trans X.same.2.1 z1, Nat.lt_of_lt_of_le z2 hk1⟩
  · exact q8
def OwnJ (Z : State) (Ts : List String) (Ls : List (String × Nat × Addr)) (vm : Vm) : Prop := IB Z vm Ts ∧ ∀ x ∈ Ls, Lit (Z.setVm vm) x.1 x.2.1 x.2.2
theorem OwnJ.warm {Z : State} {Ts : List String} {Ls : List (String × Nat × Addr)} {s : State} (h : OwnJ Z Ts Ls s.vm) : ∀ vm', s.WarmedH vm' → OwnJ Z Ts Ls vm' := by
  intro vm' hw
  obtain ⟨⟨mo, h1, h2⟩, h3⟩ := h
  exact ⟨⟨mo, hw.interned_eq.trans h1, h2⟩, fun x hx => Lit.stays (s := s) (vm0 := s.vm) (h3 x hx) hw.wide⟩
theorem OwnJ.sub {Z : State} {Ts : List String} {Ls : List (String × Nat × Addr)} {vm : Vm} (h : OwnJ Z Ts Ls vm) : OwnJ Z Ts [] vm := ⟨h.1, fun x hx => by simp at hx⟩
theorem OwnJ.start (s : State) : OwnJ s [] [] s.vm := ⟨IB.start, fun x hx => by simp at hx⟩
theorem OwnJ.lit {Z s : State} {Ts : List String} {o : String} {i : Nat} {a : Addr} {vm : Vm} (h : IB Z vm Ts) (h2 : Lit (s.setVm vm) o i a) : OwnJ Z Ts [(o, i, a)] vm := ⟨h, fun x hx => by simp only [List.mem_singleton] at hx; subst hx; exact h2⟩
theorem OwnJ.one {Z s : State} {Ts : List String} {o : String} {i : Nat} {a : Addr} {vm : Vm} (h : OwnJ Z Ts [(o, i, a)] vm) : Lit (s.setVm vm) o i a := h.2 (o, i, a) (by simp)
theorem own_backJ {p : Program} {l : Launch} {e : Env} {R : Room} {s : State} {args : Array Value} {below : List Frame} {Z : State} {a0 : Array Value} {h : Heap} {y : MethodName} {bytes : ByteArray} {maxL : Nat} {ret : Option FieldType} {rm : Room} {len W : Nat} {as' : Array Value} {J : Vm → Prop} {Q : Option Value → Heap → List Loc → Vm → Prop}
    (hJ : ∀ vm', s.WarmedH vm' → J vm') (hM : MetFree l y (head1 [Cond.code y bytes maxL ret] rm) (fun a U => a = as' ∧ Z.Warmed39 U.vm ∧ U.heap = h ∧ J U.vm) (fun _ _ _ _ _ => True) (fun _ U o U' => ∃ v L, o = .returned v ∧ Q v U'.heap L U'.vm ∧ ReturnedEndW U o U' L rm.cells rm.slots))
    (hZ : Z.Warmed39 s.vm) (wc : (Cond.code y bytes maxL ret).before a0 Z = true) (wz : (Cond.initialized y.cls).before a0 Z = true) (hf : rm.frames + 1 ≤ R.frames) (hl : W + (maxL + 11) + rm.locals ≤ R.locals) :
    BackS l R p e below s args y len W (fun A a => a = as' ∧ A.U.heap = h ∧ A.cells + rm.cells ≤ R.cells ∧ A.slots + rm.slots ≤ R.slots)
      (fun A _ v B => ∃ L, Q v B.U.heap L B.U.vm ∧ B.locs = A.locs ++ L ∧ B.cells = A.cells + rm.cells ∧ B.slots = A.slots + rm.slots) :=
  BackS.of_freeW (bytes := bytes) (maxL := maxL) (ret := ret) (E := fun _ _ o t L k n => k = rm.cells ∧ n = rm.slots ∧ ∃ v, o = .returned v ∧ Q v t.heap L t.vm) hM hf hl
    (fun m meth c A a Y hp => have hU : Z.Warmed39 A.U.vm := wtrans hZ Y.warmed
      ⟨by show (Cond.and _ .tt).before a A.U = true; rw [Cond.before_and, mv hU wc]; rfl, mv hU wc, mv hU wz, hp.2.2.1, hp.2.2.2⟩)
    (fun m meth c A a g mk Y hp => ⟨hp.1, wtrans hZ Y.warmed, hp.2.1, hJ _ Y.warmed⟩) (fun _ _ _ _ _ _ _ _ _ => trivial)
    (fun _ _ _ _ ⟨v, L, h1, h2, h3⟩ => ⟨L, _, _, h3, rfl, rfl, v, h1, h2⟩)
    (fun m meth c A a g mk v t L k n Y hp _ _ ⟨e1, e2, v', e3, e4⟩ => by cases e3; subst e1 e2; exact ⟨L, e4, rfl, rfl, rfl⟩)
theorem own_backK {p : Program} {l : Launch} {e : Env} {R : Room} {s : State} {args : Array Value} {below : List Frame} {Z : State} {a0 : Array Value} {h : Heap} {y : MethodName} {bytes : ByteArray} {maxL : Nat} {ret : Option FieldType} {rm : Room} {len W : Nat} {as' : Array Value} {J : Vm → Prop} {Q : Option Value → Heap → List Loc → Prop}
    (hJ : ∀ vm', s.WarmedH vm' → J vm') (hM : MetFree l y (head1 [Cond.code y bytes maxL ret] rm) (fun a U => a = as' ∧ Z.Warmed39 U.vm ∧ U.heap = h ∧ J U.vm) (fun _ _ _ _ _ => True) (fun _ U o U' => ∃ v L, o = .returned v ∧ Q v U'.heap L ∧ ReturnedEndW U o U' L rm.cells rm.slots))
    (hZ : Z.Warmed39 s.vm) (wc : (Cond.code y bytes maxL ret).before a0 Z = true) (wz : (Cond.initialized y.cls).before a0 Z = true) (hf : rm.frames + 1 ≤ R.frames) (hl : W + (maxL + 11) + rm.locals ≤ R.locals) :
    BackS l R p e below s args y len W (fun A a => a = as' ∧ A.U.heap = h ∧ A.cells + rm.cells ≤ R.cells ∧ A.slots + rm.slots ≤ R.slots)
      (fun A _ v B => ∃ L, Q v B.U.heap L ∧ B.locs = A.locs ++ L ∧ B.cells = A.cells + rm.cells ∧ B.slots = A.slots + rm.slots) :=
  own_backJ (Q := fun v h L _ => Q v h L) hJ hM hZ wc wz hf hl
theorem own_arvne {Z : State} {h : Heap} {a b : Addr} {k k' : ClassId} {ty ty' : FieldType} {n n' : Int32} {vs vs' : List Value} {d d' : Value} (A : Arv Z h a k ty n vs d) (B : Arv Z h b k' ty' n' vs' d') (q : n.toNatClampNeg ≠ n'.toNatClampNeg) : a ≠ b := by
  rintro rfl
  obtain ⟨c, A1, -, A2, -⟩ := A
  obtain ⟨c', B1, -, B2, -⟩ := B
  cases A1.1.symm.trans B1.1
  exact q (A2.symm.trans B2)
theorem own_pn_java_lang_StringUTF16 : plainName "java/lang/StringUTF16" = true := by first | (simp [plainName, overriddenIn]; done) | decide +kernel
theorem own_ef_11a (m : MethodId) (x0 : Addr) (x1 : Int32) : entryFrame m #[(.ref x0), (.int x1)] 2 = mkF m 0 #[rv x0, iv x1] [] := by first | (simp [entryFrame, mkF, argsToLocals, Value.category]; done) | rfl
def Q11a (Z : State) (u0 : Addr) (kb : ClassId) (x0 : Int32) (h0 : Heap) (n0 : Nat) (v : Option Value) (h : Heap) (L : List Loc) : Prop := v = some (.int 0) ∧ Fr n0 L ∧ h = h0
theorem own_d11_0 : decode jdk_52_method_15_code 0 = .ok (.iload_n 1, 1) := by decide +kernel
theorem own_d11_1 : decode jdk_52_method_15_code 1 = .ok (.aload_n 0, 1) := by decide +kernel
theorem own_d11_2 : decode jdk_52_method_15_code 2 = .ok (.arraylength, 1) := by decide +kernel
theorem own_d11_3 : decode jdk_52_method_15_code 3 = .ok (.isub, 1) := by decide +kernel
theorem own_d11_4 : decode jdk_52_method_15_code 4 = .ok (.bipush 31, 2) := by decide +kernel
theorem own_d11_6 : decode jdk_52_method_15_code 6 = .ok (.iushr, 1) := by decide +kernel
theorem own_d11_7 : decode jdk_52_method_15_code 7 = .ok (.i2b, 1) := by decide +kernel
theorem own_d11_8 : decode jdk_52_method_15_code 8 = .ok (.ireturn, 1) := by decide +kernel
set_option maxRecDepth 65536 in
set_option maxHeartbeats 40000000 in
theorem rm11a (l : Launch) (Z : State) (a0 : Array Value) (hw : ∀ d ∈ tables_1, d.before a0 Z = true) (ws : List Jvm.Cond) (u0 : Addr) (kb : ClassId) (x0 : Int32) (h0 : Heap) (n0 : Nat) (O0 : Old Z n0 h0) (Va : Arv Z h0 u0 kb .byte (1 : Int32) [(.int x0)] (.int 0)) :
    MetFree l (⟨"java/lang/StringUTF16", "coderFromArrayLen", "([BI)B"⟩ : MethodName) (head1 (Jvm.Cond.code (⟨"java/lang/StringUTF16", "coderFromArrayLen", "([BI)B"⟩ : MethodName) jdk_52_method_15_code 2 (some .byte) :: ws) ({ frames := 0, cells := 0, slots := 0, locals := 0 } : Room)) (fun a U => a = #[(.ref u0), (.int (1 : Int32))] ∧ Z.Warmed39 U.vm ∧ U.heap = h0) (fun _ _ _ _ _ => True) (fun _ U o U' => ∃ v L, o = .returned v ∧ Q11a Z u0 kb x0 h0 n0 v U'.heap L ∧ FrameEnd U o U' L ({ frames := 0, cells := 0, slots := 0, locals := 0 } : Room).cells ({ frames := 0, cells := 0, slots := 0, locals := 0 } : Room).slots) := by
  refine MetFree.of_bodySF (plainFor_of_name own_pn_java_lang_StringUTF16) hisR ?_
  intro p e s m args below meth c s₁ Bd hml0 hP hK
  obtain ⟨rfl, hZ, hh⟩ := hP
  have hx := Bd.exec
  have hby := Bd.bytes
  have hml : c.maxLocals = 2 := hml0
  have hown : s.vm.findClass "java/lang/StringUTF16" = some m.cls := findClass_of_methodNamed Bd.named
  have hnm := (name_of_methodNamed Bd.named Bd.method).1
  have X0 : Stand p l e ({ frames := 0, cells := 0, slots := 0, locals := 0 } : Room) s m #[(.ref u0), (.int (1 : Int32))] below meth c s₁ [] 0 0 := Stand.of_body Bd
  have e0 : s₁.heap = h0 := by rw [← hh, Bd.state]; rfl
  have N0 := Fr.nil n0
  change Go p.tables e below _ _
  refine own_on (B := s₁.setTop (mkF m 0 #[rv u0, iv 1] [])) (fun tz kz => castTop (own_ef_11a m u0 (1 : Int32)) kz) ?_
  refine own_on (B := s₁.setTop (mkF m 2 #[rv u0, iv 1] [(.ref u0), (.int 1)])) (fun tz kz => ?_) ?_
  · show sT p e below s₁ (mkF m 0 #[rv u0, iv 1] []) tz
    refine XS.iloadN X0.here hx rfl (hb hby own_d11_0) rfl ?_
    show sT p e below s₁ (mkF m 1 #[rv u0, iv 1] [(.int 1)]) tz
    refine XS.aloadN X0.here hx rfl (hb hby own_d11_1) rfl rfl ?_
    exact kz
  obtain ⟨cl1, Ar1, q1, S1, M1, H1, G1⟩ := id Va
  refine own_on (B := s₁.setTop (mkF m 8 #[rv u0, iv 1] [(.int 0)])) (fun tz kz => ?_) ?_
  · show sT p e below s₁ (mkF m 2 #[rv u0, iv 1] [(.ref u0), (.int 1)]) tz
    refine X0.arraylength hx (by rw [e0]; exact Ar1.1) (State.isArrayOf_alike hZ.alike Ar1.2.1) (g := (mkF m 2 #[rv u0, iv 1] [(.ref u0), (.int 1)])) rfl rfl (hb hby own_d11_2) _ ?_
    rw [len_of S1 M1]
    show sT p e below s₁ (mkF m 3 #[rv u0, iv 1] [(.int 1), (.int 1)]) tz
    refine XS.isub X0.here hx rfl (hb hby own_d11_3) rfl ?_
    show sT p e below s₁ (mkF m 4 #[rv u0, iv 1] [(.int 0)]) tz
    refine XS.bipush X0.here hx rfl (hb hby own_d11_4) ?_
    show sT p e below s₁ (mkF m 6 #[rv u0, iv 1] [(.int 31), (.int 0)]) tz
    refine XS.iushr X0.here hx rfl (hb hby own_d11_6) rfl ?_
    show sT p e below s₁ (mkF m 7 #[rv u0, iv 1] [(.int 0)]) tz
    refine XS.i2b X0.here hx rfl (hb hby own_d11_7) rfl ?_
    exact kz
  obtain ⟨fs, hr, hrun, hended, hW, hsame⟩ := X0.leave (v := some (.int (0 : Int32))) (fun h => by rw [Bd.returns] at h; cases h)
  refine own_of ⟨_, _, ?_, hrun, hended, _, _, rfl, ?_, ⟨_, rfl⟩, hW, hsame.mono (by decide) (by decide)⟩
  · show sT p e below s₁ (mkF m 8 #[rv u0, iv 1] [(.int 0)]) _
    exact own_retN X0 hx (t := .byte) Bd.returns (by simp) (by first | rfl | (split <;> first | rfl | (split <;> first | rfl | (split <;> rfl)))) (hb hby own_d11_8) hr
  · show Q11a Z u0 kb x0 h0 n0 _ s₁.heap _
    rw [e0]
    exact ⟨rfl, N0, rfl⟩
theorem own_ef_10a (m : MethodId) (x0 : Addr) (x1 : Int32) (x2 : Addr) (x3 : Int32) (x4 : Int32) : entryFrame m #[(.ref x0), (.int x1), (.ref x2), (.int x3), (.int x4)] 7 = mkF m 0 #[rv x0, iv x1, rv x2, iv x3, iv x4, .unset, .unset] [] := by first | (simp [entryFrame, mkF, argsToLocals, Value.category]; done) | rfl
def Q10a (Z : State) (u0 : Addr) (u2 : Addr) (kx : ClassId) (kb : ClassId) (x0 : Int32) (h0 : Heap) (n0 : Nat) (v : Option Value) (h : Heap) (L : List Loc) : Prop := v = some (.int (1 : Int32)) ∧ Fr n0 L ∧ Keep h0 h [u2] ∧ Arv Z h u2 kb .byte (1 : Int32) [(.int (nar .byte (x0.toInt8.toInt32)))] (.int 0)
theorem own_d10_0 : decode jdk_52_method_21_code 0 = .ok (.iconst 0, 1) := by decide +kernel
theorem own_d10_1 : decode jdk_52_method_21_code 1 = .ok (.istore 5, 2) := by decide +kernel
theorem own_d10_3 : decode jdk_52_method_21_code 3 = .ok (.iload 5, 2) := by decide +kernel
theorem own_d10_5 : decode jdk_52_method_21_code 5 = .ok (.iload 4, 2) := by decide +kernel
theorem own_d10_7 : decode jdk_52_method_21_code 7 = .ok (.if_icmp .ge 37, 3) := by decide +kernel
theorem own_d10_10 : decode jdk_52_method_21_code 10 = .ok (.aload_n 0, 1) := by decide +kernel
theorem own_d10_11 : decode jdk_52_method_21_code 11 = .ok (.iload_n 1, 1) := by decide +kernel
theorem own_d10_12 : decode jdk_52_method_21_code 12 = .ok (.caload, 1) := by decide +kernel
theorem own_d10_13 : decode jdk_52_method_21_code 13 = .ok (.istore 6, 2) := by decide +kernel
theorem own_d10_15 : decode jdk_52_method_21_code 15 = .ok (.iload 6, 2) := by decide +kernel
theorem own_d10_17 : decode jdk_52_method_21_code 17 = .ok (.sipush 255, 3) := by decide +kernel
theorem own_d10_20 : decode jdk_52_method_21_code 20 = .ok (.if_icmp .le 6, 3) := by decide +kernel
theorem own_d10_26 : decode jdk_52_method_21_code 26 = .ok (.aload_n 2, 1) := by decide +kernel
theorem own_d10_27 : decode jdk_52_method_21_code 27 = .ok (.iload_n 3, 1) := by decide +kernel
theorem own_d10_28 : decode jdk_52_method_21_code 28 = .ok (.iload 6, 2) := by decide +kernel
theorem own_d10_30 : decode jdk_52_method_21_code 30 = .ok (.i2b, 1) := by decide +kernel
theorem own_d10_31 : decode jdk_52_method_21_code 31 = .ok (.bastore, 1) := by decide +kernel
theorem own_d10_32 : decode jdk_52_method_21_code 32 = .ok (.iinc 1 1, 3) := by decide +kernel
theorem own_d10_35 : decode jdk_52_method_21_code 35 = .ok (.iinc 3 1, 3) := by decide +kernel
theorem own_d10_38 : decode jdk_52_method_21_code 38 = .ok (.iinc 5 1, 3) := by decide +kernel
theorem own_d10_41 : decode jdk_52_method_21_code 41 = .ok (.goto (-38), 3) := by decide +kernel
theorem own_d10_44 : decode jdk_52_method_21_code 44 = .ok (.iload 4, 2) := by decide +kernel
theorem own_d10_46 : decode jdk_52_method_21_code 46 = .ok (.ireturn, 1) := by decide +kernel
set_option maxRecDepth 65536 in
set_option maxHeartbeats 40000000 in
theorem rm10a (l : Launch) (Z : State) (a0 : Array Value) (hw : ∀ d ∈ tables_1, d.before a0 Z = true) (ws : List Jvm.Cond) (u0 : Addr) (u2 : Addr) (kx : ClassId) (kb : ClassId) (x0 : Int32) (h0 : Heap) (n0 : Nat) (O0 : Old Z n0 h0) (Vc : Arv Z h0 u0 kx .char (1 : Int32) [(.int x0)] (.int 0)) (Vb : Arv Z h0 u2 kb .byte (1 : Int32) [(.int (0 : Int32))] (.int 0)) (g_u2 : n0 ≤ u2) (n02 : u0 ≠ u2) (nb0 : ¬ (255 : Int32) < x0) :
    MetFree l (⟨"java/lang/StringUTF16", "compress", "([CI[BII)I"⟩ : MethodName) (head1 (Jvm.Cond.code (⟨"java/lang/StringUTF16", "compress", "([CI[BII)I"⟩ : MethodName) jdk_52_method_21_code 7 (some .int) :: ws) ({ frames := 0, cells := 0, slots := 0, locals := 0 } : Room)) (fun a U => a = #[(.ref u0), (.int (0 : Int32)), (.ref u2), (.int (0 : Int32)), (.int (1 : Int32))] ∧ Z.Warmed39 U.vm ∧ U.heap = h0) (fun _ _ _ _ _ => True) (fun _ U o U' => ∃ v L, o = .returned v ∧ Q10a Z u0 u2 kx kb x0 h0 n0 v U'.heap L ∧ FrameEnd U o U' L ({ frames := 0, cells := 0, slots := 0, locals := 0 } : Room).cells ({ frames := 0, cells := 0, slots := 0, locals := 0 } : Room).slots) := by
  refine MetFree.of_bodySF (plainFor_of_name own_pn_java_lang_StringUTF16) hisR ?_
  intro p e s m args below meth c s₁ Bd hml0 hP hK
  obtain ⟨rfl, hZ, hh⟩ := hP
  have hx := Bd.exec
  have hby := Bd.bytes
  have hml : c.maxLocals = 7 := hml0
  have hown : s.vm.findClass "java/lang/StringUTF16" = some m.cls := findClass_of_methodNamed Bd.named
  have hnm := (name_of_methodNamed Bd.named Bd.method).1
  have X0 : Stand p l e ({ frames := 0, cells := 0, slots := 0, locals := 0 } : Room) s m #[(.ref u0), (.int (0 : Int32)), (.ref u2), (.int (0 : Int32)), (.int (1 : Int32))] below meth c s₁ [] 0 0 := Stand.of_body Bd
  have e0 : s₁.heap = h0 := by rw [← hh, Bd.state]; rfl
  have N0 := Fr.nil n0
  change Go p.tables e below _ _
  refine own_on (B := s₁.setTop (mkF m 0 #[rv u0, iv 0, rv u2, iv 0, iv 1, un, un] [])) (fun tz kz => castTop (own_ef_10a m u0 (0 : Int32) u2 (0 : Int32) (1 : Int32)) kz) ?_
  refine own_on (B := s₁.setTop (mkF m 12 #[rv u0, iv 0, rv u2, iv 0, iv 1, iv 0, un] [(.int 0), (.ref u0)])) (fun tz kz => ?_) ?_
  · show sT p e below s₁ (mkF m 0 #[rv u0, iv 0, rv u2, iv 0, iv 1, un, un] []) tz
    refine XS.iconst X0.here hx rfl (hb hby own_d10_0) ?_
    show sT p e below s₁ (mkF m 1 #[rv u0, iv 0, rv u2, iv 0, iv 1, un, un] [(.int 0)]) tz
    refine XS.istore X0.here hx rfl (hb hby own_d10_1) rfl (l' := #[rv u0, iv 0, rv u2, iv 0, iv 1, iv 0, un]) rfl ?_
    show sT p e below s₁ (mkF m 3 #[rv u0, iv 0, rv u2, iv 0, iv 1, iv 0, un] []) tz
    refine XS.iload X0.here hx rfl (hb hby own_d10_3) rfl ?_
    show sT p e below s₁ (mkF m 5 #[rv u0, iv 0, rv u2, iv 0, iv 1, iv 0, un] [(.int 0)]) tz
    refine XS.iload X0.here hx rfl (hb hby own_d10_5) rfl ?_
    show sT p e below s₁ (mkF m 7 #[rv u0, iv 0, rv u2, iv 0, iv 1, iv 0, un] [(.int 1), (.int 0)]) tz
    refine XS.icmpNo X0.here hx rfl (hb hby own_d10_7) rfl (tlt (by decide : (0 : Int32) < (1 : Int32))).2.1 ?_
    show sT p e below s₁ (mkF m 10 #[rv u0, iv 0, rv u2, iv 0, iv 1, iv 0, un] []) tz
    refine XS.aloadN X0.here hx rfl (hb hby own_d10_10) rfl rfl ?_
    show sT p e below s₁ (mkF m 11 #[rv u0, iv 0, rv u2, iv 0, iv 1, iv 0, un] [(.ref u0)]) tz
    refine XS.iloadN X0.here hx rfl (hb hby own_d10_11) rfl ?_
    exact kz
  obtain ⟨cl1, Ar1, q1, S1, M1, H1, G1⟩ := id Vc
  have hin2 : ¬ ((0 : Int32) < 0 ∨ cl1.slots.size ≤ ((0 : Int32)).toNatClampNeg) := inb_of S1 ⟨by decide, by decide⟩
  have hat2 : cl1.slots[((0 : Int32)).toNatClampNeg]? = some (.int x0) := Has.at H1 hin2 rfl
  refine own_on (B := s₁.setTop (mkF m 31 #[rv u0, iv 0, rv u2, iv 0, iv 1, iv 0, iv x0] [(.int (x0.toInt8.toInt32)), (.int 0), (.ref u2)])) (fun tz kz => ?_) ?_
  · show sT p e below s₁ (mkF m 12 #[rv u0, iv 0, rv u2, iv 0, iv 1, iv 0, un] [(.int 0), (.ref u0)]) tz
    refine X0.caload hx (j := (0 : Int32)) (v := (.int x0)) (by rw [e0]; exact Ar1.1) (State.isArrayOf_alike hZ.alike Ar1.2.1) Ar1.2.2 hin2 hat2 (g := (mkF m 12 #[rv u0, iv 0, rv u2, iv 0, iv 1, iv 0, un] [(.int 0), (.ref u0)])) rfl rfl (hb hby own_d10_12) _ ?_
    show sT p e below s₁ (mkF m 13 #[rv u0, iv 0, rv u2, iv 0, iv 1, iv 0, un] [(.int x0)]) tz
    refine XS.istore X0.here hx rfl (hb hby own_d10_13) rfl (l' := #[rv u0, iv 0, rv u2, iv 0, iv 1, iv 0, iv x0]) rfl ?_
    show sT p e below s₁ (mkF m 15 #[rv u0, iv 0, rv u2, iv 0, iv 1, iv 0, iv x0] []) tz
    refine XS.iload X0.here hx rfl (hb hby own_d10_15) rfl ?_
    show sT p e below s₁ (mkF m 17 #[rv u0, iv 0, rv u2, iv 0, iv 1, iv 0, iv x0] [(.int x0)]) tz
    refine XS.sipush X0.here hx rfl (hb hby own_d10_17) ?_
    show sT p e below s₁ (mkF m 20 #[rv u0, iv 0, rv u2, iv 0, iv 1, iv 0, iv x0] [(.int 255), (.int x0)]) tz
    refine XS.icmpYes X0.here hx rfl (pc0 := 20) (pc' := 26) rfl (hb hby own_d10_20) rfl (flt nb0).2.2.2 (by decide) (by decide) ?_
    show sT p e below s₁ (mkF m 26 #[rv u0, iv 0, rv u2, iv 0, iv 1, iv 0, iv x0] []) tz
    refine XS.aloadN X0.here hx rfl (hb hby own_d10_26) rfl rfl ?_
    show sT p e below s₁ (mkF m 27 #[rv u0, iv 0, rv u2, iv 0, iv 1, iv 0, iv x0] [(.ref u2)]) tz
    refine XS.iloadN X0.here hx rfl (hb hby own_d10_27) rfl ?_
    show sT p e below s₁ (mkF m 28 #[rv u0, iv 0, rv u2, iv 0, iv 1, iv 0, iv x0] [(.int 0), (.ref u2)]) tz
    refine XS.iload X0.here hx rfl (hb hby own_d10_28) rfl ?_
    show sT p e below s₁ (mkF m 30 #[rv u0, iv 0, rv u2, iv 0, iv 1, iv 0, iv x0] [(.int x0), (.int 0), (.ref u2)]) tz
    refine XS.i2b X0.here hx rfl (hb hby own_d10_30) rfl ?_
    exact kz
  obtain ⟨cl3, Ar3, q3, S3, M3, H3, G3⟩ := id Vb
  have hin4 : ¬ ((0 : Int32) < 0 ∨ cl3.slots.size ≤ ((0 : Int32)).toNatClampNeg) := inb_of S3 ⟨by decide, by decide⟩
  obtain ⟨T4, h4, X4, e4, W4, st4⟩ := stB X0 hx hZ e0 Ar3 (j := (0 : Int32)) hin4 (g := (mkF m 31 #[rv u0, iv 0, rv u2, iv 0, iv 1, iv 0, iv x0] [(.int (x0.toInt8.toInt32)), (.int 0), (.ref u2)])) rfl rfl (hb hby own_d10_31)
  have V4 : Arv Z h4 u2 kb .byte (1 : Int32) [(.int (nar .byte (x0.toInt8.toInt32)))] (.int 0) := Arv.set Ar3 q3 S3 M3 H3 G3 (fits_nar_byte _) W4 0 rfl (Nat.le_of_ble_eq_true rfl)
  have N4 := Fr.snoc X4 N0 g_u2
  have O5 := O0.wr W4 g_u2
  have K5 : Keep h0 h4 [u2] := (Keep.refl h0 [u2]).wr W4 (Or.inl (List.mem_of_getElem? (i := 0) rfl))
  refine own_on (B := T4.setTop (mkF m 32 #[rv u0, iv 0, rv u2, iv 0, iv 1, iv 0, iv x0] [])) (fun tz kz => st4 _ kz) ?_
  refine own_on (B := T4.setTop (mkF m 46 #[rv u0, iv 1, rv u2, iv 1, iv 1, iv 1, iv x0] [(.int 1)])) (fun tz kz => ?_) ?_
  · show sT p e below T4 (mkF m 32 #[rv u0, iv 0, rv u2, iv 0, iv 1, iv 0, iv x0] []) tz
    refine XS.iinc X4.here hx rfl (hb hby own_d10_32) rfl (l' := #[rv u0, iv 1, rv u2, iv 0, iv 1, iv 0, iv x0]) rfl ?_
    show sT p e below T4 (mkF m 35 #[rv u0, iv 1, rv u2, iv 0, iv 1, iv 0, iv x0] []) tz
    refine XS.iinc X4.here hx rfl (hb hby own_d10_35) rfl (l' := #[rv u0, iv 1, rv u2, iv 1, iv 1, iv 0, iv x0]) rfl ?_
    show sT p e below T4 (mkF m 38 #[rv u0, iv 1, rv u2, iv 1, iv 1, iv 0, iv x0] []) tz
    refine XS.iinc X4.here hx rfl (hb hby own_d10_38) rfl (l' := #[rv u0, iv 1, rv u2, iv 1, iv 1, iv 1, iv x0]) rfl ?_
    show sT p e below T4 (mkF m 41 #[rv u0, iv 1, rv u2, iv 1, iv 1, iv 1, iv x0] []) tz
    refine XS.goto X4.here hx rfl (pc0 := 41) (pc' := 3) rfl (hb hby own_d10_41) (by decide) (by decide) ?_
    show sT p e below T4 (mkF m 3 #[rv u0, iv 1, rv u2, iv 1, iv 1, iv 1, iv x0] []) tz
    refine XS.iload X4.here hx rfl (hb hby own_d10_3) rfl ?_
    show sT p e below T4 (mkF m 5 #[rv u0, iv 1, rv u2, iv 1, iv 1, iv 1, iv x0] [(.int 1)]) tz
    refine XS.iload X4.here hx rfl (hb hby own_d10_5) rfl ?_
    show sT p e below T4 (mkF m 7 #[rv u0, iv 1, rv u2, iv 1, iv 1, iv 1, iv x0] [(.int 1), (.int 1)]) tz
    refine XS.icmpYes X4.here hx rfl (pc0 := 7) (pc' := 44) rfl (hb hby own_d10_7) rfl (flt Int32.lt_irrefl).2.1 (by decide) (by decide) ?_
    show sT p e below T4 (mkF m 44 #[rv u0, iv 1, rv u2, iv 1, iv 1, iv 1, iv x0] []) tz
    refine XS.iload X4.here hx rfl (hb hby own_d10_44) rfl ?_
    exact kz
  obtain ⟨fs, hr, hrun, hended, hW, hsame⟩ := X4.leave (v := some (.int (1 : Int32))) (fun h => by rw [Bd.returns] at h; cases h)
  refine own_of ⟨_, _, ?_, hrun, hended, _, _, rfl, ?_, ⟨_, rfl⟩, hW, hsame.mono (by decide) (by decide)⟩
  · show sT p e below T4 (mkF m 46 #[rv u0, iv 1, rv u2, iv 1, iv 1, iv 1, iv x0] [(.int 1)]) _
    exact own_retI X4 hx Bd.returns (hb hby own_d10_46) hr
  · show Q10a Z u0 u2 kx kb x0 h0 n0 _ T4.heap _
    rw [e4]
    exact ⟨rfl, N4, K5, V4⟩
theorem own_ef_9a (m : MethodId) (x0 : Addr) (x1 : Int32) (x2 : Int32) : entryFrame m #[(.ref x0), (.int x1), (.int x2)] 6 = mkF m 0 #[rv x0, iv x1, iv x2, .unset, .unset, .unset] [] := by first | (simp [entryFrame, mkF, argsToLocals, Value.category]; done) | rfl
def Q9a (Z : State) (u0 : Addr) (kx : ClassId) (x0 : Int32) (h0 : Heap) (n0 : Nat) (v : Option Value) (h : Heap) (L : List Loc) : Prop := ∃ (d : Addr) (kd : ClassId), v = some (.ref d) ∧ Fr n0 L ∧ Keep h0 h [] ∧ h0.size ≤ d ∧ Exa Z h d "[B" ∧ Arv Z h d kd .byte (1 : Int32) [(.int (nar .byte (x0.toInt8.toInt32)))] (.int 0)
theorem own_d9_0 : decode jdk_52_method_16_code 0 = .ok (.iload_n 2, 1) := by decide +kernel
theorem own_d9_1 : decode jdk_52_method_16_code 1 = .ok (.newarray .byte, 2) := by decide +kernel
theorem own_d9_3 : decode jdk_52_method_16_code 3 = .ok (.astore_n 3, 1) := by decide +kernel
theorem own_d9_4 : decode jdk_52_method_16_code 4 = .ok (.aload_n 0, 1) := by decide +kernel
theorem own_d9_5 : decode jdk_52_method_16_code 5 = .ok (.iload_n 1, 1) := by decide +kernel
theorem own_d9_6 : decode jdk_52_method_16_code 6 = .ok (.aload_n 3, 1) := by decide +kernel
theorem own_d9_7 : decode jdk_52_method_16_code 7 = .ok (.iconst 0, 1) := by decide +kernel
theorem own_d9_8 : decode jdk_52_method_16_code 8 = .ok (.iload_n 2, 1) := by decide +kernel
theorem own_pd0 : parseMethodDescriptor "([CI[BII)I" = some ⟨[(.array .char), .int, (.array .byte), .int, .int], some .int⟩ := by decide +kernel
theorem own_d9_9 : decode jdk_52_method_16_code 9 = .ok (.invokestatic 115, 3) := by decide +kernel
theorem own_d9_12 : decode jdk_52_method_16_code 12 = .ok (.istore 4, 2) := by decide +kernel
theorem own_d9_14 : decode jdk_52_method_16_code 14 = .ok (.iload 4, 2) := by decide +kernel
theorem own_d9_16 : decode jdk_52_method_16_code 16 = .ok (.iload_n 2, 1) := by decide +kernel
theorem own_d9_17 : decode jdk_52_method_16_code 17 = .ok (.if_icmp .eq 40, 3) := by decide +kernel
theorem own_d9_57 : decode jdk_52_method_16_code 57 = .ok (.aload_n 3, 1) := by decide +kernel
theorem own_d9_58 : decode jdk_52_method_16_code 58 = .ok (.areturn, 1) := by decide +kernel
set_option maxRecDepth 65536 in
set_option maxHeartbeats 40000000 in
theorem rm9a (l : Launch) (Z : State) (a0 : Array Value) (hw : ∀ d ∈ tables_1, d.before a0 Z = true) (ws : List Jvm.Cond) (u0 : Addr) (kx : ClassId) (x0 : Int32) (h0 : Heap) (n0 : Nat) (O0 : Old Z n0 h0) (Vc : Arv Z h0 u0 kx .char (1 : Int32) [(.int x0)] (.int 0)) (nb0 : ¬ (255 : Int32) < x0) :
    MetFree l (⟨"java/lang/StringUTF16", "compress", "([CII)[B"⟩ : MethodName) (head1 (Jvm.Cond.code (⟨"java/lang/StringUTF16", "compress", "([CII)[B"⟩ : MethodName) jdk_52_method_16_code 6 (some (.array .byte)) :: ws) ({ frames := 1, cells := 1, slots := 1, locals := 20 } : Room)) (fun a U => a = #[(.ref u0), (.int (0 : Int32)), (.int (1 : Int32))] ∧ Z.Warmed39 U.vm ∧ U.heap = h0) (fun _ _ _ _ _ => True) (fun _ U o U' => ∃ v L, o = .returned v ∧ Q9a Z u0 kx x0 h0 n0 v U'.heap L ∧ FrameEnd U o U' L ({ frames := 1, cells := 1, slots := 1, locals := 20 } : Room).cells ({ frames := 1, cells := 1, slots := 1, locals := 20 } : Room).slots) := by
  refine MetFree.of_bodySF (plainFor_of_name own_pn_java_lang_StringUTF16) hisR ?_
  intro p e s m args below meth c s₁ Bd hml0 hP hK
  obtain ⟨rfl, hZ, hh⟩ := hP
  have hx := Bd.exec
  have hby := Bd.bytes
  have hml : c.maxLocals = 6 := hml0
  have hown : s.vm.findClass "java/lang/StringUTF16" = some m.cls := findClass_of_methodNamed Bd.named
  have hnm := (name_of_methodNamed Bd.named Bd.method).1
  have X0 : Stand p l e ({ frames := 1, cells := 1, slots := 1, locals := 20 } : Room) s m #[(.ref u0), (.int (0 : Int32)), (.int (1 : Int32))] below meth c s₁ [] 0 0 := Stand.of_body Bd
  have e0 : s₁.heap = h0 := by rw [← hh, Bd.state]; rfl
  have N0 := Fr.nil n0
  change Go p.tables e below _ _
  refine own_on (B := s₁.setTop (mkF m 0 #[rv u0, iv 0, iv 1, un, un, un] [])) (fun tz kz => castTop (own_ef_9a m u0 (0 : Int32) (1 : Int32)) kz) ?_
  refine own_on (B := s₁.setTop (mkF m 1 #[rv u0, iv 0, iv 1, un, un, un] [(.int 1)])) (fun tz kz => ?_) ?_
  · show sT p e below s₁ (mkF m 0 #[rv u0, iv 0, iv 1, un, un, un] []) tz
    refine XS.iloadN X0.here hx rfl (hb hby own_d9_0) rfl ?_
    exact kz
  obtain ⟨T1, h1, k1, X1, e1, E1, A1, Ex1, st1⟩ := newPE X0 hx hZ (own_w hw 22 rfl) e0 (g := (mkF m 1 #[rv u0, iv 0, iv 1, un, un, un] [(.int 1)])) rfl (hb hby own_d9_1) rfl (by decide) (cap := 1) (by decide) (by decide) (by decide) (by decide) (ad := "[B") (by decide)
  obtain ⟨b1, g1⟩ : ∃ z, z = h0.size := ⟨_, rfl⟩
  rw [← g1] at A1 st1
  rw [← g1] at Ex1
  have ne_u0_b1 : u0 ≠ b1 := Nat.ne_of_lt (Nat.lt_of_lt_of_le (Vc).lt (Nat.le_of_eq g1.symm))
  have g_b1 : n0 ≤ b1 := Nat.le_trans (own_old O0) (Nat.le_of_eq g1.symm)
  have sz_b1 : h0.size ≤ b1 := Nat.le_trans (Keep.refl h0 []).1 (Nat.le_of_eq g1.symm)
  have O2 := O0.ext E1
  have K2 : Keep h0 h1 [] := (Keep.refl h0 []).ext E1
  have V1 : Arv Z h1 b1 k1 .byte (1 : Int32) [(.int (0 : Int32))] (.int (0 : Int32)) := (Arv.new A1 (by decide)).pad (pad_rep [] (.int (0 : Int32)) 1)
  refine own_on (B := T1.setTop (mkF m 3 #[rv u0, iv 0, iv 1, un, un, un] [(.ref b1)])) (fun tz kz => st1 _ kz) ?_
  have f_3 := (Vc.ext E1)
  refine own_on (B := T1.setTop (mkF m 9 #[rv u0, iv 0, iv 1, rv b1, un, un] [(.int 1), (.int 0), (.ref b1), (.int 0), (.ref u0)])) (fun tz kz => ?_) ?_
  · show sT p e below T1 (mkF m 3 #[rv u0, iv 0, iv 1, un, un, un] [(.ref b1)]) tz
    refine XS.astoreN X1.here hx rfl (hb hby own_d9_3) rfl rfl (l' := #[rv u0, iv 0, iv 1, rv b1, un, un]) rfl ?_
    show sT p e below T1 (mkF m 4 #[rv u0, iv 0, iv 1, rv b1, un, un] []) tz
    refine XS.aloadN X1.here hx rfl (hb hby own_d9_4) rfl rfl ?_
    show sT p e below T1 (mkF m 5 #[rv u0, iv 0, iv 1, rv b1, un, un] [(.ref u0)]) tz
    refine XS.iloadN X1.here hx rfl (hb hby own_d9_5) rfl ?_
    show sT p e below T1 (mkF m 6 #[rv u0, iv 0, iv 1, rv b1, un, un] [(.int 0), (.ref u0)]) tz
    refine XS.aloadN X1.here hx rfl (hb hby own_d9_6) rfl rfl ?_
    show sT p e below T1 (mkF m 7 #[rv u0, iv 0, iv 1, rv b1, un, un] [(.ref b1), (.int 0), (.ref u0)]) tz
    refine XS.iconst X1.here hx rfl (hb hby own_d9_7) ?_
    show sT p e below T1 (mkF m 8 #[rv u0, iv 0, iv 1, rv b1, un, un] [(.int 0), (.ref b1), (.int 0), (.ref u0)]) tz
    refine XS.iloadN X1.here hx rfl (hb hby own_d9_8) rfl ?_
    exact kz
  obtain ⟨_, _, ⟨T4, L4, k4, n4⟩, -, X4, ⟨Lc4, hQ4, l4, y4, z4⟩, st4⟩ := Jvm.LawKit.callS X1 hx (y := (⟨"java/lang/StringUTF16", "compress", "([CI[BII)I"⟩ : MethodName)) hown (mvT hZ (own_w hw 51 rfl)) (mvT hZ (own_w hw 52 rfl)) (mvT hZ (own_w hw 49 rfl)) (mvT hZ (own_w hw 53 rfl)) (by decide) (backOf (W := 0) (rm10a l Z a0 hw [] u0 b1 kx k1 x0 h1 n0 O2 f_3 V1 g_b1 ne_u0_b1 nb0) hZ (own_w hw 53 rfl) (own_w hw 49 rfl) (by decide) (by decide)) (g := (mkF m 9 #[rv u0, iv 0, iv 1, rv b1, un, un] [(.int 1), (.int 0), (.ref b1), (.int 0), (.ref u0)])) rfl (by rw [hml]; rfl) (argsL := [(.ref u0), (.int (0 : Int32)), (.ref b1), (.int (0 : Int32)), (.int (1 : Int32))]) (rest := []) (lenOf own_pd0 rfl) rfl (by show 2 * 0 + _ ≤ _; exact Nat.le_of_eq rfl) (hb hby own_d9_9) (fun _ _ => ⟨rfl, e1, (by decide : 1 + 0 ≤ _), (by decide : 1 + 0 ≤ _)⟩)
  dsimp only [Pt.U, Pt.locs, Pt.cells, Pt.slots] at X4 l4 y4 z4 st4 hQ4
  subst l4 y4 z4
  obtain ⟨rfl, Nq4, Kq4, Vq4⟩ := hQ4
  have N4 := Fr.app N0 Nq4
  have O5 := O2.keep Kq4 (allS g_b1 all0)
  have K5 : Keep h0 T4.heap [] := K2.trans Kq4 (allS (Or.inr sz_b1) all0)
  refine own_on (B := T4.setTop (mkF m 12 #[rv u0, iv 0, iv 1, rv b1, un, un] [(.int 1)])) (fun tz kz => st4 _ kz) ?_
  have f_6 := (Ex1.keep Kq4)
  refine own_on (B := T4.setTop (mkF m 58 #[rv u0, iv 0, iv 1, rv b1, iv 1, un] [(.ref b1)])) (fun tz kz => ?_) ?_
  · show sT p e below T4 (mkF m 12 #[rv u0, iv 0, iv 1, rv b1, un, un] [(.int 1)]) tz
    refine XS.istore X4.here hx rfl (hb hby own_d9_12) rfl (l' := #[rv u0, iv 0, iv 1, rv b1, iv 1, un]) rfl ?_
    show sT p e below T4 (mkF m 14 #[rv u0, iv 0, iv 1, rv b1, iv 1, un] []) tz
    refine XS.iload X4.here hx rfl (hb hby own_d9_14) rfl ?_
    show sT p e below T4 (mkF m 16 #[rv u0, iv 0, iv 1, rv b1, iv 1, un] [(.int 1)]) tz
    refine XS.iloadN X4.here hx rfl (hb hby own_d9_16) rfl ?_
    show sT p e below T4 (mkF m 17 #[rv u0, iv 0, iv 1, rv b1, iv 1, un] [(.int 1), (.int 1)]) tz
    refine XS.icmpYes X4.here hx rfl (pc0 := 17) (pc' := 57) rfl (hb hby own_d9_17) rfl (teq rfl).1 (by decide) (by decide) ?_
    show sT p e below T4 (mkF m 57 #[rv u0, iv 0, iv 1, rv b1, iv 1, un] []) tz
    refine XS.aloadN X4.here hx rfl (hb hby own_d9_57) rfl rfl ?_
    exact kz
  obtain ⟨fs, hr, hrun, hended, hW, hsame⟩ := X4.leave (v := some (.ref b1)) (fun h => by rw [Bd.returns] at h; cases h)
  refine own_of ⟨_, _, ?_, hrun, hended, _, _, rfl, ?_, ⟨_, rfl⟩, hW, hsame.mono (by decide) (by decide)⟩
  · show sT p e below T4 (mkF m 58 #[rv u0, iv 0, iv 1, rv b1, iv 1, un] [(.ref b1)]) _
    exact own_retV X4 hx Bd.returns rfl rfl (hb hby own_d9_58) hr
  · show Q9a Z u0 kx x0 h0 n0 _ T4.heap _
    exact ⟨b1, _, rfl, N4, K5, sz_b1, f_6, Vq4⟩
theorem own_ef_11b (m : MethodId) (x0 : Addr) (x1 : Int32) : entryFrame m #[(.ref x0), (.int x1)] 2 = mkF m 0 #[rv x0, iv x1] [] := by first | (simp [entryFrame, mkF, argsToLocals, Value.category]; done) | rfl
def Q11b (Z : State) (u0 : Addr) (kb : ClassId) (x0 : Int32) (x1 : Int32) (h0 : Heap) (n0 : Nat) (v : Option Value) (h : Heap) (L : List Loc) : Prop := v = some (.int 0) ∧ Fr n0 L ∧ h = h0
set_option maxRecDepth 65536 in
set_option maxHeartbeats 40000000 in
theorem rm11b (l : Launch) (Z : State) (a0 : Array Value) (hw : ∀ d ∈ tables_1, d.before a0 Z = true) (ws : List Jvm.Cond) (u0 : Addr) (kb : ClassId) (x0 : Int32) (x1 : Int32) (h0 : Heap) (n0 : Nat) (O0 : Old Z n0 h0) (Va : Arv Z h0 u0 kb .byte (2 : Int32) [(.int x0), (.int x1)] (.int 0)) :
    MetFree l (⟨"java/lang/StringUTF16", "coderFromArrayLen", "([BI)B"⟩ : MethodName) (head1 (Jvm.Cond.code (⟨"java/lang/StringUTF16", "coderFromArrayLen", "([BI)B"⟩ : MethodName) jdk_52_method_15_code 2 (some .byte) :: ws) ({ frames := 0, cells := 0, slots := 0, locals := 0 } : Room)) (fun a U => a = #[(.ref u0), (.int (2 : Int32))] ∧ Z.Warmed39 U.vm ∧ U.heap = h0) (fun _ _ _ _ _ => True) (fun _ U o U' => ∃ v L, o = .returned v ∧ Q11b Z u0 kb x0 x1 h0 n0 v U'.heap L ∧ FrameEnd U o U' L ({ frames := 0, cells := 0, slots := 0, locals := 0 } : Room).cells ({ frames := 0, cells := 0, slots := 0, locals := 0 } : Room).slots) := by
  refine MetFree.of_bodySF (plainFor_of_name own_pn_java_lang_StringUTF16) hisR ?_
  intro p e s m args below meth c s₁ Bd hml0 hP hK
  obtain ⟨rfl, hZ, hh⟩ := hP
  have hx := Bd.exec
  have hby := Bd.bytes
  have hml : c.maxLocals = 2 := hml0
  have hown : s.vm.findClass "java/lang/StringUTF16" = some m.cls := findClass_of_methodNamed Bd.named
  have hnm := (name_of_methodNamed Bd.named Bd.method).1
  have X0 : Stand p l e ({ frames := 0, cells := 0, slots := 0, locals := 0 } : Room) s m #[(.ref u0), (.int (2 : Int32))] below meth c s₁ [] 0 0 := Stand.of_body Bd
  have e0 : s₁.heap = h0 := by rw [← hh, Bd.state]; rfl
  have N0 := Fr.nil n0
  change Go p.tables e below _ _
  refine own_on (B := s₁.setTop (mkF m 0 #[rv u0, iv 2] [])) (fun tz kz => castTop (own_ef_11b m u0 (2 : Int32)) kz) ?_
  refine own_on (B := s₁.setTop (mkF m 2 #[rv u0, iv 2] [(.ref u0), (.int 2)])) (fun tz kz => ?_) ?_
  · show sT p e below s₁ (mkF m 0 #[rv u0, iv 2] []) tz
    refine XS.iloadN X0.here hx rfl (hb hby own_d11_0) rfl ?_
    show sT p e below s₁ (mkF m 1 #[rv u0, iv 2] [(.int 2)]) tz
    refine XS.aloadN X0.here hx rfl (hb hby own_d11_1) rfl rfl ?_
    exact kz
  obtain ⟨cl1, Ar1, q1, S1, M1, H1, G1⟩ := id Va
  refine own_on (B := s₁.setTop (mkF m 8 #[rv u0, iv 2] [(.int 0)])) (fun tz kz => ?_) ?_
  · show sT p e below s₁ (mkF m 2 #[rv u0, iv 2] [(.ref u0), (.int 2)]) tz
    refine X0.arraylength hx (by rw [e0]; exact Ar1.1) (State.isArrayOf_alike hZ.alike Ar1.2.1) (g := (mkF m 2 #[rv u0, iv 2] [(.ref u0), (.int 2)])) rfl rfl (hb hby own_d11_2) _ ?_
    rw [len_of S1 M1]
    show sT p e below s₁ (mkF m 3 #[rv u0, iv 2] [(.int 2), (.int 2)]) tz
    refine XS.isub X0.here hx rfl (hb hby own_d11_3) rfl ?_
    show sT p e below s₁ (mkF m 4 #[rv u0, iv 2] [(.int 0)]) tz
    refine XS.bipush X0.here hx rfl (hb hby own_d11_4) ?_
    show sT p e below s₁ (mkF m 6 #[rv u0, iv 2] [(.int 31), (.int 0)]) tz
    refine XS.iushr X0.here hx rfl (hb hby own_d11_6) rfl ?_
    show sT p e below s₁ (mkF m 7 #[rv u0, iv 2] [(.int 0)]) tz
    refine XS.i2b X0.here hx rfl (hb hby own_d11_7) rfl ?_
    exact kz
  obtain ⟨fs, hr, hrun, hended, hW, hsame⟩ := X0.leave (v := some (.int (0 : Int32))) (fun h => by rw [Bd.returns] at h; cases h)
  refine own_of ⟨_, _, ?_, hrun, hended, _, _, rfl, ?_, ⟨_, rfl⟩, hW, hsame.mono (by decide) (by decide)⟩
  · show sT p e below s₁ (mkF m 8 #[rv u0, iv 2] [(.int 0)]) _
    exact own_retN X0 hx (t := .byte) Bd.returns (by simp) (by first | rfl | (split <;> first | rfl | (split <;> first | rfl | (split <;> rfl)))) (hb hby own_d11_8) hr
  · show Q11b Z u0 kb x0 x1 h0 n0 _ s₁.heap _
    rw [e0]
    exact ⟨rfl, N0, rfl⟩
theorem own_ef_10b (m : MethodId) (x0 : Addr) (x1 : Int32) (x2 : Addr) (x3 : Int32) (x4 : Int32) : entryFrame m #[(.ref x0), (.int x1), (.ref x2), (.int x3), (.int x4)] 7 = mkF m 0 #[rv x0, iv x1, rv x2, iv x3, iv x4, .unset, .unset] [] := by first | (simp [entryFrame, mkF, argsToLocals, Value.category]; done) | rfl
def Q10b (Z : State) (u0 : Addr) (u2 : Addr) (kx : ClassId) (kb : ClassId) (x0 : Int32) (x1 : Int32) (h0 : Heap) (n0 : Nat) (v : Option Value) (h : Heap) (L : List Loc) : Prop := v = some (.int (2 : Int32)) ∧ Fr n0 L ∧ Keep h0 h [u2] ∧ Arv Z h u2 kb .byte (2 : Int32) [(.int (nar .byte (x0.toInt8.toInt32))), (.int (nar .byte (x1.toInt8.toInt32)))] (.int 0)
set_option maxRecDepth 65536 in
set_option maxHeartbeats 40000000 in
theorem rm10b (l : Launch) (Z : State) (a0 : Array Value) (hw : ∀ d ∈ tables_1, d.before a0 Z = true) (ws : List Jvm.Cond) (u0 : Addr) (u2 : Addr) (kx : ClassId) (kb : ClassId) (x0 : Int32) (x1 : Int32) (h0 : Heap) (n0 : Nat) (O0 : Old Z n0 h0) (Vc : Arv Z h0 u0 kx .char (2 : Int32) [(.int x0), (.int x1)] (.int 0)) (Vb : Arv Z h0 u2 kb .byte (2 : Int32) [(.int (0 : Int32)), (.int (0 : Int32))] (.int 0)) (g_u2 : n0 ≤ u2) (n02 : u0 ≠ u2) (nb0 : ¬ (255 : Int32) < x0) (nb1 : ¬ (255 : Int32) < x1) :
    MetFree l (⟨"java/lang/StringUTF16", "compress", "([CI[BII)I"⟩ : MethodName) (head1 (Jvm.Cond.code (⟨"java/lang/StringUTF16", "compress", "([CI[BII)I"⟩ : MethodName) jdk_52_method_21_code 7 (some .int) :: ws) ({ frames := 0, cells := 0, slots := 0, locals := 0 } : Room)) (fun a U => a = #[(.ref u0), (.int (0 : Int32)), (.ref u2), (.int (0 : Int32)), (.int (2 : Int32))] ∧ Z.Warmed39 U.vm ∧ U.heap = h0) (fun _ _ _ _ _ => True) (fun _ U o U' => ∃ v L, o = .returned v ∧ Q10b Z u0 u2 kx kb x0 x1 h0 n0 v U'.heap L ∧ FrameEnd U o U' L ({ frames := 0, cells := 0, slots := 0, locals := 0 } : Room).cells ({ frames := 0, cells := 0, slots := 0, locals := 0 } : Room).slots) := by
  refine MetFree.of_bodySF (plainFor_of_name own_pn_java_lang_StringUTF16) hisR ?_
  intro p e s m args below meth c s₁ Bd hml0 hP hK
  obtain ⟨rfl, hZ, hh⟩ := hP
  have hx := Bd.exec
  have hby := Bd.bytes
  have hml : c.maxLocals = 7 := hml0
  have hown : s.vm.findClass "java/lang/StringUTF16" = some m.cls := findClass_of_methodNamed Bd.named
  have hnm := (name_of_methodNamed Bd.named Bd.method).1
  have X0 : Stand p l e ({ frames := 0, cells := 0, slots := 0, locals := 0 } : Room) s m #[(.ref u0), (.int (0 : Int32)), (.ref u2), (.int (0 : Int32)), (.int (2 : Int32))] below meth c s₁ [] 0 0 := Stand.of_body Bd
  have e0 : s₁.heap = h0 := by rw [← hh, Bd.state]; rfl
  have N0 := Fr.nil n0
  change Go p.tables e below _ _
  refine own_on (B := s₁.setTop (mkF m 0 #[rv u0, iv 0, rv u2, iv 0, iv 2, un, un] [])) (fun tz kz => castTop (own_ef_10b m u0 (0 : Int32) u2 (0 : Int32) (2 : Int32)) kz) ?_
  refine own_on (B := s₁.setTop (mkF m 12 #[rv u0, iv 0, rv u2, iv 0, iv 2, iv 0, un] [(.int 0), (.ref u0)])) (fun tz kz => ?_) ?_
  · show sT p e below s₁ (mkF m 0 #[rv u0, iv 0, rv u2, iv 0, iv 2, un, un] []) tz
    refine XS.iconst X0.here hx rfl (hb hby own_d10_0) ?_
    show sT p e below s₁ (mkF m 1 #[rv u0, iv 0, rv u2, iv 0, iv 2, un, un] [(.int 0)]) tz
    refine XS.istore X0.here hx rfl (hb hby own_d10_1) rfl (l' := #[rv u0, iv 0, rv u2, iv 0, iv 2, iv 0, un]) rfl ?_
    show sT p e below s₁ (mkF m 3 #[rv u0, iv 0, rv u2, iv 0, iv 2, iv 0, un] []) tz
    refine XS.iload X0.here hx rfl (hb hby own_d10_3) rfl ?_
    show sT p e below s₁ (mkF m 5 #[rv u0, iv 0, rv u2, iv 0, iv 2, iv 0, un] [(.int 0)]) tz
    refine XS.iload X0.here hx rfl (hb hby own_d10_5) rfl ?_
    show sT p e below s₁ (mkF m 7 #[rv u0, iv 0, rv u2, iv 0, iv 2, iv 0, un] [(.int 2), (.int 0)]) tz
    refine XS.icmpNo X0.here hx rfl (hb hby own_d10_7) rfl (tlt (by decide : (0 : Int32) < (2 : Int32))).2.1 ?_
    show sT p e below s₁ (mkF m 10 #[rv u0, iv 0, rv u2, iv 0, iv 2, iv 0, un] []) tz
    refine XS.aloadN X0.here hx rfl (hb hby own_d10_10) rfl rfl ?_
    show sT p e below s₁ (mkF m 11 #[rv u0, iv 0, rv u2, iv 0, iv 2, iv 0, un] [(.ref u0)]) tz
    refine XS.iloadN X0.here hx rfl (hb hby own_d10_11) rfl ?_
    exact kz
  obtain ⟨cl1, Ar1, q1, S1, M1, H1, G1⟩ := id Vc
  have hin2 : ¬ ((0 : Int32) < 0 ∨ cl1.slots.size ≤ ((0 : Int32)).toNatClampNeg) := inb_of S1 ⟨by decide, by decide⟩
  have hat2 : cl1.slots[((0 : Int32)).toNatClampNeg]? = some (.int x0) := Has.at H1 hin2 rfl
  refine own_on (B := s₁.setTop (mkF m 31 #[rv u0, iv 0, rv u2, iv 0, iv 2, iv 0, iv x0] [(.int (x0.toInt8.toInt32)), (.int 0), (.ref u2)])) (fun tz kz => ?_) ?_
  · show sT p e below s₁ (mkF m 12 #[rv u0, iv 0, rv u2, iv 0, iv 2, iv 0, un] [(.int 0), (.ref u0)]) tz
    refine X0.caload hx (j := (0 : Int32)) (v := (.int x0)) (by rw [e0]; exact Ar1.1) (State.isArrayOf_alike hZ.alike Ar1.2.1) Ar1.2.2 hin2 hat2 (g := (mkF m 12 #[rv u0, iv 0, rv u2, iv 0, iv 2, iv 0, un] [(.int 0), (.ref u0)])) rfl rfl (hb hby own_d10_12) _ ?_
    show sT p e below s₁ (mkF m 13 #[rv u0, iv 0, rv u2, iv 0, iv 2, iv 0, un] [(.int x0)]) tz
    refine XS.istore X0.here hx rfl (hb hby own_d10_13) rfl (l' := #[rv u0, iv 0, rv u2, iv 0, iv 2, iv 0, iv x0]) rfl ?_
    show sT p e below s₁ (mkF m 15 #[rv u0, iv 0, rv u2, iv 0, iv 2, iv 0, iv x0] []) tz
    refine XS.iload X0.here hx rfl (hb hby own_d10_15) rfl ?_
    show sT p e below s₁ (mkF m 17 #[rv u0, iv 0, rv u2, iv 0, iv 2, iv 0, iv x0] [(.int x0)]) tz
    refine XS.sipush X0.here hx rfl (hb hby own_d10_17) ?_
    show sT p e below s₁ (mkF m 20 #[rv u0, iv 0, rv u2, iv 0, iv 2, iv 0, iv x0] [(.int 255), (.int x0)]) tz
    refine XS.icmpYes X0.here hx rfl (pc0 := 20) (pc' := 26) rfl (hb hby own_d10_20) rfl (flt nb0).2.2.2 (by decide) (by decide) ?_
    show sT p e below s₁ (mkF m 26 #[rv u0, iv 0, rv u2, iv 0, iv 2, iv 0, iv x0] []) tz
    refine XS.aloadN X0.here hx rfl (hb hby own_d10_26) rfl rfl ?_
    show sT p e below s₁ (mkF m 27 #[rv u0, iv 0, rv u2, iv 0, iv 2, iv 0, iv x0] [(.ref u2)]) tz
    refine XS.iloadN X0.here hx rfl (hb hby own_d10_27) rfl ?_
    show sT p e below s₁ (mkF m 28 #[rv u0, iv 0, rv u2, iv 0, iv 2, iv 0, iv x0] [(.int 0), (.ref u2)]) tz
    refine XS.iload X0.here hx rfl (hb hby own_d10_28) rfl ?_
    show sT p e below s₁ (mkF m 30 #[rv u0, iv 0, rv u2, iv 0, iv 2, iv 0, iv x0] [(.int x0), (.int 0), (.ref u2)]) tz
    refine XS.i2b X0.here hx rfl (hb hby own_d10_30) rfl ?_
    exact kz
  obtain ⟨cl3, Ar3, q3, S3, M3, H3, G3⟩ := id Vb
  have hin4 : ¬ ((0 : Int32) < 0 ∨ cl3.slots.size ≤ ((0 : Int32)).toNatClampNeg) := inb_of S3 ⟨by decide, by decide⟩
  obtain ⟨T4, h4, X4, e4, W4, st4⟩ := stB X0 hx hZ e0 Ar3 (j := (0 : Int32)) hin4 (g := (mkF m 31 #[rv u0, iv 0, rv u2, iv 0, iv 2, iv 0, iv x0] [(.int (x0.toInt8.toInt32)), (.int 0), (.ref u2)])) rfl rfl (hb hby own_d10_31)
  have V4 : Arv Z h4 u2 kb .byte (2 : Int32) [(.int (nar .byte (x0.toInt8.toInt32))), (.int (0 : Int32))] (.int 0) := Arv.set Ar3 q3 S3 M3 H3 G3 (fits_nar_byte _) W4 0 rfl (Nat.le_of_ble_eq_true rfl)
  have N4 := Fr.snoc X4 N0 g_u2
  have O5 := O0.wr W4 g_u2
  have K5 : Keep h0 h4 [u2] := (Keep.refl h0 [u2]).wr W4 (Or.inl (List.mem_of_getElem? (i := 0) rfl))
  refine own_on (B := T4.setTop (mkF m 32 #[rv u0, iv 0, rv u2, iv 0, iv 2, iv 0, iv x0] [])) (fun tz kz => st4 _ kz) ?_
  refine own_on (B := T4.setTop (mkF m 12 #[rv u0, iv 1, rv u2, iv 1, iv 2, iv 1, iv x0] [(.int 1), (.ref u0)])) (fun tz kz => ?_) ?_
  · show sT p e below T4 (mkF m 32 #[rv u0, iv 0, rv u2, iv 0, iv 2, iv 0, iv x0] []) tz
    refine XS.iinc X4.here hx rfl (hb hby own_d10_32) rfl (l' := #[rv u0, iv 1, rv u2, iv 0, iv 2, iv 0, iv x0]) rfl ?_
    show sT p e below T4 (mkF m 35 #[rv u0, iv 1, rv u2, iv 0, iv 2, iv 0, iv x0] []) tz
    refine XS.iinc X4.here hx rfl (hb hby own_d10_35) rfl (l' := #[rv u0, iv 1, rv u2, iv 1, iv 2, iv 0, iv x0]) rfl ?_
    show sT p e below T4 (mkF m 38 #[rv u0, iv 1, rv u2, iv 1, iv 2, iv 0, iv x0] []) tz
    refine XS.iinc X4.here hx rfl (hb hby own_d10_38) rfl (l' := #[rv u0, iv 1, rv u2, iv 1, iv 2, iv 1, iv x0]) rfl ?_
    show sT p e below T4 (mkF m 41 #[rv u0, iv 1, rv u2, iv 1, iv 2, iv 1, iv x0] []) tz
    refine XS.goto X4.here hx rfl (pc0 := 41) (pc' := 3) rfl (hb hby own_d10_41) (by decide) (by decide) ?_
    show sT p e below T4 (mkF m 3 #[rv u0, iv 1, rv u2, iv 1, iv 2, iv 1, iv x0] []) tz
    refine XS.iload X4.here hx rfl (hb hby own_d10_3) rfl ?_
    show sT p e below T4 (mkF m 5 #[rv u0, iv 1, rv u2, iv 1, iv 2, iv 1, iv x0] [(.int 1)]) tz
    refine XS.iload X4.here hx rfl (hb hby own_d10_5) rfl ?_
    show sT p e below T4 (mkF m 7 #[rv u0, iv 1, rv u2, iv 1, iv 2, iv 1, iv x0] [(.int 2), (.int 1)]) tz
    refine XS.icmpNo X4.here hx rfl (hb hby own_d10_7) rfl (tlt (by decide : (1 : Int32) < (2 : Int32))).2.1 ?_
    show sT p e below T4 (mkF m 10 #[rv u0, iv 1, rv u2, iv 1, iv 2, iv 1, iv x0] []) tz
    refine XS.aloadN X4.here hx rfl (hb hby own_d10_10) rfl rfl ?_
    show sT p e below T4 (mkF m 11 #[rv u0, iv 1, rv u2, iv 1, iv 2, iv 1, iv x0] [(.ref u0)]) tz
    refine XS.iloadN X4.here hx rfl (hb hby own_d10_11) rfl ?_
    exact kz
  have f_6 := (Vc.other W4 n02)
  obtain ⟨cl7, Ar7, q7, S7, M7, H7, G7⟩ := id f_6
  have hin8 : ¬ ((1 : Int32) < 0 ∨ cl7.slots.size ≤ ((1 : Int32)).toNatClampNeg) := inb_of S7 ⟨by decide, by decide⟩
  have hat8 : cl7.slots[((1 : Int32)).toNatClampNeg]? = some (.int x1) := Has.at H7 hin8 rfl
  refine own_on (B := T4.setTop (mkF m 31 #[rv u0, iv 1, rv u2, iv 1, iv 2, iv 1, iv x1] [(.int (x1.toInt8.toInt32)), (.int 1), (.ref u2)])) (fun tz kz => ?_) ?_
  · show sT p e below T4 (mkF m 12 #[rv u0, iv 1, rv u2, iv 1, iv 2, iv 1, iv x0] [(.int 1), (.ref u0)]) tz
    refine X4.caload hx (j := (1 : Int32)) (v := (.int x1)) (by rw [e4]; exact Ar7.1) (State.isArrayOf_alike hZ.alike Ar7.2.1) Ar7.2.2 hin8 hat8 (g := (mkF m 12 #[rv u0, iv 1, rv u2, iv 1, iv 2, iv 1, iv x0] [(.int 1), (.ref u0)])) rfl rfl (hb hby own_d10_12) _ ?_
    show sT p e below T4 (mkF m 13 #[rv u0, iv 1, rv u2, iv 1, iv 2, iv 1, iv x0] [(.int x1)]) tz
    refine XS.istore X4.here hx rfl (hb hby own_d10_13) rfl (l' := #[rv u0, iv 1, rv u2, iv 1, iv 2, iv 1, iv x1]) rfl ?_
    show sT p e below T4 (mkF m 15 #[rv u0, iv 1, rv u2, iv 1, iv 2, iv 1, iv x1] []) tz
    refine XS.iload X4.here hx rfl (hb hby own_d10_15) rfl ?_
    show sT p e below T4 (mkF m 17 #[rv u0, iv 1, rv u2, iv 1, iv 2, iv 1, iv x1] [(.int x1)]) tz
    refine XS.sipush X4.here hx rfl (hb hby own_d10_17) ?_
    show sT p e below T4 (mkF m 20 #[rv u0, iv 1, rv u2, iv 1, iv 2, iv 1, iv x1] [(.int 255), (.int x1)]) tz
    refine XS.icmpYes X4.here hx rfl (pc0 := 20) (pc' := 26) rfl (hb hby own_d10_20) rfl (flt nb1).2.2.2 (by decide) (by decide) ?_
    show sT p e below T4 (mkF m 26 #[rv u0, iv 1, rv u2, iv 1, iv 2, iv 1, iv x1] []) tz
    refine XS.aloadN X4.here hx rfl (hb hby own_d10_26) rfl rfl ?_
    show sT p e below T4 (mkF m 27 #[rv u0, iv 1, rv u2, iv 1, iv 2, iv 1, iv x1] [(.ref u2)]) tz
    refine XS.iloadN X4.here hx rfl (hb hby own_d10_27) rfl ?_
    show sT p e below T4 (mkF m 28 #[rv u0, iv 1, rv u2, iv 1, iv 2, iv 1, iv x1] [(.int 1), (.ref u2)]) tz
    refine XS.iload X4.here hx rfl (hb hby own_d10_28) rfl ?_
    show sT p e below T4 (mkF m 30 #[rv u0, iv 1, rv u2, iv 1, iv 2, iv 1, iv x1] [(.int x1), (.int 1), (.ref u2)]) tz
    refine XS.i2b X4.here hx rfl (hb hby own_d10_30) rfl ?_
    exact kz
  obtain ⟨cl9, Ar9, q9, S9, M9, H9, G9⟩ := id V4
  have hin10 : ¬ ((1 : Int32) < 0 ∨ cl9.slots.size ≤ ((1 : Int32)).toNatClampNeg) := inb_of S9 ⟨by decide, by decide⟩
  obtain ⟨T10, h10, X10, e10, W10, st10⟩ := stB X4 hx hZ e4 Ar9 (j := (1 : Int32)) hin10 (g := (mkF m 31 #[rv u0, iv 1, rv u2, iv 1, iv 2, iv 1, iv x1] [(.int (x1.toInt8.toInt32)), (.int 1), (.ref u2)])) rfl rfl (hb hby own_d10_31)
  have V10 : Arv Z h10 u2 kb .byte (2 : Int32) [(.int (nar .byte (x0.toInt8.toInt32))), (.int (nar .byte (x1.toInt8.toInt32)))] (.int 0) := Arv.set Ar9 q9 S9 M9 H9 G9 (fits_nar_byte _) W10 1 rfl (Nat.le_of_ble_eq_true rfl)
  have N10 := Fr.snoc X10 N4 g_u2
  have O11 := O5.wr W10 g_u2
  have K11 : Keep h0 h10 [u2] := K5.wr W10 (Or.inl (List.mem_of_getElem? (i := 0) rfl))
  refine own_on (B := T10.setTop (mkF m 32 #[rv u0, iv 1, rv u2, iv 1, iv 2, iv 1, iv x1] [])) (fun tz kz => st10 _ kz) ?_
  refine own_on (B := T10.setTop (mkF m 46 #[rv u0, iv 2, rv u2, iv 2, iv 2, iv 2, iv x1] [(.int 2)])) (fun tz kz => ?_) ?_
  · show sT p e below T10 (mkF m 32 #[rv u0, iv 1, rv u2, iv 1, iv 2, iv 1, iv x1] []) tz
    refine XS.iinc X10.here hx rfl (hb hby own_d10_32) rfl (l' := #[rv u0, iv 2, rv u2, iv 1, iv 2, iv 1, iv x1]) rfl ?_
    show sT p e below T10 (mkF m 35 #[rv u0, iv 2, rv u2, iv 1, iv 2, iv 1, iv x1] []) tz
    refine XS.iinc X10.here hx rfl (hb hby own_d10_35) rfl (l' := #[rv u0, iv 2, rv u2, iv 2, iv 2, iv 1, iv x1]) rfl ?_
    show sT p e below T10 (mkF m 38 #[rv u0, iv 2, rv u2, iv 2, iv 2, iv 1, iv x1] []) tz
    refine XS.iinc X10.here hx rfl (hb hby own_d10_38) rfl (l' := #[rv u0, iv 2, rv u2, iv 2, iv 2, iv 2, iv x1]) rfl ?_
    show sT p e below T10 (mkF m 41 #[rv u0, iv 2, rv u2, iv 2, iv 2, iv 2, iv x1] []) tz
    refine XS.goto X10.here hx rfl (pc0 := 41) (pc' := 3) rfl (hb hby own_d10_41) (by decide) (by decide) ?_
    show sT p e below T10 (mkF m 3 #[rv u0, iv 2, rv u2, iv 2, iv 2, iv 2, iv x1] []) tz
    refine XS.iload X10.here hx rfl (hb hby own_d10_3) rfl ?_
    show sT p e below T10 (mkF m 5 #[rv u0, iv 2, rv u2, iv 2, iv 2, iv 2, iv x1] [(.int 2)]) tz
    refine XS.iload X10.here hx rfl (hb hby own_d10_5) rfl ?_
    show sT p e below T10 (mkF m 7 #[rv u0, iv 2, rv u2, iv 2, iv 2, iv 2, iv x1] [(.int 2), (.int 2)]) tz
    refine XS.icmpYes X10.here hx rfl (pc0 := 7) (pc' := 44) rfl (hb hby own_d10_7) rfl (flt Int32.lt_irrefl).2.1 (by decide) (by decide) ?_
    show sT p e below T10 (mkF m 44 #[rv u0, iv 2, rv u2, iv 2, iv 2, iv 2, iv x1] []) tz
    refine XS.iload X10.here hx rfl (hb hby own_d10_44) rfl ?_
    exact kz
  obtain ⟨fs, hr, hrun, hended, hW, hsame⟩ := X10.leave (v := some (.int (2 : Int32))) (fun h => by rw [Bd.returns] at h; cases h)
  refine own_of ⟨_, _, ?_, hrun, hended, _, _, rfl, ?_, ⟨_, rfl⟩, hW, hsame.mono (by decide) (by decide)⟩
  · show sT p e below T10 (mkF m 46 #[rv u0, iv 2, rv u2, iv 2, iv 2, iv 2, iv x1] [(.int 2)]) _
    exact own_retI X10 hx Bd.returns (hb hby own_d10_46) hr
  · show Q10b Z u0 u2 kx kb x0 x1 h0 n0 _ T10.heap _
    rw [e10]
    exact ⟨rfl, N10, K11, V10⟩
theorem own_ef_9b (m : MethodId) (x0 : Addr) (x1 : Int32) (x2 : Int32) : entryFrame m #[(.ref x0), (.int x1), (.int x2)] 6 = mkF m 0 #[rv x0, iv x1, iv x2, .unset, .unset, .unset] [] := by first | (simp [entryFrame, mkF, argsToLocals, Value.category]; done) | rfl
def Q9b (Z : State) (u0 : Addr) (kx : ClassId) (x0 : Int32) (x1 : Int32) (h0 : Heap) (n0 : Nat) (v : Option Value) (h : Heap) (L : List Loc) : Prop := ∃ (d : Addr) (kd : ClassId), v = some (.ref d) ∧ Fr n0 L ∧ Keep h0 h [] ∧ h0.size ≤ d ∧ Exa Z h d "[B" ∧ Arv Z h d kd .byte (2 : Int32) [(.int (nar .byte (x0.toInt8.toInt32))), (.int (nar .byte (x1.toInt8.toInt32)))] (.int 0)
set_option maxRecDepth 65536 in
set_option maxHeartbeats 40000000 in
theorem rm9b (l : Launch) (Z : State) (a0 : Array Value) (hw : ∀ d ∈ tables_1, d.before a0 Z = true) (ws : List Jvm.Cond) (u0 : Addr) (kx : ClassId) (x0 : Int32) (x1 : Int32) (h0 : Heap) (n0 : Nat) (O0 : Old Z n0 h0) (Vc : Arv Z h0 u0 kx .char (2 : Int32) [(.int x0), (.int x1)] (.int 0)) (nb0 : ¬ (255 : Int32) < x0) (nb1 : ¬ (255 : Int32) < x1) :
    MetFree l (⟨"java/lang/StringUTF16", "compress", "([CII)[B"⟩ : MethodName) (head1 (Jvm.Cond.code (⟨"java/lang/StringUTF16", "compress", "([CII)[B"⟩ : MethodName) jdk_52_method_16_code 6 (some (.array .byte)) :: ws) ({ frames := 1, cells := 1, slots := 2, locals := 20 } : Room)) (fun a U => a = #[(.ref u0), (.int (0 : Int32)), (.int (2 : Int32))] ∧ Z.Warmed39 U.vm ∧ U.heap = h0) (fun _ _ _ _ _ => True) (fun _ U o U' => ∃ v L, o = .returned v ∧ Q9b Z u0 kx x0 x1 h0 n0 v U'.heap L ∧ FrameEnd U o U' L ({ frames := 1, cells := 1, slots := 2, locals := 20 } : Room).cells ({ frames := 1, cells := 1, slots := 2, locals := 20 } : Room).slots) := by
  refine MetFree.of_bodySF (plainFor_of_name own_pn_java_lang_StringUTF16) hisR ?_
  intro p e s m args below meth c s₁ Bd hml0 hP hK
  obtain ⟨rfl, hZ, hh⟩ := hP
  have hx := Bd.exec
  have hby := Bd.bytes
  have hml : c.maxLocals = 6 := hml0
  have hown : s.vm.findClass "java/lang/StringUTF16" = some m.cls := findClass_of_methodNamed Bd.named
  have hnm := (name_of_methodNamed Bd.named Bd.method).1
  have X0 : Stand p l e ({ frames := 1, cells := 1, slots := 2, locals := 20 } : Room) s m #[(.ref u0), (.int (0 : Int32)), (.int (2 : Int32))] below meth c s₁ [] 0 0 := Stand.of_body Bd
  have e0 : s₁.heap = h0 := by rw [← hh, Bd.state]; rfl
  have N0 := Fr.nil n0
  change Go p.tables e below _ _
  refine own_on (B := s₁.setTop (mkF m 0 #[rv u0, iv 0, iv 2, un, un, un] [])) (fun tz kz => castTop (own_ef_9b m u0 (0 : Int32) (2 : Int32)) kz) ?_
  refine own_on (B := s₁.setTop (mkF m 1 #[rv u0, iv 0, iv 2, un, un, un] [(.int 2)])) (fun tz kz => ?_) ?_
  · show sT p e below s₁ (mkF m 0 #[rv u0, iv 0, iv 2, un, un, un] []) tz
    refine XS.iloadN X0.here hx rfl (hb hby own_d9_0) rfl ?_
    exact kz
  obtain ⟨T1, h1, k1, X1, e1, E1, A1, Ex1, st1⟩ := newPE X0 hx hZ (own_w hw 22 rfl) e0 (g := (mkF m 1 #[rv u0, iv 0, iv 2, un, un, un] [(.int 2)])) rfl (hb hby own_d9_1) rfl (by decide) (cap := 2) (by decide) (by decide) (by decide) (by decide) (ad := "[B") (by decide)
  obtain ⟨b1, g1⟩ : ∃ z, z = h0.size := ⟨_, rfl⟩
  rw [← g1] at A1 st1
  rw [← g1] at Ex1
  have ne_u0_b1 : u0 ≠ b1 := Nat.ne_of_lt (Nat.lt_of_lt_of_le (Vc).lt (Nat.le_of_eq g1.symm))
  have g_b1 : n0 ≤ b1 := Nat.le_trans (own_old O0) (Nat.le_of_eq g1.symm)
  have sz_b1 : h0.size ≤ b1 := Nat.le_trans (Keep.refl h0 []).1 (Nat.le_of_eq g1.symm)
  have O2 := O0.ext E1
  have K2 : Keep h0 h1 [] := (Keep.refl h0 []).ext E1
  have V1 : Arv Z h1 b1 k1 .byte (2 : Int32) [(.int (0 : Int32)), (.int (0 : Int32))] (.int (0 : Int32)) := (Arv.new A1 (by decide)).pad (pad_rep [] (.int (0 : Int32)) 2)
  refine own_on (B := T1.setTop (mkF m 3 #[rv u0, iv 0, iv 2, un, un, un] [(.ref b1)])) (fun tz kz => st1 _ kz) ?_
  have f_3 := (Vc.ext E1)
  refine own_on (B := T1.setTop (mkF m 9 #[rv u0, iv 0, iv 2, rv b1, un, un] [(.int 2), (.int 0), (.ref b1), (.int 0), (.ref u0)])) (fun tz kz => ?_) ?_
  · show sT p e below T1 (mkF m 3 #[rv u0, iv 0, iv 2, un, un, un] [(.ref b1)]) tz
    refine XS.astoreN X1.here hx rfl (hb hby own_d9_3) rfl rfl (l' := #[rv u0, iv 0, iv 2, rv b1, un, un]) rfl ?_
    show sT p e below T1 (mkF m 4 #[rv u0, iv 0, iv 2, rv b1, un, un] []) tz
    refine XS.aloadN X1.here hx rfl (hb hby own_d9_4) rfl rfl ?_
    show sT p e below T1 (mkF m 5 #[rv u0, iv 0, iv 2, rv b1, un, un] [(.ref u0)]) tz
    refine XS.iloadN X1.here hx rfl (hb hby own_d9_5) rfl ?_
    show sT p e below T1 (mkF m 6 #[rv u0, iv 0, iv 2, rv b1, un, un] [(.int 0), (.ref u0)]) tz
    refine XS.aloadN X1.here hx rfl (hb hby own_d9_6) rfl rfl ?_
    show sT p e below T1 (mkF m 7 #[rv u0, iv 0, iv 2, rv b1, un, un] [(.ref b1), (.int 0), (.ref u0)]) tz
    refine XS.iconst X1.here hx rfl (hb hby own_d9_7) ?_
    show sT p e below T1 (mkF m 8 #[rv u0, iv 0, iv 2, rv b1, un, un] [(.int 0), (.ref b1), (.int 0), (.ref u0)]) tz
    refine XS.iloadN X1.here hx rfl (hb hby own_d9_8) rfl ?_
    exact kz
  obtain ⟨_, _, ⟨T4, L4, k4, n4⟩, -, X4, ⟨Lc4, hQ4, l4, y4, z4⟩, st4⟩ := Jvm.LawKit.callS X1 hx (y := (⟨"java/lang/StringUTF16", "compress", "([CI[BII)I"⟩ : MethodName)) hown (mvT hZ (own_w hw 51 rfl)) (mvT hZ (own_w hw 52 rfl)) (mvT hZ (own_w hw 49 rfl)) (mvT hZ (own_w hw 53 rfl)) (by decide) (backOf (W := 0) (rm10b l Z a0 hw [] u0 b1 kx k1 x0 x1 h1 n0 O2 f_3 V1 g_b1 ne_u0_b1 nb0 nb1) hZ (own_w hw 53 rfl) (own_w hw 49 rfl) (by decide) (by decide)) (g := (mkF m 9 #[rv u0, iv 0, iv 2, rv b1, un, un] [(.int 2), (.int 0), (.ref b1), (.int 0), (.ref u0)])) rfl (by rw [hml]; rfl) (argsL := [(.ref u0), (.int (0 : Int32)), (.ref b1), (.int (0 : Int32)), (.int (2 : Int32))]) (rest := []) (lenOf own_pd0 rfl) rfl (by show 2 * 0 + _ ≤ _; exact Nat.le_of_eq rfl) (hb hby own_d9_9) (fun _ _ => ⟨rfl, e1, (by decide : 1 + 0 ≤ _), (by decide : 2 + 0 ≤ _)⟩)
  dsimp only [Pt.U, Pt.locs, Pt.cells, Pt.slots] at X4 l4 y4 z4 st4 hQ4
  subst l4 y4 z4
  obtain ⟨rfl, Nq4, Kq4, Vq4⟩ := hQ4
  have N4 := Fr.app N0 Nq4
  have O5 := O2.keep Kq4 (allS g_b1 all0)
  have K5 : Keep h0 T4.heap [] := K2.trans Kq4 (allS (Or.inr sz_b1) all0)
  refine own_on (B := T4.setTop (mkF m 12 #[rv u0, iv 0, iv 2, rv b1, un, un] [(.int 2)])) (fun tz kz => st4 _ kz) ?_
  have f_6 := (Ex1.keep Kq4)
  refine own_on (B := T4.setTop (mkF m 58 #[rv u0, iv 0, iv 2, rv b1, iv 2, un] [(.ref b1)])) (fun tz kz => ?_) ?_
  · show sT p e below T4 (mkF m 12 #[rv u0, iv 0, iv 2, rv b1, un, un] [(.int 2)]) tz
    refine XS.istore X4.here hx rfl (hb hby own_d9_12) rfl (l' := #[rv u0, iv 0, iv 2, rv b1, iv 2, un]) rfl ?_
    show sT p e below T4 (mkF m 14 #[rv u0, iv 0, iv 2, rv b1, iv 2, un] []) tz
    refine XS.iload X4.here hx rfl (hb hby own_d9_14) rfl ?_
    show sT p e below T4 (mkF m 16 #[rv u0, iv 0, iv 2, rv b1, iv 2, un] [(.int 2)]) tz
    refine XS.iloadN X4.here hx rfl (hb hby own_d9_16) rfl ?_
    show sT p e below T4 (mkF m 17 #[rv u0, iv 0, iv 2, rv b1, iv 2, un] [(.int 2), (.int 2)]) tz
    refine XS.icmpYes X4.here hx rfl (pc0 := 17) (pc' := 57) rfl (hb hby own_d9_17) rfl (teq rfl).1 (by decide) (by decide) ?_
    show sT p e below T4 (mkF m 57 #[rv u0, iv 0, iv 2, rv b1, iv 2, un] []) tz
    refine XS.aloadN X4.here hx rfl (hb hby own_d9_57) rfl rfl ?_
    exact kz
  obtain ⟨fs, hr, hrun, hended, hW, hsame⟩ := X4.leave (v := some (.ref b1)) (fun h => by rw [Bd.returns] at h; cases h)
  refine own_of ⟨_, _, ?_, hrun, hended, _, _, rfl, ?_, ⟨_, rfl⟩, hW, hsame.mono (by decide) (by decide)⟩
  · show sT p e below T4 (mkF m 58 #[rv u0, iv 0, iv 2, rv b1, iv 2, un] [(.ref b1)]) _
    exact own_retV X4 hx Bd.returns rfl rfl (hb hby own_d9_58) hr
  · show Q9b Z u0 kx x0 x1 h0 n0 _ T4.heap _
    exact ⟨b1, _, rfl, N4, K5, sz_b1, f_6, Vq4⟩
theorem own_pn_java_lang_String : plainName "java/lang/String" = true := by first | (simp [plainName, overriddenIn]; done) | decide +kernel
theorem own_ef_4z (m : MethodId) (x0 : Addr) (x1 : Addr) (x2 : Int32) (x3 : Int32) : entryFrame m #[(.ref x0), (.ref x1), (.int x2), (.int x3), .null] 6 = mkF m 0 #[rv x0, rv x1, iv x2, iv x3, .val .null, .unset] [] := by first | (simp [entryFrame, mkF, argsToLocals, Value.category]; done) | rfl
def Q4z (Z : State) (u0 : Addr) (u1 : Addr) (h0 : Heap) (n0 : Nat) (v : Option Value) (h : Heap) (L : List Loc) (vm : Vm) : Prop := ∃ (la lb : Addr) (lk : ClassId), v = none ∧ Fr n0 L ∧ Keep h0 h [u0] ∧ Exa Z h la "java/lang/String" ∧ Fld Z h la "java/lang/String" "coder" "B" (.int (0 : Int32)) ∧ Fld Z h la "java/lang/String" "value" "[B" (.ref lb) ∧ Arv Z h lb lk .byte (0 : Int32) [] (.int 0) ∧ Fld Z h u0 "java/lang/String" "value" "[B" (.ref lb) ∧ Fld Z h u0 "java/lang/String" "coder" "B" (.int (0 : Int32)) ∧ Fld Z h u0 "java/lang/String" "hash" "I" (.int (0 : Int32)) ∧ Fld Z h u0 "java/lang/String" "hashIsZero" "Z" (.int (0 : Int32)) ∧ (OwnJ Z [""] [("java/lang/String", 7, la)]) vm
theorem own_d4_0 : decode jdk_42_method_149_code 0 = .ok (.aload_n 0, 1) := by decide +kernel
theorem own_d4_1 : decode jdk_42_method_149_code 1 = .ok (.invokespecial 1, 3) := by decide +kernel
theorem own_d4_4 : decode jdk_42_method_149_code 4 = .ok (.iload_n 3, 1) := by decide +kernel
theorem own_d4_5 : decode jdk_42_method_149_code 5 = .ok (.ifCond .ne 22, 3) := by decide +kernel
theorem own_d4_8 : decode jdk_42_method_149_code 8 = .ok (.aload_n 0, 1) := by decide +kernel
theorem own_d4_9 : decode jdk_42_method_149_code 9 = .ok (.ldc 7, 2) := by decide +kernel
theorem own_d4_11 : decode jdk_42_method_149_code 11 = .ok (.getfield 9, 3) := by decide +kernel
theorem own_d4_14 : decode jdk_42_method_149_code 14 = .ok (.putfield 9, 3) := by decide +kernel
theorem own_d4_17 : decode jdk_42_method_149_code 17 = .ok (.aload_n 0, 1) := by decide +kernel
theorem own_d4_18 : decode jdk_42_method_149_code 18 = .ok (.ldc 7, 2) := by decide +kernel
theorem own_d4_20 : decode jdk_42_method_149_code 20 = .ok (.getfield 15, 3) := by decide +kernel
theorem own_d4_23 : decode jdk_42_method_149_code 23 = .ok (.putfield 15, 3) := by decide +kernel
theorem own_d4_26 : decode jdk_42_method_149_code 26 = .ok (.return_, 1) := by decide +kernel
set_option maxRecDepth 65536 in
set_option maxHeartbeats 40000000 in
theorem rm4z (l : Launch) (Z : State) (a0 : Array Value) (hw : ∀ d ∈ tables_1, d.before a0 Z = true) (ws : List Jvm.Cond) (u0 : Addr) (u1 : Addr) (h0 : Heap) (n0 : Nat) (O0 : Old Z n0 h0) (E_u0 : Exa Z h0 u0 "java/lang/String") (g_u0 : n0 ≤ u0) (F_value : Fld Z h0 u0 "java/lang/String" "value" "[B" .null) (F_coder : Fld Z h0 u0 "java/lang/String" "coder" "B" (.int (0 : Int32))) (F_hash : Fld Z h0 u0 "java/lang/String" "hash" "I" (.int (0 : Int32))) (F_hashIsZero : Fld Z h0 u0 "java/lang/String" "hashIsZero" "Z" (.int (0 : Int32))) (hheld : Jvm.Lit.constHeld Z "java/lang/String" 7) (hcw : Jvm.Lit.compactW.before a0 Z = true) :
    MetFree l (⟨"java/lang/String", "<init>", "([CIILjava/lang/Void;)V"⟩ : MethodName) (head1 (Jvm.Cond.code (⟨"java/lang/String", "<init>", "([CIILjava/lang/Void;)V"⟩ : MethodName) jdk_42_method_149_code 6 none :: ws) ({ frames := 1, cells := 2, slots := 4, locals := 12 } : Room)) (fun a U => a = #[(.ref u0), (.ref u1), (.int (0 : Int32)), (.int (0 : Int32)), .null] ∧ Z.Warmed39 U.vm ∧ U.heap = h0 ∧ OwnJ Z [] [] U.vm) (fun _ _ _ _ _ => True) (fun _ U o U' => ∃ v L, o = .returned v ∧ Q4z Z u0 u1 h0 n0 v U'.heap L U'.vm ∧ ReturnedEndW U o U' L ({ frames := 1, cells := 2, slots := 4, locals := 12 } : Room).cells ({ frames := 1, cells := 2, slots := 4, locals := 12 } : Room).slots) := by
  refine MetFree.of_bodySF (plainFor_of_name own_pn_java_lang_String) hisR ?_
  intro p e s m args below meth c s₁ Bd hml0 hP hK
  obtain ⟨rfl, hZ, hh, hJ⟩ := hP
  have hx := Bd.exec
  have hby := Bd.bytes
  have hml : c.maxLocals = 6 := hml0
  have hown : s.vm.findClass "java/lang/String" = some m.cls := findClass_of_methodNamed Bd.named
  have hnm := (name_of_methodNamed Bd.named Bd.method).1
  have X0 : Stand p l e ({ frames := 1, cells := 2, slots := 4, locals := 12 } : Room) s m #[(.ref u0), (.ref u1), (.int (0 : Int32)), (.int (0 : Int32)), .null] below meth c s₁ [] 0 0 := Stand.of_body Bd
  have e0 : s₁.heap = h0 := by rw [← hh, Bd.state]; rfl
  have N0 := Fr.nil n0
  change Go p.tables e below _ _
  refine own_on (B := s₁.setTop (mkF m 0 #[rv u0, rv u1, iv 0, iv 0, .val .null, un] [])) (fun tz kz => castTop (own_ef_4z m u0 u1 (0 : Int32) (0 : Int32)) kz) ?_
  have own_strw : ∀ a ∈ Bundle.stringAtoms, a.before a0 Z = true := by
    intro d hd
    simp only [Bundle.stringAtoms, List.mem_cons, List.not_mem_nil, or_false] at hd
    rcases hd with rfl | rfl | rfl | rfl | rfl | rfl | rfl
    · exact (own_w hw 9 rfl)
    · exact (own_w hw 8 rfl)
    · exact (own_w hw 22 rfl)
    · exact (own_w hw 23 rfl)
    · exact (own_w hw 24 rfl)
    · exact (own_w hw 25 rfl)
    · exact (own_w hw 26 rfl)
  refine own_on (B := s₁.setTop (mkF m 1 #[rv u0, rv u1, iv 0, iv 0, .val .null, un] [(.ref u0)])) (fun tz kz => ?_) ?_
  · show sT p e below s₁ (mkF m 0 #[rv u0, rv u1, iv 0, iv 0, .val .null, un] []) tz
    refine XS.aloadN X0.here hx rfl (hb hby own_d4_0) rfl rfl ?_
    exact kz
  obtain ⟨T1, X1, e1, st1⟩ := initO X0 hx hZ hown (own_w hw 18 rfl) (own_w hw 19 rfl) (own_w hw 20 rfl) e0 (g := (mkF m 1 #[rv u0, rv u1, iv 0, iv 0, .val .null, un] [(.ref u0)])) rfl (by rw [hml]; rfl) rfl (hb hby own_d4_1) (by decide) (W := 0) (by show 2 * 0 + _ ≤ _; exact Nat.le_of_eq rfl) (by decide)
  refine own_on (B := T1.setTop (mkF m 4 #[rv u0, rv u1, iv 0, iv 0, .val .null, un] [])) (fun tz kz => st1 _ kz) ?_
  refine own_on (B := T1.setTop (mkF m 9 #[rv u0, rv u1, iv 0, iv 0, .val .null, un] [(.ref u0)])) (fun tz kz => ?_) ?_
  · show sT p e below T1 (mkF m 4 #[rv u0, rv u1, iv 0, iv 0, .val .null, un] []) tz
    refine XS.iloadN X1.here hx rfl (hb hby own_d4_4) rfl ?_
    show sT p e below T1 (mkF m 5 #[rv u0, rv u1, iv 0, iv 0, .val .null, un] [(.int 0)]) tz
    refine XS.ifNo X1.here hx rfl (hb hby own_d4_5) rfl ((if0 _ _).trans (teq rfl).2) ?_
    show sT p e below T1 (mkF m 8 #[rv u0, rv u1, iv 0, iv 0, .val .null, un] []) tz
    refine XS.aloadN X1.here hx rfl (hb hby own_d4_8) rfl rfl ?_
    exact kz
  have hS2 : s.Since s.vm 0 := State.WarmedH.since (State.WarmedH.refl s) 0
  obtain ⟨a3, T3, h3, k3, b3, kb3, X3, e3, E3, hS3, hk3, hZ, hown, Ea3, Ca3, Va3, Wa3, lta3, ltb3, Ib3, Li3, st3⟩ := own_ldcT (show Stand p l e ({ frames := 1, cells := 2, slots := 4, locals := 12 } : Room) (s.setVm s.vm) m _ below meth c T1 _ _ _ from X1) hx hZ hown (own_w hw 21 rfl) own_strw e1 hS2 (Nat.zero_le _) O0.2.2 (Ts := []) (hJ).1 (by simp) hheld hcw (vs := []) (z := 0) ⟨by decide, rfl⟩ (by decide) rfl (g := (mkF m 9 #[rv u0, rv u1, iv 0, iv 0, .val .null, un] [(.ref u0)])) rfl (hb hby own_d4_9) (n := 0) (by decide) (by decide) (by decide) (by decide)
  have O4 := O0.ext E3
  have K4 : Keep h0 h3 [u0] := (Keep.refl h0 [u0]).ext E3
  have Jl3 := OwnJ.lit Ib3 Li3
  refine own_on (B := T3.setTop (mkF m 11 #[rv u0, rv u1, iv 0, iv 0, .val .null, un] [(.ref a3), (.ref u0)])) (fun tz kz => st3 _ kz) ?_
  have f_5 := (F_value.ext E3)
  have ne_a : a3 ≠ u0 := (Va3).ne (f_5) (by simp)
  have f_6 := (E_u0.ext E3)
  have ne_b : b3 ≠ u0 := Ne.symm (Exa.neArv (f_6) (Wa3) (own_w hw 8 rfl))
  obtain ⟨T7, X7, e7, st7⟩ := getF X3 hx hZ hown (host := "") (Or.inl (own_w hw 27 rfl)) Via.refl e3 Va3 (g := (mkF m 11 #[rv u0, rv u1, iv 0, iv 0, .val .null, un] [(.ref a3), (.ref u0)])) rfl rfl (hb hby own_d4_11)
  refine own_on (B := T7.setTop (mkF m 14 #[rv u0, rv u1, iv 0, iv 0, .val .null, un] [(.ref b3), (.ref u0)])) (fun tz kz => st7 _ kz) ?_
  obtain ⟨T8, h8, X8, e8, W8, st8⟩ := putF X7 hx hZ hown (host := "") (Or.inl (own_w hw 27 rfl)) Via.refl e7 f_5 f_6 (Or.inr ⟨(own_w hw 23 rfl), rfl, hnm⟩) (own_w hw 8 rfl) (ty := (.array .byte)) (by decide) rfl rfl (g := (mkF m 14 #[rv u0, rv u1, iv 0, iv 0, .val .null, un] [(.ref b3), (.ref u0)])) rfl rfl (hb hby own_d4_14)
  have Fw8 := f_5.same W8
  have N8 := Fr.snoc X8 N0 g_u0
  have O9 := O4.wr W8 g_u0
  have K9 : Keep h0 h8 [u0] := K4.wr W8 (Or.inl (List.mem_of_getElem? (i := 0) rfl))
  refine own_on (B := T8.setTop (mkF m 17 #[rv u0, rv u1, iv 0, iv 0, .val .null, un] [])) (fun tz kz => st8 _ kz) ?_
  refine own_on (B := T8.setTop (mkF m 20 #[rv u0, rv u1, iv 0, iv 0, .val .null, un] [(.ref a3), (.ref u0)])) (fun tz kz => ?_) ?_
  · show sT p e below T8 (mkF m 17 #[rv u0, rv u1, iv 0, iv 0, .val .null, un] []) tz
    refine XS.aloadN X8.here hx rfl (hb hby own_d4_17) rfl rfl ?_
    show sT p e below T8 (mkF m 18 #[rv u0, rv u1, iv 0, iv 0, .val .null, un] [(.ref u0)]) tz
    refine ldcAgain X8 hx hZ hown (own_w hw 21 rfl) Li3 (g := (mkF m 18 #[rv u0, rv u1, iv 0, iv 0, .val .null, un] [(.ref u0)])) rfl (hb hby own_d4_18) _ ?_
    exact kz
  have f_10 := (Ca3.other W8 (Or.inl ne_a))
  obtain ⟨T11, X11, e11, st11⟩ := getF X8 hx hZ hown (host := "") (Or.inl (own_w hw 28 rfl)) Via.refl e8 f_10 (g := (mkF m 20 #[rv u0, rv u1, iv 0, iv 0, .val .null, un] [(.ref a3), (.ref u0)])) rfl rfl (hb hby own_d4_20)
  refine own_on (B := T11.setTop (mkF m 23 #[rv u0, rv u1, iv 0, iv 0, .val .null, un] [(.int 0), (.ref u0)])) (fun tz kz => st11 _ kz) ?_
  have f_12 := ((F_coder.ext E3).other W8 (Or.inr (slot_ne (Or.inr (own_w hw 24 rfl)) (Or.inr (own_w hw 23 rfl)) (by decide) (t := .byte) (t' := (.array .byte)) (by decide) (by decide))))
  have f_13 := (f_6.wr W8)
  obtain ⟨T14, h14, X14, e14, W14, st14⟩ := putFN X11 hx hZ hown (own_w hw 28 rfl) Via.refl e11 f_12 f_13 (Or.inr ⟨(own_w hw 24 rfl), rfl, hnm⟩) (own_w hw 8 rfl) (ty := .byte) (v' := (.int (0 : Int32))) (by decide) rfl rfl (g := (mkF m 23 #[rv u0, rv u1, iv 0, iv 0, .val .null, un] [(.int 0), (.ref u0)])) rfl rfl (hb hby own_d4_23)
  have Fw14 := f_12.same W14
  have N14 := Fr.snoc X14 N8 g_u0
  have O15 := O9.wr W14 g_u0
  have K15 : Keep h0 h14 [u0] := K9.wr W14 (Or.inl (List.mem_of_getElem? (i := 0) rfl))
  refine own_on (B := T14.setTop (mkF m 26 #[rv u0, rv u1, iv 0, iv 0, .val .null, un] [])) (fun tz kz => st14 _ kz) ?_
  have f_16 := ((Ea3.wr W8).wr W14)
  have f_17 := (f_10.other W14 (Or.inl ne_a))
  have f_18 := ((Va3.other W8 (Or.inl ne_a)).other W14 (Or.inl ne_a))
  have f_19 := ((Wa3.other W8 ne_b).other W14 ne_b)
  have f_20 := (Fw8.other W14 (Or.inr (slot_ne (Or.inr (own_w hw 23 rfl)) (Or.inr (own_w hw 24 rfl)) (by decide) (t := (.array .byte)) (t' := .byte) (by decide) (by decide))))
  have f_21 := (((F_hash.ext E3).other W8 (Or.inr (slot_ne (Or.inl (own_w hw 63 rfl)) (Or.inr (own_w hw 23 rfl)) (by decide) (t := .int) (t' := (.array .byte)) (by decide) (by decide)))).other W14 (Or.inr (slot_ne (Or.inl (own_w hw 63 rfl)) (Or.inr (own_w hw 24 rfl)) (by decide) (t := .int) (t' := .byte) (by decide) (by decide))))
  have f_22 := (((F_hashIsZero.ext E3).other W8 (Or.inr (slot_ne (Or.inl (own_w hw 65 rfl)) (Or.inr (own_w hw 23 rfl)) (by decide) (t := .boolean) (t' := (.array .byte)) (by decide) (by decide)))).other W14 (Or.inr (slot_ne (Or.inl (own_w hw 65 rfl)) (Or.inr (own_w hw 24 rfl)) (by decide) (t := .boolean) (t' := .byte) (by decide) (by decide))))
  have f_23 := (Nat.le_trans (Nat.le_trans hk3 (Nat.le_of_eq W8.size.symm)) (Nat.le_of_eq W14.size.symm))
  obtain ⟨fs, hr, hrun, hended, hRW⟩ := Jvm.Stand.leaveW X14 hS3 (by rw [e14]; exact f_23) (v := none) (fun _ => rfl)
  refine own_of ⟨_, _, ?_, hrun, hended, _, _, rfl, ?_, hRW.1, hRW.2.1, hRW.2.2.1, hRW.2.2.2.mono (by decide) (by decide)⟩
  · show sT p e below T14 (mkF m 26 #[rv u0, rv u1, iv 0, iv 0, .val .null, un] []) _
    exact X14.returnOut hx Bd.returns (hb hby own_d4_26) hr
  · show Q4z Z u0 u1 h0 n0 _ T14.heap _ T14.vm
    rw [e14]
    exact ⟨a3, b3, _, rfl, N14, K15, f_16, f_17, f_18, f_19, f_20, Fw14, f_21, f_22, (OwnJ.warm (s := (s.setVm T3.vm)) Jl3 _ X14.warmed)⟩
theorem own_ef_4y (m : MethodId) (x0 : Addr) (x1 : Addr) (x2 : Int32) (x3 : Int32) : entryFrame m #[(.ref x0), (.ref x1), (.int x2), (.int x3), .null] 6 = mkF m 0 #[rv x0, rv x1, iv x2, iv x3, .val .null, .unset] [] := by first | (simp [entryFrame, mkF, argsToLocals, Value.category]; done) | rfl
def Q4y (Z : State) (u0 : Addr) (u1 : Addr) (la : Addr) (lb : Addr) (lk : ClassId) (h0 : Heap) (n0 : Nat) (v : Option Value) (h : Heap) (L : List Loc) : Prop := v = none ∧ Fr n0 L ∧ Keep h0 h [u0] ∧ Fld Z h u0 "java/lang/String" "value" "[B" (.ref lb) ∧ Fld Z h u0 "java/lang/String" "coder" "B" (.int (0 : Int32)) ∧ Fld Z h u0 "java/lang/String" "hash" "I" (.int (0 : Int32)) ∧ Fld Z h u0 "java/lang/String" "hashIsZero" "Z" (.int (0 : Int32))
set_option maxRecDepth 65536 in
set_option maxHeartbeats 40000000 in
theorem rm4y (l : Launch) (Z : State) (a0 : Array Value) (hw : ∀ d ∈ tables_1, d.before a0 Z = true) (ws : List Jvm.Cond) (u0 : Addr) (u1 : Addr) (la : Addr) (lb : Addr) (lk : ClassId) (h0 : Heap) (n0 : Nat) (O0 : Old Z n0 h0) (E_u0 : Exa Z h0 u0 "java/lang/String") (g_u0 : n0 ≤ u0) (F_value : Fld Z h0 u0 "java/lang/String" "value" "[B" .null) (F_coder : Fld Z h0 u0 "java/lang/String" "coder" "B" (.int (0 : Int32))) (F_hash : Fld Z h0 u0 "java/lang/String" "hash" "I" (.int (0 : Int32))) (F_hashIsZero : Fld Z h0 u0 "java/lang/String" "hashIsZero" "Z" (.int (0 : Int32))) (La : Exa Z h0 la "java/lang/String") (Lc : Fld Z h0 la "java/lang/String" "coder" "B" (.int (0 : Int32))) (Lv : Fld Z h0 la "java/lang/String" "value" "[B" (.ref lb)) (Lb : Arv Z h0 lb lk .byte (0 : Int32) [] (.int 0)) :
    MetFree l (⟨"java/lang/String", "<init>", "([CIILjava/lang/Void;)V"⟩ : MethodName) (head1 (Jvm.Cond.code (⟨"java/lang/String", "<init>", "([CIILjava/lang/Void;)V"⟩ : MethodName) jdk_42_method_149_code 6 none :: ws) ({ frames := 1, cells := 0, slots := 0, locals := 12 } : Room)) (fun a U => a = #[(.ref u0), (.ref u1), (.int (0 : Int32)), (.int (0 : Int32)), .null] ∧ Z.Warmed39 U.vm ∧ U.heap = h0 ∧ (OwnJ Z [""] [("java/lang/String", 7, la)]) U.vm) (fun _ _ _ _ _ => True) (fun _ U o U' => ∃ v L, o = .returned v ∧ Q4y Z u0 u1 la lb lk h0 n0 v U'.heap L ∧ ReturnedEndW U o U' L ({ frames := 1, cells := 0, slots := 0, locals := 12 } : Room).cells ({ frames := 1, cells := 0, slots := 0, locals := 12 } : Room).slots) := by
  refine MetFree.of_bodySF (plainFor_of_name own_pn_java_lang_String) hisR ?_
  intro p e s m args below meth c s₁ Bd hml0 hP hK
  obtain ⟨rfl, hZ, hh, hJ⟩ := hP
  have hx := Bd.exec
  have hby := Bd.bytes
  have hml : c.maxLocals = 6 := hml0
  have hown : s.vm.findClass "java/lang/String" = some m.cls := findClass_of_methodNamed Bd.named
  have hnm := (name_of_methodNamed Bd.named Bd.method).1
  have X0 : Stand p l e ({ frames := 1, cells := 0, slots := 0, locals := 12 } : Room) s m #[(.ref u0), (.ref u1), (.int (0 : Int32)), (.int (0 : Int32)), .null] below meth c s₁ [] 0 0 := Stand.of_body Bd
  have e0 : s₁.heap = h0 := by rw [← hh, Bd.state]; rfl
  have N0 := Fr.nil n0
  change Go p.tables e below _ _
  refine own_on (B := s₁.setTop (mkF m 0 #[rv u0, rv u1, iv 0, iv 0, .val .null, un] [])) (fun tz kz => castTop (own_ef_4y m u0 u1 (0 : Int32) (0 : Int32)) kz) ?_
  have ne_a : la ≠ u0 := (Lv).ne (F_value) (by simp)
  have ne_b : lb ≠ u0 := Ne.symm (Exa.neArv (E_u0) (Lb) (own_w hw 8 rfl))
  refine own_on (B := s₁.setTop (mkF m 1 #[rv u0, rv u1, iv 0, iv 0, .val .null, un] [(.ref u0)])) (fun tz kz => ?_) ?_
  · show sT p e below s₁ (mkF m 0 #[rv u0, rv u1, iv 0, iv 0, .val .null, un] []) tz
    refine XS.aloadN X0.here hx rfl (hb hby own_d4_0) rfl rfl ?_
    exact kz
  obtain ⟨T1, X1, e1, st1⟩ := initO X0 hx hZ hown (own_w hw 18 rfl) (own_w hw 19 rfl) (own_w hw 20 rfl) e0 (g := (mkF m 1 #[rv u0, rv u1, iv 0, iv 0, .val .null, un] [(.ref u0)])) rfl (by rw [hml]; rfl) rfl (hb hby own_d4_1) (by decide) (W := 0) (by show 2 * 0 + _ ≤ _; exact Nat.le_of_eq rfl) (by decide)
  refine own_on (B := T1.setTop (mkF m 4 #[rv u0, rv u1, iv 0, iv 0, .val .null, un] [])) (fun tz kz => st1 _ kz) ?_
  refine own_on (B := T1.setTop (mkF m 11 #[rv u0, rv u1, iv 0, iv 0, .val .null, un] [(.ref la), (.ref u0)])) (fun tz kz => ?_) ?_
  · show sT p e below T1 (mkF m 4 #[rv u0, rv u1, iv 0, iv 0, .val .null, un] []) tz
    refine XS.iloadN X1.here hx rfl (hb hby own_d4_4) rfl ?_
    show sT p e below T1 (mkF m 5 #[rv u0, rv u1, iv 0, iv 0, .val .null, un] [(.int 0)]) tz
    refine XS.ifNo X1.here hx rfl (hb hby own_d4_5) rfl ((if0 _ _).trans (teq rfl).2) ?_
    show sT p e below T1 (mkF m 8 #[rv u0, rv u1, iv 0, iv 0, .val .null, un] []) tz
    refine XS.aloadN X1.here hx rfl (hb hby own_d4_8) rfl rfl ?_
    show sT p e below T1 (mkF m 9 #[rv u0, rv u1, iv 0, iv 0, .val .null, un] [(.ref u0)]) tz
    refine ldcAgain (show Stand p l e ({ frames := 1, cells := 0, slots := 0, locals := 12 } : Room) (s.setVm s.vm) m _ below meth c T1 _ _ _ from X1) hx hZ hown (own_w hw 21 rfl) (OwnJ.one hJ) (g := (mkF m 9 #[rv u0, rv u1, iv 0, iv 0, .val .null, un] [(.ref u0)])) rfl (hb hby own_d4_9) _ ?_
    exact kz
  obtain ⟨T2, X2, e2, st2⟩ := getF X1 hx hZ hown (host := "") (Or.inl (own_w hw 27 rfl)) Via.refl e1 Lv (g := (mkF m 11 #[rv u0, rv u1, iv 0, iv 0, .val .null, un] [(.ref la), (.ref u0)])) rfl rfl (hb hby own_d4_11)
  refine own_on (B := T2.setTop (mkF m 14 #[rv u0, rv u1, iv 0, iv 0, .val .null, un] [(.ref lb), (.ref u0)])) (fun tz kz => st2 _ kz) ?_
  obtain ⟨T3, h3, X3, e3, W3, st3⟩ := putF X2 hx hZ hown (host := "") (Or.inl (own_w hw 27 rfl)) Via.refl e2 F_value E_u0 (Or.inr ⟨(own_w hw 23 rfl), rfl, hnm⟩) (own_w hw 8 rfl) (ty := (.array .byte)) (by decide) rfl rfl (g := (mkF m 14 #[rv u0, rv u1, iv 0, iv 0, .val .null, un] [(.ref lb), (.ref u0)])) rfl rfl (hb hby own_d4_14)
  have Fw3 := F_value.same W3
  have N3 := Fr.snoc X3 N0 g_u0
  have O4 := O0.wr W3 g_u0
  have K4 : Keep h0 h3 [u0] := (Keep.refl h0 [u0]).wr W3 (Or.inl (List.mem_of_getElem? (i := 0) rfl))
  refine own_on (B := T3.setTop (mkF m 17 #[rv u0, rv u1, iv 0, iv 0, .val .null, un] [])) (fun tz kz => st3 _ kz) ?_
  refine own_on (B := T3.setTop (mkF m 20 #[rv u0, rv u1, iv 0, iv 0, .val .null, un] [(.ref la), (.ref u0)])) (fun tz kz => ?_) ?_
  · show sT p e below T3 (mkF m 17 #[rv u0, rv u1, iv 0, iv 0, .val .null, un] []) tz
    refine XS.aloadN X3.here hx rfl (hb hby own_d4_17) rfl rfl ?_
    show sT p e below T3 (mkF m 18 #[rv u0, rv u1, iv 0, iv 0, .val .null, un] [(.ref u0)]) tz
    refine ldcAgain (show Stand p l e ({ frames := 1, cells := 0, slots := 0, locals := 12 } : Room) (s.setVm s.vm) m _ below meth c T3 _ _ _ from X3) hx hZ hown (own_w hw 21 rfl) (OwnJ.one hJ) (g := (mkF m 18 #[rv u0, rv u1, iv 0, iv 0, .val .null, un] [(.ref u0)])) rfl (hb hby own_d4_18) _ ?_
    exact kz
  have f_5 := (Lc.other W3 (Or.inl ne_a))
  obtain ⟨T6, X6, e6, st6⟩ := getF X3 hx hZ hown (host := "") (Or.inl (own_w hw 28 rfl)) Via.refl e3 f_5 (g := (mkF m 20 #[rv u0, rv u1, iv 0, iv 0, .val .null, un] [(.ref la), (.ref u0)])) rfl rfl (hb hby own_d4_20)
  refine own_on (B := T6.setTop (mkF m 23 #[rv u0, rv u1, iv 0, iv 0, .val .null, un] [(.int 0), (.ref u0)])) (fun tz kz => st6 _ kz) ?_
  have f_7 := (F_coder.other W3 (Or.inr (slot_ne (Or.inr (own_w hw 24 rfl)) (Or.inr (own_w hw 23 rfl)) (by decide) (t := .byte) (t' := (.array .byte)) (by decide) (by decide))))
  have f_8 := (E_u0.wr W3)
  obtain ⟨T9, h9, X9, e9, W9, st9⟩ := putFN X6 hx hZ hown (own_w hw 28 rfl) Via.refl e6 f_7 f_8 (Or.inr ⟨(own_w hw 24 rfl), rfl, hnm⟩) (own_w hw 8 rfl) (ty := .byte) (v' := (.int (0 : Int32))) (by decide) rfl rfl (g := (mkF m 23 #[rv u0, rv u1, iv 0, iv 0, .val .null, un] [(.int 0), (.ref u0)])) rfl rfl (hb hby own_d4_23)
  have Fw9 := f_7.same W9
  have N9 := Fr.snoc X9 N3 g_u0
  have O10 := O4.wr W9 g_u0
  have K10 : Keep h0 h9 [u0] := K4.wr W9 (Or.inl (List.mem_of_getElem? (i := 0) rfl))
  refine own_on (B := T9.setTop (mkF m 26 #[rv u0, rv u1, iv 0, iv 0, .val .null, un] [])) (fun tz kz => st9 _ kz) ?_
  have f_11 := (Fw3.other W9 (Or.inr (slot_ne (Or.inr (own_w hw 23 rfl)) (Or.inr (own_w hw 24 rfl)) (by decide) (t := (.array .byte)) (t' := .byte) (by decide) (by decide))))
  have f_12 := ((F_hash.other W3 (Or.inr (slot_ne (Or.inl (own_w hw 63 rfl)) (Or.inr (own_w hw 23 rfl)) (by decide) (t := .int) (t' := (.array .byte)) (by decide) (by decide)))).other W9 (Or.inr (slot_ne (Or.inl (own_w hw 63 rfl)) (Or.inr (own_w hw 24 rfl)) (by decide) (t := .int) (t' := .byte) (by decide) (by decide))))
  have f_13 := ((F_hashIsZero.other W3 (Or.inr (slot_ne (Or.inl (own_w hw 65 rfl)) (Or.inr (own_w hw 23 rfl)) (by decide) (t := .boolean) (t' := (.array .byte)) (by decide) (by decide)))).other W9 (Or.inr (slot_ne (Or.inl (own_w hw 65 rfl)) (Or.inr (own_w hw 24 rfl)) (by decide) (t := .boolean) (t' := .byte) (by decide) (by decide))))
  obtain ⟨fs, hr, hrun, hended, hW, hsame⟩ := X9.leave (v := none) (fun _ => rfl)
  refine own_of ⟨_, _, ?_, hrun, hended, _, _, rfl, ?_, ReturnedEndW.of_narrow ⟨_, rfl⟩ hW (hsame.mono (by decide) (by decide))⟩
  · show sT p e below T9 (mkF m 26 #[rv u0, rv u1, iv 0, iv 0, .val .null, un] []) _
    exact X9.returnOut hx Bd.returns (hb hby own_d4_26) hr
  · show Q4y Z u0 u1 la lb lk h0 n0 _ T9.heap _
    rw [e9]
    exact ⟨rfl, N9, K10, f_11, Fw9, f_12, f_13⟩
theorem own_ef_3z (m : MethodId) (x0 : Addr) (x1 : Addr) : entryFrame m #[(.ref x0), (.ref x1)] 2 = mkF m 0 #[rv x0, rv x1] [] := by first | (simp [entryFrame, mkF, argsToLocals, Value.category]; done) | rfl
def Q3z (Z : State) (u0 : Addr) (u1 : Addr) (h0 : Heap) (n0 : Nat) (v : Option Value) (h : Heap) (L : List Loc) (vm : Vm) : Prop := ∃ (la lb : Addr) (lk : ClassId), v = none ∧ Fr n0 L ∧ Keep h0 h [u0] ∧ Exa Z h la "java/lang/String" ∧ Fld Z h la "java/lang/String" "coder" "B" (.int (0 : Int32)) ∧ Fld Z h la "java/lang/String" "value" "[B" (.ref lb) ∧ Arv Z h lb lk .byte (0 : Int32) [] (.int 0) ∧ Fld Z h u0 "java/lang/String" "value" "[B" (.ref lb) ∧ Fld Z h u0 "java/lang/String" "coder" "B" (.int (0 : Int32)) ∧ Fld Z h u0 "java/lang/String" "hash" "I" (.int (0 : Int32)) ∧ Fld Z h u0 "java/lang/String" "hashIsZero" "Z" (.int (0 : Int32)) ∧ (OwnJ Z [""] [("java/lang/String", 7, la)]) vm
theorem own_d3_0 : decode jdk_42_method_3_code 0 = .ok (.aload_n 0, 1) := by decide +kernel
theorem own_d3_1 : decode jdk_42_method_3_code 1 = .ok (.aload_n 1, 1) := by decide +kernel
theorem own_d3_2 : decode jdk_42_method_3_code 2 = .ok (.iconst 0, 1) := by decide +kernel
theorem own_d3_3 : decode jdk_42_method_3_code 3 = .ok (.aload_n 1, 1) := by decide +kernel
theorem own_d3_4 : decode jdk_42_method_3_code 4 = .ok (.arraylength, 1) := by decide +kernel
theorem own_d3_5 : decode jdk_42_method_3_code 5 = .ok (.aconst_null, 1) := by decide +kernel
theorem own_pd1 : parseMethodDescriptor "([CIILjava/lang/Void;)V" = some ⟨[(.array .char), .int, .int, (.object "java/lang/Void")], none⟩ := by decide +kernel
theorem own_d3_6 : decode jdk_42_method_3_code 6 = .ok (.invokespecial 27, 3) := by decide +kernel
theorem own_d3_9 : decode jdk_42_method_3_code 9 = .ok (.return_, 1) := by decide +kernel
set_option maxRecDepth 65536 in
set_option maxHeartbeats 40000000 in
theorem rm3z (l : Launch) (Z : State) (a0 : Array Value) (hw : ∀ d ∈ tables_1, d.before a0 Z = true) (ws : List Jvm.Cond) (u0 : Addr) (u1 : Addr) (h0 : Heap) (n0 : Nat) (O0 : Old Z n0 h0) (E_u0 : Exa Z h0 u0 "java/lang/String") (g_u0 : n0 ≤ u0) (F_value : Fld Z h0 u0 "java/lang/String" "value" "[B" .null) (F_coder : Fld Z h0 u0 "java/lang/String" "coder" "B" (.int (0 : Int32))) (F_hash : Fld Z h0 u0 "java/lang/String" "hash" "I" (.int (0 : Int32))) (F_hashIsZero : Fld Z h0 u0 "java/lang/String" "hashIsZero" "Z" (.int (0 : Int32))) (hheld : Jvm.Lit.constHeld Z "java/lang/String" 7) (hcw : Jvm.Lit.compactW.before a0 Z = true) (Vz : OwnArz Z h0 u1 .char 0) :
    MetFree l (⟨"java/lang/String", "<init>", "([C)V"⟩ : MethodName) (head1 (Jvm.Cond.code (⟨"java/lang/String", "<init>", "([C)V"⟩ : MethodName) jdk_42_method_3_code 2 none :: ws) ({ frames := 2, cells := 2, slots := 4, locals := 30 } : Room)) (fun a U => a = #[(.ref u0), (.ref u1)] ∧ Z.Warmed39 U.vm ∧ U.heap = h0 ∧ OwnJ Z [] [] U.vm) (fun _ _ _ _ _ => True) (fun _ U o U' => ∃ v L, o = .returned v ∧ Q3z Z u0 u1 h0 n0 v U'.heap L U'.vm ∧ ReturnedEndW U o U' L ({ frames := 2, cells := 2, slots := 4, locals := 30 } : Room).cells ({ frames := 2, cells := 2, slots := 4, locals := 30 } : Room).slots) := by
  refine MetFree.of_bodySF (plainFor_of_name own_pn_java_lang_String) hisR ?_
  intro p e s m args below meth c s₁ Bd hml0 hP hK
  obtain ⟨rfl, hZ, hh, hJ⟩ := hP
  have hx := Bd.exec
  have hby := Bd.bytes
  have hml : c.maxLocals = 2 := hml0
  have hown : s.vm.findClass "java/lang/String" = some m.cls := findClass_of_methodNamed Bd.named
  have hnm := (name_of_methodNamed Bd.named Bd.method).1
  have X0 : Stand p l e ({ frames := 2, cells := 2, slots := 4, locals := 30 } : Room) s m #[(.ref u0), (.ref u1)] below meth c s₁ [] 0 0 := Stand.of_body Bd
  have e0 : s₁.heap = h0 := by rw [← hh, Bd.state]; rfl
  have N0 := Fr.nil n0
  change Go p.tables e below _ _
  refine own_on (B := s₁.setTop (mkF m 0 #[rv u0, rv u1] [])) (fun tz kz => castTop (own_ef_3z m u0 u1) kz) ?_
  refine own_on (B := s₁.setTop (mkF m 4 #[rv u0, rv u1] [(.ref u1), (.int 0), (.ref u1), (.ref u0)])) (fun tz kz => ?_) ?_
  · show sT p e below s₁ (mkF m 0 #[rv u0, rv u1] []) tz
    refine XS.aloadN X0.here hx rfl (hb hby own_d3_0) rfl rfl ?_
    show sT p e below s₁ (mkF m 1 #[rv u0, rv u1] [(.ref u0)]) tz
    refine XS.aloadN X0.here hx rfl (hb hby own_d3_1) rfl rfl ?_
    show sT p e below s₁ (mkF m 2 #[rv u0, rv u1] [(.ref u1), (.ref u0)]) tz
    refine XS.iconst X0.here hx rfl (hb hby own_d3_2) ?_
    show sT p e below s₁ (mkF m 3 #[rv u0, rv u1] [(.int 0), (.ref u1), (.ref u0)]) tz
    refine XS.aloadN X0.here hx rfl (hb hby own_d3_3) rfl rfl ?_
    exact kz
  obtain ⟨cl1, Ar1, S1, M1⟩ := id Vz
  refine own_on (B := s₁.setTop (mkF m 6 #[rv u0, rv u1] [.null, (.int 0), (.int 0), (.ref u1), (.ref u0)])) (fun tz kz => ?_) ?_
  · show sT p e below s₁ (mkF m 4 #[rv u0, rv u1] [(.ref u1), (.int 0), (.ref u1), (.ref u0)]) tz
    refine X0.arraylength hx (by rw [e0]; exact Ar1.1) (State.isArrayOf_alike hZ.alike Ar1.2.1) (g := (mkF m 4 #[rv u0, rv u1] [(.ref u1), (.int 0), (.ref u1), (.ref u0)])) rfl rfl (hb hby own_d3_4) _ ?_
    rw [len_of S1 M1]
    show sT p e below s₁ (mkF m 5 #[rv u0, rv u1] [(.int 0), (.int 0), (.ref u1), (.ref u0)]) tz
    refine XS.aconstNull X0.here hx rfl (hb hby own_d3_5) ?_
    exact kz
  obtain ⟨_, _, ⟨T2, L2, k2, n2⟩, -, X2, hSc2, hgr2, ⟨Lc2, hQ2, l2, y2, z2⟩, st2⟩ := X0.specialBackS hx (y := (⟨"java/lang/String", "<init>", "([CIILjava/lang/Void;)V"⟩ : MethodName)) rfl hown (mvT hZ (own_w hw 14 rfl)) (mvT hZ (own_w hw 15 rfl)) (mvT hZ (own_w hw 17 rfl)) (by decide) (own_backJ (hJ := OwnJ.warm (s := s) hJ) (W := 0) (rm4z l Z a0 hw [] u0 u1  h0 n0 O0 E_u0 g_u0 F_value F_coder F_hash F_hashIsZero hheld hcw) hZ (own_w hw 17 rfl) (own_w hw 9 rfl) (by decide) (by decide)) (g := (mkF m 6 #[rv u0, rv u1] [.null, (.int 0), (.int 0), (.ref u1), (.ref u0)])) rfl (by rw [hml]; rfl) (Steps.refl _) (a := u0) (argsL := [(.ref u1), (.int (0 : Int32)), (.int (0 : Int32)), .null]) (rest := []) (lenOf own_pd1 rfl) rfl (by show 2 * 0 + _ ≤ _; exact Nat.le_of_eq rfl) (hb hby own_d3_6) (fun _ _ => ⟨rfl, e0, (by decide : 0 + 2 ≤ _), (by decide : 0 + 4 ≤ _)⟩)
  dsimp only [Pt.U, Pt.locs, Pt.cells, Pt.slots] at X2 l2 y2 z2 st2 hQ2 hSc2 hgr2
  subst l2 y2 z2
  have hS3 : s.Since s.vm 0 := State.WarmedH.since (State.WarmedH.refl s) 0
  obtain ⟨X2, hS2, hZ, hown⟩ := rebS hS3 (by rw [e0]; exact (Nat.zero_le _)) X2 hSc2 hgr2 hZ hown
  obtain ⟨la2, lb2, lk2, rfl, Nq2, Kq2, La2, Lc2, Lv2, Lb2, Fv2, Fc2, Fh2, Fz2, Jq2⟩ := hQ2
  have N2 := Fr.app N0 Nq2
  have O4 := O0.keep Kq2 (allS g_u0 all0)
  have K4 : Keep h0 T2.heap [u0] := (Keep.refl h0 [u0]).trans Kq2 (allS (Or.inl (List.mem_of_getElem? (i := 0) rfl)) all0)
  refine own_on (B := T2.setTop (mkF m 9 #[rv u0, rv u1] [])) (fun tz kz => st2.trans kz) ?_
  obtain ⟨fs, hr, hrun, hended, hRW⟩ := Jvm.Stand.leaveW X2 hS2 ((Nat.le_refl T2.heap.size)) (v := none) (fun _ => rfl)
  refine own_of ⟨_, _, ?_, hrun, hended, _, _, rfl, ?_, hRW.1, hRW.2.1, hRW.2.2.1, hRW.2.2.2.mono (by decide) (by decide)⟩
  · show sT p e below T2 (mkF m 9 #[rv u0, rv u1] []) _
    exact X2.returnOut hx Bd.returns (hb hby own_d3_9) hr
  · show Q3z Z u0 u1 h0 n0 _ T2.heap _ T2.vm
    exact ⟨_, _, _, rfl, N2, K4, La2, Lc2, Lv2, Lb2, Fv2, Fc2, Fh2, Fz2, (OwnJ.warm (s := (s.setVm T2.vm)) Jq2 _ X2.warmed)⟩
theorem own_ef_3y (m : MethodId) (x0 : Addr) (x1 : Addr) : entryFrame m #[(.ref x0), (.ref x1)] 2 = mkF m 0 #[rv x0, rv x1] [] := by first | (simp [entryFrame, mkF, argsToLocals, Value.category]; done) | rfl
def Q3y (Z : State) (u0 : Addr) (u1 : Addr) (la : Addr) (lb : Addr) (lk : ClassId) (h0 : Heap) (n0 : Nat) (v : Option Value) (h : Heap) (L : List Loc) : Prop := v = none ∧ Fr n0 L ∧ Keep h0 h [u0] ∧ Fld Z h u0 "java/lang/String" "value" "[B" (.ref lb) ∧ Fld Z h u0 "java/lang/String" "coder" "B" (.int (0 : Int32)) ∧ Fld Z h u0 "java/lang/String" "hash" "I" (.int (0 : Int32)) ∧ Fld Z h u0 "java/lang/String" "hashIsZero" "Z" (.int (0 : Int32))
set_option maxRecDepth 65536 in
set_option maxHeartbeats 40000000 in
theorem rm3y (l : Launch) (Z : State) (a0 : Array Value) (hw : ∀ d ∈ tables_1, d.before a0 Z = true) (ws : List Jvm.Cond) (u0 : Addr) (u1 : Addr) (la : Addr) (lb : Addr) (lk : ClassId) (h0 : Heap) (n0 : Nat) (O0 : Old Z n0 h0) (E_u0 : Exa Z h0 u0 "java/lang/String") (g_u0 : n0 ≤ u0) (F_value : Fld Z h0 u0 "java/lang/String" "value" "[B" .null) (F_coder : Fld Z h0 u0 "java/lang/String" "coder" "B" (.int (0 : Int32))) (F_hash : Fld Z h0 u0 "java/lang/String" "hash" "I" (.int (0 : Int32))) (F_hashIsZero : Fld Z h0 u0 "java/lang/String" "hashIsZero" "Z" (.int (0 : Int32))) (La : Exa Z h0 la "java/lang/String") (Lc : Fld Z h0 la "java/lang/String" "coder" "B" (.int (0 : Int32))) (Lv : Fld Z h0 la "java/lang/String" "value" "[B" (.ref lb)) (Lb : Arv Z h0 lb lk .byte (0 : Int32) [] (.int 0)) (Vz : OwnArz Z h0 u1 .char 0) :
    MetFree l (⟨"java/lang/String", "<init>", "([C)V"⟩ : MethodName) (head1 (Jvm.Cond.code (⟨"java/lang/String", "<init>", "([C)V"⟩ : MethodName) jdk_42_method_3_code 2 none :: ws) ({ frames := 2, cells := 0, slots := 0, locals := 30 } : Room)) (fun a U => a = #[(.ref u0), (.ref u1)] ∧ Z.Warmed39 U.vm ∧ U.heap = h0 ∧ (OwnJ Z [""] [("java/lang/String", 7, la)]) U.vm) (fun _ _ _ _ _ => True) (fun _ U o U' => ∃ v L, o = .returned v ∧ Q3y Z u0 u1 la lb lk h0 n0 v U'.heap L ∧ ReturnedEndW U o U' L ({ frames := 2, cells := 0, slots := 0, locals := 30 } : Room).cells ({ frames := 2, cells := 0, slots := 0, locals := 30 } : Room).slots) := by
  refine MetFree.of_bodySF (plainFor_of_name own_pn_java_lang_String) hisR ?_
  intro p e s m args below meth c s₁ Bd hml0 hP hK
  obtain ⟨rfl, hZ, hh, hJ⟩ := hP
  have hx := Bd.exec
  have hby := Bd.bytes
  have hml : c.maxLocals = 2 := hml0
  have hown : s.vm.findClass "java/lang/String" = some m.cls := findClass_of_methodNamed Bd.named
  have hnm := (name_of_methodNamed Bd.named Bd.method).1
  have X0 : Stand p l e ({ frames := 2, cells := 0, slots := 0, locals := 30 } : Room) s m #[(.ref u0), (.ref u1)] below meth c s₁ [] 0 0 := Stand.of_body Bd
  have e0 : s₁.heap = h0 := by rw [← hh, Bd.state]; rfl
  have N0 := Fr.nil n0
  change Go p.tables e below _ _
  refine own_on (B := s₁.setTop (mkF m 0 #[rv u0, rv u1] [])) (fun tz kz => castTop (own_ef_3y m u0 u1) kz) ?_
  refine own_on (B := s₁.setTop (mkF m 4 #[rv u0, rv u1] [(.ref u1), (.int 0), (.ref u1), (.ref u0)])) (fun tz kz => ?_) ?_
  · show sT p e below s₁ (mkF m 0 #[rv u0, rv u1] []) tz
    refine XS.aloadN X0.here hx rfl (hb hby own_d3_0) rfl rfl ?_
    show sT p e below s₁ (mkF m 1 #[rv u0, rv u1] [(.ref u0)]) tz
    refine XS.aloadN X0.here hx rfl (hb hby own_d3_1) rfl rfl ?_
    show sT p e below s₁ (mkF m 2 #[rv u0, rv u1] [(.ref u1), (.ref u0)]) tz
    refine XS.iconst X0.here hx rfl (hb hby own_d3_2) ?_
    show sT p e below s₁ (mkF m 3 #[rv u0, rv u1] [(.int 0), (.ref u1), (.ref u0)]) tz
    refine XS.aloadN X0.here hx rfl (hb hby own_d3_3) rfl rfl ?_
    exact kz
  obtain ⟨cl1, Ar1, S1, M1⟩ := id Vz
  refine own_on (B := s₁.setTop (mkF m 6 #[rv u0, rv u1] [.null, (.int 0), (.int 0), (.ref u1), (.ref u0)])) (fun tz kz => ?_) ?_
  · show sT p e below s₁ (mkF m 4 #[rv u0, rv u1] [(.ref u1), (.int 0), (.ref u1), (.ref u0)]) tz
    refine X0.arraylength hx (by rw [e0]; exact Ar1.1) (State.isArrayOf_alike hZ.alike Ar1.2.1) (g := (mkF m 4 #[rv u0, rv u1] [(.ref u1), (.int 0), (.ref u1), (.ref u0)])) rfl rfl (hb hby own_d3_4) _ ?_
    rw [len_of S1 M1]
    show sT p e below s₁ (mkF m 5 #[rv u0, rv u1] [(.int 0), (.int 0), (.ref u1), (.ref u0)]) tz
    refine XS.aconstNull X0.here hx rfl (hb hby own_d3_5) ?_
    exact kz
  obtain ⟨_, _, ⟨T2, L2, k2, n2⟩, -, X2, hSc2, hgr2, ⟨Lc2, hQ2, l2, y2, z2⟩, st2⟩ := X0.specialBackS hx (y := (⟨"java/lang/String", "<init>", "([CIILjava/lang/Void;)V"⟩ : MethodName)) rfl hown (mvT hZ (own_w hw 14 rfl)) (mvT hZ (own_w hw 15 rfl)) (mvT hZ (own_w hw 17 rfl)) (by decide) (own_backK (hJ := OwnJ.warm (s := s) hJ) (W := 0) (rm4y l Z a0 hw [] u0 u1 la lb lk h0 n0 O0 E_u0 g_u0 F_value F_coder F_hash F_hashIsZero La Lc Lv Lb) hZ (own_w hw 17 rfl) (own_w hw 9 rfl) (by decide) (by decide)) (g := (mkF m 6 #[rv u0, rv u1] [.null, (.int 0), (.int 0), (.ref u1), (.ref u0)])) rfl (by rw [hml]; rfl) (Steps.refl _) (a := u0) (argsL := [(.ref u1), (.int (0 : Int32)), (.int (0 : Int32)), .null]) (rest := []) (lenOf own_pd1 rfl) rfl (by show 2 * 0 + _ ≤ _; exact Nat.le_of_eq rfl) (hb hby own_d3_6) (fun _ _ => ⟨rfl, e0, (by decide : 0 + 0 ≤ _), (by decide : 0 + 0 ≤ _)⟩)
  dsimp only [Pt.U, Pt.locs, Pt.cells, Pt.slots] at X2 l2 y2 z2 st2 hQ2 hSc2 hgr2
  subst l2 y2 z2
  have hS3 : s.Since s.vm 0 := State.WarmedH.since (State.WarmedH.refl s) 0
  obtain ⟨X2, hS2, hZ, hown⟩ := rebS hS3 (by rw [e0]; exact (Nat.zero_le _)) X2 hSc2 hgr2 hZ hown
  obtain ⟨rfl, Nq2, Kq2, Fv2, Fc2, Fh2, Fz2⟩ := hQ2
  have N2 := Fr.app N0 Nq2
  have O4 := O0.keep Kq2 (allS g_u0 all0)
  have K4 : Keep h0 T2.heap [u0] := (Keep.refl h0 [u0]).trans Kq2 (allS (Or.inl (List.mem_of_getElem? (i := 0) rfl)) all0)
  refine own_on (B := T2.setTop (mkF m 9 #[rv u0, rv u1] [])) (fun tz kz => st2.trans kz) ?_
  obtain ⟨fs, hr, hrun, hended, hRW⟩ := Jvm.Stand.leaveW X2 hS2 ((Nat.le_refl T2.heap.size)) (v := none) (fun _ => rfl)
  refine own_of ⟨_, _, ?_, hrun, hended, _, _, rfl, ?_, hRW.1, hRW.2.1, hRW.2.2.1, hRW.2.2.2.mono (by decide) (by decide)⟩
  · show sT p e below T2 (mkF m 9 #[rv u0, rv u1] []) _
    exact X2.returnOut hx Bd.returns (hb hby own_d3_9) hr
  · show Q3y Z u0 u1 la lb lk h0 n0 _ T2.heap _
    exact ⟨rfl, N2, K4, Fv2, Fc2, Fh2, Fz2⟩
theorem own_ef_4a (m : MethodId) (x0 : Addr) (x1 : Addr) (x2 : Int32) (x3 : Int32) : entryFrame m #[(.ref x0), (.ref x1), (.int x2), (.int x3), .null] 6 = mkF m 0 #[rv x0, rv x1, iv x2, iv x3, .val .null, .unset] [] := by first | (simp [entryFrame, mkF, argsToLocals, Value.category]; done) | rfl
def Q4a (Z : State) (u0 : Addr) (u1 : Addr) (cS : Int32) (kx : ClassId) (x0 : Int32) (h0 : Heap) (n0 : Nat) (v : Option Value) (h : Heap) (L : List Loc) : Prop := ∃ (b : Addr) (kb : ClassId), v = none ∧ Fr n0 L ∧ Keep h0 h [u0] ∧ Fld Z h u0 "java/lang/String" "value" "[B" (.ref b) ∧ Fld Z h u0 "java/lang/String" "coder" "B" (.int (0 : Int32)) ∧ Fld Z h u0 "java/lang/String" "hash" "I" (.int (0 : Int32)) ∧ Fld Z h u0 "java/lang/String" "hashIsZero" "Z" (.int (0 : Int32)) ∧ Exa Z h b "[B" ∧ Arv Z h b kb .byte (1 : Int32) [(.int (nar .byte (x0.toInt8.toInt32)))] (.int 0)
theorem own_d4_27 : decode jdk_42_method_149_code 27 = .ok (.getstatic 38, 3) := by decide +kernel
theorem own_d4_30 : decode jdk_42_method_149_code 30 = .ok (.ifCond .eq 28, 3) := by decide +kernel
theorem own_d4_33 : decode jdk_42_method_149_code 33 = .ok (.aload_n 1, 1) := by decide +kernel
theorem own_d4_34 : decode jdk_42_method_149_code 34 = .ok (.iload_n 2, 1) := by decide +kernel
theorem own_d4_35 : decode jdk_42_method_149_code 35 = .ok (.iload_n 3, 1) := by decide +kernel
theorem own_pd2 : parseMethodDescriptor "([CII)[B" = some ⟨[(.array .char), .int, .int], some (.array .byte)⟩ := by decide +kernel
theorem own_d4_36 : decode jdk_42_method_149_code 36 = .ok (.invokestatic 177, 3) := by decide +kernel
theorem own_d4_39 : decode jdk_42_method_149_code 39 = .ok (.astore 5, 2) := by decide +kernel
theorem own_d4_41 : decode jdk_42_method_149_code 41 = .ok (.aload_n 0, 1) := by decide +kernel
theorem own_d4_42 : decode jdk_42_method_149_code 42 = .ok (.aload 5, 2) := by decide +kernel
theorem own_d4_44 : decode jdk_42_method_149_code 44 = .ok (.iload_n 3, 1) := by decide +kernel
theorem own_pd3 : parseMethodDescriptor "([BI)B" = some ⟨[(.array .byte), .int], some .byte⟩ := by decide +kernel
theorem own_d4_45 : decode jdk_42_method_149_code 45 = .ok (.invokestatic 47, 3) := by decide +kernel
theorem own_d4_48 : decode jdk_42_method_149_code 48 = .ok (.putfield 15, 3) := by decide +kernel
theorem own_d4_51 : decode jdk_42_method_149_code 51 = .ok (.aload_n 0, 1) := by decide +kernel
theorem own_d4_52 : decode jdk_42_method_149_code 52 = .ok (.aload 5, 2) := by decide +kernel
theorem own_d4_54 : decode jdk_42_method_149_code 54 = .ok (.putfield 9, 3) := by decide +kernel
theorem own_d4_57 : decode jdk_42_method_149_code 57 = .ok (.return_, 1) := by decide +kernel
set_option maxRecDepth 65536 in
set_option maxHeartbeats 40000000 in
theorem rm4a (l : Launch) (Z : State) (a0 : Array Value) (hw : ∀ d ∈ tables_1, d.before a0 Z = true) (ws : List Jvm.Cond) (u0 : Addr) (u1 : Addr) (cS : Int32) (kx : ClassId) (x0 : Int32) (h0 : Heap) (n0 : Nat) (O0 : Old Z n0 h0) (E_u0 : Exa Z h0 u0 "java/lang/String") (g_u0 : n0 ≤ u0) (F_value : Fld Z h0 u0 "java/lang/String" "value" "[B" .null) (F_coder : Fld Z h0 u0 "java/lang/String" "coder" "B" (.int (0 : Int32))) (F_hash : Fld Z h0 u0 "java/lang/String" "hash" "I" (.int (0 : Int32))) (F_hashIsZero : Fld Z h0 u0 "java/lang/String" "hashIsZero" "Z" (.int (0 : Int32))) (S_cs : Sta Z Z.heap "java/lang/String" "COMPACT_STRINGS" "Z" (.int cS)) (hcS : ¬ (cS = (0 : Int32))) (Vc : Arv Z h0 u1 kx .char (1 : Int32) [(.int x0)] (.int 0)) (nb0 : ¬ (255 : Int32) < x0) :
    MetFree l (⟨"java/lang/String", "<init>", "([CIILjava/lang/Void;)V"⟩ : MethodName) (head1 (Jvm.Cond.code (⟨"java/lang/String", "<init>", "([CIILjava/lang/Void;)V"⟩ : MethodName) jdk_42_method_149_code 6 none :: ws) ({ frames := 2, cells := 1, slots := 1, locals := 40 } : Room)) (fun a U => a = #[(.ref u0), (.ref u1), (.int (0 : Int32)), (.int (1 : Int32)), .null] ∧ Z.Warmed39 U.vm ∧ U.heap = h0) (fun _ _ _ _ _ => True) (fun _ U o U' => ∃ v L, o = .returned v ∧ Q4a Z u0 u1 cS kx x0 h0 n0 v U'.heap L ∧ FrameEnd U o U' L ({ frames := 2, cells := 1, slots := 1, locals := 40 } : Room).cells ({ frames := 2, cells := 1, slots := 1, locals := 40 } : Room).slots) := by
  refine MetFree.of_bodySF (plainFor_of_name own_pn_java_lang_String) hisR ?_
  intro p e s m args below meth c s₁ Bd hml0 hP hK
  obtain ⟨rfl, hZ, hh⟩ := hP
  have hx := Bd.exec
  have hby := Bd.bytes
  have hml : c.maxLocals = 6 := hml0
  have hown : s.vm.findClass "java/lang/String" = some m.cls := findClass_of_methodNamed Bd.named
  have hnm := (name_of_methodNamed Bd.named Bd.method).1
  have X0 : Stand p l e ({ frames := 2, cells := 1, slots := 1, locals := 40 } : Room) s m #[(.ref u0), (.ref u1), (.int (0 : Int32)), (.int (1 : Int32)), .null] below meth c s₁ [] 0 0 := Stand.of_body Bd
  have e0 : s₁.heap = h0 := by rw [← hh, Bd.state]; rfl
  have N0 := Fr.nil n0
  change Go p.tables e below _ _
  refine own_on (B := s₁.setTop (mkF m 0 #[rv u0, rv u1, iv 0, iv 1, .val .null, un] [])) (fun tz kz => castTop (own_ef_4a m u0 u1 (0 : Int32) (1 : Int32)) kz) ?_
  have n01 : u1 ≠ u0 := Ne.symm (Exa.neArv E_u0 Vc (own_w hw 8 rfl))
  refine own_on (B := s₁.setTop (mkF m 1 #[rv u0, rv u1, iv 0, iv 1, .val .null, un] [(.ref u0)])) (fun tz kz => ?_) ?_
  · show sT p e below s₁ (mkF m 0 #[rv u0, rv u1, iv 0, iv 1, .val .null, un] []) tz
    refine XS.aloadN X0.here hx rfl (hb hby own_d4_0) rfl rfl ?_
    exact kz
  obtain ⟨T1, X1, e1, st1⟩ := initO X0 hx hZ hown (own_w hw 18 rfl) (own_w hw 19 rfl) (own_w hw 20 rfl) e0 (g := (mkF m 1 #[rv u0, rv u1, iv 0, iv 1, .val .null, un] [(.ref u0)])) rfl (by rw [hml]; rfl) rfl (hb hby own_d4_1) (by decide) (W := 0) (by show 2 * 0 + _ ≤ _; exact Nat.le_of_eq rfl) (by decide)
  refine own_on (B := T1.setTop (mkF m 4 #[rv u0, rv u1, iv 0, iv 1, .val .null, un] [])) (fun tz kz => st1 _ kz) ?_
  refine own_on (B := T1.setTop (mkF m 27 #[rv u0, rv u1, iv 0, iv 1, .val .null, un] [])) (fun tz kz => ?_) ?_
  · show sT p e below T1 (mkF m 4 #[rv u0, rv u1, iv 0, iv 1, .val .null, un] []) tz
    refine XS.iloadN X1.here hx rfl (hb hby own_d4_4) rfl ?_
    show sT p e below T1 (mkF m 5 #[rv u0, rv u1, iv 0, iv 1, .val .null, un] [(.int 1)]) tz
    refine XS.ifYes X1.here hx rfl (pc0 := 5) (pc' := 27) rfl (hb hby own_d4_5) rfl ((if0 _ _).trans (feq (by decide : ¬ ((1 : Int32) = (0 : Int32)))).2) (by decide) (by decide) ?_
    exact kz
  obtain ⟨T2, X2, e2, st2⟩ := getS2 X1 hx hZ hown (host := "") (Or.inl (own_w hw 39 rfl)) Via.refl e1 (S_cs.ext O0.2) (g := (mkF m 27 #[rv u0, rv u1, iv 0, iv 1, .val .null, un] [])) rfl (hb hby own_d4_27)
  refine own_on (B := T2.setTop (mkF m 30 #[rv u0, rv u1, iv 0, iv 1, .val .null, un] [(.int cS)])) (fun tz kz => st2 _ kz) ?_
  refine own_on (B := T2.setTop (mkF m 36 #[rv u0, rv u1, iv 0, iv 1, .val .null, un] [(.int 1), (.int 0), (.ref u1)])) (fun tz kz => ?_) ?_
  · show sT p e below T2 (mkF m 30 #[rv u0, rv u1, iv 0, iv 1, .val .null, un] [(.int cS)]) tz
    refine XS.ifNo X2.here hx rfl (hb hby own_d4_30) rfl ((if0 _ _).trans (feq hcS).1) ?_
    show sT p e below T2 (mkF m 33 #[rv u0, rv u1, iv 0, iv 1, .val .null, un] []) tz
    refine XS.aloadN X2.here hx rfl (hb hby own_d4_33) rfl rfl ?_
    show sT p e below T2 (mkF m 34 #[rv u0, rv u1, iv 0, iv 1, .val .null, un] [(.ref u1)]) tz
    refine XS.iloadN X2.here hx rfl (hb hby own_d4_34) rfl ?_
    show sT p e below T2 (mkF m 35 #[rv u0, rv u1, iv 0, iv 1, .val .null, un] [(.int 0), (.ref u1)]) tz
    refine XS.iloadN X2.here hx rfl (hb hby own_d4_35) rfl ?_
    exact kz
  obtain ⟨_, _, ⟨T3, L3, k3, n3⟩, -, X3, ⟨Lc3, hQ3, l3, y3, z3⟩, st3⟩ := Jvm.LawKit.callS X2 hx (y := (⟨"java/lang/StringUTF16", "compress", "([CII)[B"⟩ : MethodName)) hown (mvT hZ (own_w hw 47 rfl)) (mvT hZ (own_w hw 48 rfl)) (mvT hZ (own_w hw 49 rfl)) (mvT hZ (own_w hw 50 rfl)) (by decide) (backOf (W := 0) (rm9a l Z a0 hw [] u1 kx x0 h0 n0 O0 Vc nb0) hZ (own_w hw 50 rfl) (own_w hw 49 rfl) (by decide) (by decide)) (g := (mkF m 36 #[rv u0, rv u1, iv 0, iv 1, .val .null, un] [(.int 1), (.int 0), (.ref u1)])) rfl (by rw [hml]; rfl) (argsL := [(.ref u1), (.int (0 : Int32)), (.int (1 : Int32))]) (rest := []) (lenOf own_pd2 rfl) rfl (by show 2 * 0 + _ ≤ _; exact Nat.le_of_eq rfl) (hb hby own_d4_36) (fun _ _ => ⟨rfl, e2, (by decide : 0 + 1 ≤ _), (by decide : 0 + 1 ≤ _)⟩)
  dsimp only [Pt.U, Pt.locs, Pt.cells, Pt.slots] at X3 l3 y3 z3 st3 hQ3
  subst l3 y3 z3
  obtain ⟨d3, kd3, rfl, Nq3, Kq3, zq3, Eq3, Vq3⟩ := hQ3
  have N3 := Fr.app N0 Nq3
  have ne_u0_d3 : u0 ≠ d3 := Nat.ne_of_lt (Nat.lt_of_lt_of_le (E_u0).lt zq3)
  have ne_u1_d3 : u1 ≠ d3 := Nat.ne_of_lt (Nat.lt_of_lt_of_le (Vc).lt zq3)
  have g_d3 : n0 ≤ d3 := Nat.le_trans (own_old O0) zq3
  have sz_d3 : h0.size ≤ d3 := Nat.le_trans (Keep.refl h0 [u0]).1 zq3
  have O4 := O0.keep Kq3 all0
  have K4 : Keep h0 T3.heap [u0] := (Keep.refl h0 [u0]).trans Kq3 all0
  refine own_on (B := T3.setTop (mkF m 39 #[rv u0, rv u1, iv 0, iv 1, .val .null, un] [(.ref d3)])) (fun tz kz => st3 _ kz) ?_
  refine own_on (B := T3.setTop (mkF m 45 #[rv u0, rv u1, iv 0, iv 1, .val .null, rv d3] [(.int 1), (.ref d3), (.ref u0)])) (fun tz kz => ?_) ?_
  · show sT p e below T3 (mkF m 39 #[rv u0, rv u1, iv 0, iv 1, .val .null, un] [(.ref d3)]) tz
    refine XS.astore X3.here hx rfl (hb hby own_d4_39) rfl rfl (l' := #[rv u0, rv u1, iv 0, iv 1, .val .null, rv d3]) rfl ?_
    show sT p e below T3 (mkF m 41 #[rv u0, rv u1, iv 0, iv 1, .val .null, rv d3] []) tz
    refine XS.aloadN X3.here hx rfl (hb hby own_d4_41) rfl rfl ?_
    show sT p e below T3 (mkF m 42 #[rv u0, rv u1, iv 0, iv 1, .val .null, rv d3] [(.ref u0)]) tz
    refine XS.aload X3.here hx rfl (hb hby own_d4_42) rfl rfl ?_
    show sT p e below T3 (mkF m 44 #[rv u0, rv u1, iv 0, iv 1, .val .null, rv d3] [(.ref d3), (.ref u0)]) tz
    refine XS.iloadN X3.here hx rfl (hb hby own_d4_44) rfl ?_
    exact kz
  obtain ⟨_, _, ⟨T5, L5, k5, n5⟩, -, X5, ⟨Lc5, hQ5, l5, y5, z5⟩, st5⟩ := Jvm.LawKit.callS X3 hx (y := (⟨"java/lang/StringUTF16", "coderFromArrayLen", "([BI)B"⟩ : MethodName)) hown (mvT hZ (own_w hw 54 rfl)) (mvT hZ (own_w hw 55 rfl)) (mvT hZ (own_w hw 49 rfl)) (mvT hZ (own_w hw 56 rfl)) (by decide) (backOf (W := 1) (rm11a l Z a0 hw [] d3 kd3 (nar .byte (x0.toInt8.toInt32)) T3.heap n0 O4 Vq3) hZ (own_w hw 56 rfl) (own_w hw 49 rfl) (by decide) (by decide)) (g := (mkF m 45 #[rv u0, rv u1, iv 0, iv 1, .val .null, rv d3] [(.int 1), (.ref d3), (.ref u0)])) rfl (by rw [hml]; rfl) (argsL := [(.ref d3), (.int (1 : Int32))]) (rest := [(.ref u0)]) (lenOf own_pd3 rfl) rfl (by show 2 * 0 + _ ≤ _; exact Nat.le_of_eq rfl) (hb hby own_d4_45) (fun _ _ => ⟨rfl, rfl, (by decide : 1 + 0 ≤ _), (by decide : 1 + 0 ≤ _)⟩)
  dsimp only [Pt.U, Pt.locs, Pt.cells, Pt.slots] at X5 l5 y5 z5 st5 hQ5
  subst l5 y5 z5
  obtain ⟨rfl, Nq5, e5⟩ := hQ5
  have N5 := Fr.app N3 Nq5
  refine own_on (B := T5.setTop (mkF m 48 #[rv u0, rv u1, iv 0, iv 1, .val .null, rv d3] [(.int 0), (.ref u0)])) (fun tz kz => st5 _ kz) ?_
  have f_6 := (F_coder.keep Kq3 nin0)
  have f_7 := (E_u0.keep Kq3)
  obtain ⟨T8, h8, X8, e8, W8, st8⟩ := putFN X5 hx hZ hown (own_w hw 28 rfl) Via.refl e5 f_6 f_7 (Or.inr ⟨(own_w hw 24 rfl), rfl, hnm⟩) (own_w hw 8 rfl) (ty := .byte) (v' := (.int (0 : Int32))) (by decide) rfl rfl (g := (mkF m 48 #[rv u0, rv u1, iv 0, iv 1, .val .null, rv d3] [(.int 0), (.ref u0)])) rfl rfl (hb hby own_d4_48)
  have Fw8 := f_6.same W8
  have N8 := Fr.snoc X8 N5 g_u0
  have O9 := O4.wr W8 g_u0
  have K9 : Keep h0 h8 [u0] := K4.wr W8 (Or.inl (List.mem_of_getElem? (i := 0) rfl))
  refine own_on (B := T8.setTop (mkF m 51 #[rv u0, rv u1, iv 0, iv 1, .val .null, rv d3] [])) (fun tz kz => st8 _ kz) ?_
  refine own_on (B := T8.setTop (mkF m 54 #[rv u0, rv u1, iv 0, iv 1, .val .null, rv d3] [(.ref d3), (.ref u0)])) (fun tz kz => ?_) ?_
  · show sT p e below T8 (mkF m 51 #[rv u0, rv u1, iv 0, iv 1, .val .null, rv d3] []) tz
    refine XS.aloadN X8.here hx rfl (hb hby own_d4_51) rfl rfl ?_
    show sT p e below T8 (mkF m 52 #[rv u0, rv u1, iv 0, iv 1, .val .null, rv d3] [(.ref u0)]) tz
    refine XS.aload X8.here hx rfl (hb hby own_d4_52) rfl rfl ?_
    exact kz
  have f_10 := ((F_value.keep Kq3 nin0).other W8 (Or.inr (slot_ne (Or.inr (own_w hw 23 rfl)) (Or.inr (own_w hw 24 rfl)) (by decide) (t := (.array .byte)) (t' := .byte) (by decide) (by decide))))
  have f_11 := (f_7.wr W8)
  obtain ⟨T12, h12, X12, e12, W12, st12⟩ := putF X8 hx hZ hown (host := "") (Or.inl (own_w hw 27 rfl)) Via.refl e8 f_10 f_11 (Or.inr ⟨(own_w hw 23 rfl), rfl, hnm⟩) (own_w hw 8 rfl) (ty := (.array .byte)) (by decide) rfl rfl (g := (mkF m 54 #[rv u0, rv u1, iv 0, iv 1, .val .null, rv d3] [(.ref d3), (.ref u0)])) rfl rfl (hb hby own_d4_54)
  have Fw12 := f_10.same W12
  have N12 := Fr.snoc X12 N8 g_u0
  have O13 := O9.wr W12 g_u0
  have K13 : Keep h0 h12 [u0] := K9.wr W12 (Or.inl (List.mem_of_getElem? (i := 0) rfl))
  refine own_on (B := T12.setTop (mkF m 57 #[rv u0, rv u1, iv 0, iv 1, .val .null, rv d3] [])) (fun tz kz => st12 _ kz) ?_
  have f_14 := (Fw8.other W12 (Or.inr (slot_ne (Or.inr (own_w hw 24 rfl)) (Or.inr (own_w hw 23 rfl)) (by decide) (t := .byte) (t' := (.array .byte)) (by decide) (by decide))))
  have f_15 := (((F_hash.keep Kq3 nin0).other W8 (Or.inr (slot_ne (Or.inl (own_w hw 63 rfl)) (Or.inr (own_w hw 24 rfl)) (by decide) (t := .int) (t' := .byte) (by decide) (by decide)))).other W12 (Or.inr (slot_ne (Or.inl (own_w hw 63 rfl)) (Or.inr (own_w hw 23 rfl)) (by decide) (t := .int) (t' := (.array .byte)) (by decide) (by decide))))
  have f_16 := (((F_hashIsZero.keep Kq3 nin0).other W8 (Or.inr (slot_ne (Or.inl (own_w hw 65 rfl)) (Or.inr (own_w hw 24 rfl)) (by decide) (t := .boolean) (t' := .byte) (by decide) (by decide)))).other W12 (Or.inr (slot_ne (Or.inl (own_w hw 65 rfl)) (Or.inr (own_w hw 23 rfl)) (by decide) (t := .boolean) (t' := (.array .byte)) (by decide) (by decide))))
  have f_17 := ((Eq3.wr W8).wr W12)
  have f_18 := ((Vq3.other W8 (Ne.symm ne_u0_d3)).other W12 (Ne.symm ne_u0_d3))
  obtain ⟨fs, hr, hrun, hended, hW, hsame⟩ := X12.leave (v := none) (fun _ => rfl)
  refine own_of ⟨_, _, ?_, hrun, hended, _, _, rfl, ?_, ⟨_, rfl⟩, hW, hsame.mono (by decide) (by decide)⟩
  · show sT p e below T12 (mkF m 57 #[rv u0, rv u1, iv 0, iv 1, .val .null, rv d3] []) _
    exact X12.returnOut hx Bd.returns (hb hby own_d4_57) hr
  · show Q4a Z u0 u1 cS kx x0 h0 n0 _ T12.heap _
    rw [e12]
    exact ⟨d3, kd3, rfl, N12, K13, Fw12, f_14, f_15, f_16, f_17, f_18⟩
theorem own_ef_3a (m : MethodId) (x0 : Addr) (x1 : Addr) : entryFrame m #[(.ref x0), (.ref x1)] 2 = mkF m 0 #[rv x0, rv x1] [] := by first | (simp [entryFrame, mkF, argsToLocals, Value.category]; done) | rfl
def Q3a (Z : State) (u0 : Addr) (u1 : Addr) (cS : Int32) (kx : ClassId) (x0 : Int32) (h0 : Heap) (n0 : Nat) (v : Option Value) (h : Heap) (L : List Loc) : Prop := ∃ (b : Addr) (kb : ClassId), v = none ∧ Fr n0 L ∧ Keep h0 h [u0] ∧ Fld Z h u0 "java/lang/String" "value" "[B" (.ref b) ∧ Fld Z h u0 "java/lang/String" "coder" "B" (.int (0 : Int32)) ∧ Fld Z h u0 "java/lang/String" "hash" "I" (.int (0 : Int32)) ∧ Fld Z h u0 "java/lang/String" "hashIsZero" "Z" (.int (0 : Int32)) ∧ Exa Z h b "[B" ∧ Arv Z h b kb .byte (1 : Int32) [(.int (nar .byte (x0.toInt8.toInt32)))] (.int 0)
set_option maxRecDepth 65536 in
set_option maxHeartbeats 40000000 in
theorem rm3a (l : Launch) (Z : State) (a0 : Array Value) (hw : ∀ d ∈ tables_1, d.before a0 Z = true) (ws : List Jvm.Cond) (u0 : Addr) (u1 : Addr) (cS : Int32) (kx : ClassId) (x0 : Int32) (h0 : Heap) (n0 : Nat) (O0 : Old Z n0 h0) (E_u0 : Exa Z h0 u0 "java/lang/String") (g_u0 : n0 ≤ u0) (F_value : Fld Z h0 u0 "java/lang/String" "value" "[B" .null) (F_coder : Fld Z h0 u0 "java/lang/String" "coder" "B" (.int (0 : Int32))) (F_hash : Fld Z h0 u0 "java/lang/String" "hash" "I" (.int (0 : Int32))) (F_hashIsZero : Fld Z h0 u0 "java/lang/String" "hashIsZero" "Z" (.int (0 : Int32))) (S_cs : Sta Z Z.heap "java/lang/String" "COMPACT_STRINGS" "Z" (.int cS)) (hcS : ¬ (cS = (0 : Int32))) (Vc : Arv Z h0 u1 kx .char (1 : Int32) [(.int x0)] (.int 0)) (nb0 : ¬ (255 : Int32) < x0) :
    MetFree l (⟨"java/lang/String", "<init>", "([C)V"⟩ : MethodName) (head1 (Jvm.Cond.code (⟨"java/lang/String", "<init>", "([C)V"⟩ : MethodName) jdk_42_method_3_code 2 none :: ws) ({ frames := 3, cells := 1, slots := 1, locals := 60 } : Room)) (fun a U => a = #[(.ref u0), (.ref u1)] ∧ Z.Warmed39 U.vm ∧ U.heap = h0) (fun _ _ _ _ _ => True) (fun _ U o U' => ∃ v L, o = .returned v ∧ Q3a Z u0 u1 cS kx x0 h0 n0 v U'.heap L ∧ FrameEnd U o U' L ({ frames := 3, cells := 1, slots := 1, locals := 60 } : Room).cells ({ frames := 3, cells := 1, slots := 1, locals := 60 } : Room).slots) := by
  refine MetFree.of_bodySF (plainFor_of_name own_pn_java_lang_String) hisR ?_
  intro p e s m args below meth c s₁ Bd hml0 hP hK
  obtain ⟨rfl, hZ, hh⟩ := hP
  have hx := Bd.exec
  have hby := Bd.bytes
  have hml : c.maxLocals = 2 := hml0
  have hown : s.vm.findClass "java/lang/String" = some m.cls := findClass_of_methodNamed Bd.named
  have hnm := (name_of_methodNamed Bd.named Bd.method).1
  have X0 : Stand p l e ({ frames := 3, cells := 1, slots := 1, locals := 60 } : Room) s m #[(.ref u0), (.ref u1)] below meth c s₁ [] 0 0 := Stand.of_body Bd
  have e0 : s₁.heap = h0 := by rw [← hh, Bd.state]; rfl
  have N0 := Fr.nil n0
  change Go p.tables e below _ _
  refine own_on (B := s₁.setTop (mkF m 0 #[rv u0, rv u1] [])) (fun tz kz => castTop (own_ef_3a m u0 u1) kz) ?_
  refine own_on (B := s₁.setTop (mkF m 4 #[rv u0, rv u1] [(.ref u1), (.int 0), (.ref u1), (.ref u0)])) (fun tz kz => ?_) ?_
  · show sT p e below s₁ (mkF m 0 #[rv u0, rv u1] []) tz
    refine XS.aloadN X0.here hx rfl (hb hby own_d3_0) rfl rfl ?_
    show sT p e below s₁ (mkF m 1 #[rv u0, rv u1] [(.ref u0)]) tz
    refine XS.aloadN X0.here hx rfl (hb hby own_d3_1) rfl rfl ?_
    show sT p e below s₁ (mkF m 2 #[rv u0, rv u1] [(.ref u1), (.ref u0)]) tz
    refine XS.iconst X0.here hx rfl (hb hby own_d3_2) ?_
    show sT p e below s₁ (mkF m 3 #[rv u0, rv u1] [(.int 0), (.ref u1), (.ref u0)]) tz
    refine XS.aloadN X0.here hx rfl (hb hby own_d3_3) rfl rfl ?_
    exact kz
  obtain ⟨cl1, Ar1, q1, S1, M1, H1, G1⟩ := id Vc
  refine own_on (B := s₁.setTop (mkF m 6 #[rv u0, rv u1] [.null, (.int 1), (.int 0), (.ref u1), (.ref u0)])) (fun tz kz => ?_) ?_
  · show sT p e below s₁ (mkF m 4 #[rv u0, rv u1] [(.ref u1), (.int 0), (.ref u1), (.ref u0)]) tz
    refine X0.arraylength hx (by rw [e0]; exact Ar1.1) (State.isArrayOf_alike hZ.alike Ar1.2.1) (g := (mkF m 4 #[rv u0, rv u1] [(.ref u1), (.int 0), (.ref u1), (.ref u0)])) rfl rfl (hb hby own_d3_4) _ ?_
    rw [len_of S1 M1]
    show sT p e below s₁ (mkF m 5 #[rv u0, rv u1] [(.int 1), (.int 0), (.ref u1), (.ref u0)]) tz
    refine XS.aconstNull X0.here hx rfl (hb hby own_d3_5) ?_
    exact kz
  obtain ⟨_, _, ⟨T2, L2, k2, n2⟩, -, X2, ⟨Lc2, hQ2, l2, y2, z2⟩, st2⟩ := X0.specialBack hx (y := (⟨"java/lang/String", "<init>", "([CIILjava/lang/Void;)V"⟩ : MethodName)) rfl hown (mvT hZ (own_w hw 14 rfl)) (mvT hZ (own_w hw 15 rfl)) (mvT hZ (own_w hw 17 rfl)) (by decide) (backOf (W := 0) (rm4a l Z a0 hw [] u0 u1 cS kx x0 h0 n0 O0 E_u0 g_u0 F_value F_coder F_hash F_hashIsZero S_cs hcS Vc nb0) hZ (own_w hw 17 rfl) (own_w hw 9 rfl) (by decide) (by decide)) (g := (mkF m 6 #[rv u0, rv u1] [.null, (.int 1), (.int 0), (.ref u1), (.ref u0)])) rfl (by rw [hml]; rfl) (Steps.refl _) (a := u0) (argsL := [(.ref u1), (.int (0 : Int32)), (.int (1 : Int32)), .null]) (rest := []) (lenOf own_pd1 rfl) rfl (by show 2 * 0 + _ ≤ _; exact Nat.le_of_eq rfl) (hb hby own_d3_6) (fun _ _ => ⟨rfl, e0, (by decide : 0 + 1 ≤ _), (by decide : 0 + 1 ≤ _)⟩)
  dsimp only [Pt.U, Pt.locs, Pt.cells, Pt.slots] at X2 l2 y2 z2 st2 hQ2
  subst l2 y2 z2
  obtain ⟨b2, kb2, rfl, Nq2, Kq2, Fv2, Fc2, Fh2, Fz2, Eb2, Vb2⟩ := hQ2
  have N2 := Fr.app N0 Nq2
  have O3 := O0.keep Kq2 (allS g_u0 all0)
  have K3 : Keep h0 T2.heap [u0] := (Keep.refl h0 [u0]).trans Kq2 (allS (Or.inl (List.mem_of_getElem? (i := 0) rfl)) all0)
  refine own_on (B := T2.setTop (mkF m 9 #[rv u0, rv u1] [])) (fun tz kz => st2.trans kz) ?_
  obtain ⟨fs, hr, hrun, hended, hW, hsame⟩ := X2.leave (v := none) (fun _ => rfl)
  refine own_of ⟨_, _, ?_, hrun, hended, _, _, rfl, ?_, ⟨_, rfl⟩, hW, hsame.mono (by decide) (by decide)⟩
  · show sT p e below T2 (mkF m 9 #[rv u0, rv u1] []) _
    exact X2.returnOut hx Bd.returns (hb hby own_d3_9) hr
  · show Q3a Z u0 u1 cS kx x0 h0 n0 _ T2.heap _
    exact ⟨b2, kb2, rfl, N2, K3, Fv2, Fc2, Fh2, Fz2, Eb2, Vb2⟩
theorem own_ef_4b (m : MethodId) (x0 : Addr) (x1 : Addr) (x2 : Int32) (x3 : Int32) : entryFrame m #[(.ref x0), (.ref x1), (.int x2), (.int x3), .null] 6 = mkF m 0 #[rv x0, rv x1, iv x2, iv x3, .val .null, .unset] [] := by first | (simp [entryFrame, mkF, argsToLocals, Value.category]; done) | rfl
def Q4b (Z : State) (u0 : Addr) (u1 : Addr) (cS : Int32) (kx : ClassId) (x0 : Int32) (x1 : Int32) (h0 : Heap) (n0 : Nat) (v : Option Value) (h : Heap) (L : List Loc) : Prop := ∃ (b : Addr) (kb : ClassId), v = none ∧ Fr n0 L ∧ Keep h0 h [u0] ∧ Fld Z h u0 "java/lang/String" "value" "[B" (.ref b) ∧ Fld Z h u0 "java/lang/String" "coder" "B" (.int (0 : Int32)) ∧ Fld Z h u0 "java/lang/String" "hash" "I" (.int (0 : Int32)) ∧ Fld Z h u0 "java/lang/String" "hashIsZero" "Z" (.int (0 : Int32)) ∧ Exa Z h b "[B" ∧ Arv Z h b kb .byte (2 : Int32) [(.int (nar .byte (x0.toInt8.toInt32))), (.int (nar .byte (x1.toInt8.toInt32)))] (.int 0)
set_option maxRecDepth 65536 in
set_option maxHeartbeats 40000000 in
theorem rm4b (l : Launch) (Z : State) (a0 : Array Value) (hw : ∀ d ∈ tables_1, d.before a0 Z = true) (ws : List Jvm.Cond) (u0 : Addr) (u1 : Addr) (cS : Int32) (kx : ClassId) (x0 : Int32) (x1 : Int32) (h0 : Heap) (n0 : Nat) (O0 : Old Z n0 h0) (E_u0 : Exa Z h0 u0 "java/lang/String") (g_u0 : n0 ≤ u0) (F_value : Fld Z h0 u0 "java/lang/String" "value" "[B" .null) (F_coder : Fld Z h0 u0 "java/lang/String" "coder" "B" (.int (0 : Int32))) (F_hash : Fld Z h0 u0 "java/lang/String" "hash" "I" (.int (0 : Int32))) (F_hashIsZero : Fld Z h0 u0 "java/lang/String" "hashIsZero" "Z" (.int (0 : Int32))) (S_cs : Sta Z Z.heap "java/lang/String" "COMPACT_STRINGS" "Z" (.int cS)) (hcS : ¬ (cS = (0 : Int32))) (Vc : Arv Z h0 u1 kx .char (2 : Int32) [(.int x0), (.int x1)] (.int 0)) (nb0 : ¬ (255 : Int32) < x0) (nb1 : ¬ (255 : Int32) < x1) :
    MetFree l (⟨"java/lang/String", "<init>", "([CIILjava/lang/Void;)V"⟩ : MethodName) (head1 (Jvm.Cond.code (⟨"java/lang/String", "<init>", "([CIILjava/lang/Void;)V"⟩ : MethodName) jdk_42_method_149_code 6 none :: ws) ({ frames := 2, cells := 1, slots := 2, locals := 40 } : Room)) (fun a U => a = #[(.ref u0), (.ref u1), (.int (0 : Int32)), (.int (2 : Int32)), .null] ∧ Z.Warmed39 U.vm ∧ U.heap = h0) (fun _ _ _ _ _ => True) (fun _ U o U' => ∃ v L, o = .returned v ∧ Q4b Z u0 u1 cS kx x0 x1 h0 n0 v U'.heap L ∧ FrameEnd U o U' L ({ frames := 2, cells := 1, slots := 2, locals := 40 } : Room).cells ({ frames := 2, cells := 1, slots := 2, locals := 40 } : Room).slots) := by
  refine MetFree.of_bodySF (plainFor_of_name own_pn_java_lang_String) hisR ?_
  intro p e s m args below meth c s₁ Bd hml0 hP hK
  obtain ⟨rfl, hZ, hh⟩ := hP
  have hx := Bd.exec
  have hby := Bd.bytes
  have hml : c.maxLocals = 6 := hml0
  have hown : s.vm.findClass "java/lang/String" = some m.cls := findClass_of_methodNamed Bd.named
  have hnm := (name_of_methodNamed Bd.named Bd.method).1
  have X0 : Stand p l e ({ frames := 2, cells := 1, slots := 2, locals := 40 } : Room) s m #[(.ref u0), (.ref u1), (.int (0 : Int32)), (.int (2 : Int32)), .null] below meth c s₁ [] 0 0 := Stand.of_body Bd
  have e0 : s₁.heap = h0 := by rw [← hh, Bd.state]; rfl
  have N0 := Fr.nil n0
  change Go p.tables e below _ _
  refine own_on (B := s₁.setTop (mkF m 0 #[rv u0, rv u1, iv 0, iv 2, .val .null, un] [])) (fun tz kz => castTop (own_ef_4b m u0 u1 (0 : Int32) (2 : Int32)) kz) ?_
  have n01 : u1 ≠ u0 := Ne.symm (Exa.neArv E_u0 Vc (own_w hw 8 rfl))
  refine own_on (B := s₁.setTop (mkF m 1 #[rv u0, rv u1, iv 0, iv 2, .val .null, un] [(.ref u0)])) (fun tz kz => ?_) ?_
  · show sT p e below s₁ (mkF m 0 #[rv u0, rv u1, iv 0, iv 2, .val .null, un] []) tz
    refine XS.aloadN X0.here hx rfl (hb hby own_d4_0) rfl rfl ?_
    exact kz
  obtain ⟨T1, X1, e1, st1⟩ := initO X0 hx hZ hown (own_w hw 18 rfl) (own_w hw 19 rfl) (own_w hw 20 rfl) e0 (g := (mkF m 1 #[rv u0, rv u1, iv 0, iv 2, .val .null, un] [(.ref u0)])) rfl (by rw [hml]; rfl) rfl (hb hby own_d4_1) (by decide) (W := 0) (by show 2 * 0 + _ ≤ _; exact Nat.le_of_eq rfl) (by decide)
  refine own_on (B := T1.setTop (mkF m 4 #[rv u0, rv u1, iv 0, iv 2, .val .null, un] [])) (fun tz kz => st1 _ kz) ?_
  refine own_on (B := T1.setTop (mkF m 27 #[rv u0, rv u1, iv 0, iv 2, .val .null, un] [])) (fun tz kz => ?_) ?_
  · show sT p e below T1 (mkF m 4 #[rv u0, rv u1, iv 0, iv 2, .val .null, un] []) tz
    refine XS.iloadN X1.here hx rfl (hb hby own_d4_4) rfl ?_
    show sT p e below T1 (mkF m 5 #[rv u0, rv u1, iv 0, iv 2, .val .null, un] [(.int 2)]) tz
    refine XS.ifYes X1.here hx rfl (pc0 := 5) (pc' := 27) rfl (hb hby own_d4_5) rfl ((if0 _ _).trans (feq (by decide : ¬ ((2 : Int32) = (0 : Int32)))).2) (by decide) (by decide) ?_
    exact kz
  obtain ⟨T2, X2, e2, st2⟩ := getS2 X1 hx hZ hown (host := "") (Or.inl (own_w hw 39 rfl)) Via.refl e1 (S_cs.ext O0.2) (g := (mkF m 27 #[rv u0, rv u1, iv 0, iv 2, .val .null, un] [])) rfl (hb hby own_d4_27)
  refine own_on (B := T2.setTop (mkF m 30 #[rv u0, rv u1, iv 0, iv 2, .val .null, un] [(.int cS)])) (fun tz kz => st2 _ kz) ?_
  refine own_on (B := T2.setTop (mkF m 36 #[rv u0, rv u1, iv 0, iv 2, .val .null, un] [(.int 2), (.int 0), (.ref u1)])) (fun tz kz => ?_) ?_
  · show sT p e below T2 (mkF m 30 #[rv u0, rv u1, iv 0, iv 2, .val .null, un] [(.int cS)]) tz
    refine XS.ifNo X2.here hx rfl (hb hby own_d4_30) rfl ((if0 _ _).trans (feq hcS).1) ?_
    show sT p e below T2 (mkF m 33 #[rv u0, rv u1, iv 0, iv 2, .val .null, un] []) tz
    refine XS.aloadN X2.here hx rfl (hb hby own_d4_33) rfl rfl ?_
    show sT p e below T2 (mkF m 34 #[rv u0, rv u1, iv 0, iv 2, .val .null, un] [(.ref u1)]) tz
    refine XS.iloadN X2.here hx rfl (hb hby own_d4_34) rfl ?_
    show sT p e below T2 (mkF m 35 #[rv u0, rv u1, iv 0, iv 2, .val .null, un] [(.int 0), (.ref u1)]) tz
    refine XS.iloadN X2.here hx rfl (hb hby own_d4_35) rfl ?_
    exact kz
  obtain ⟨_, _, ⟨T3, L3, k3, n3⟩, -, X3, ⟨Lc3, hQ3, l3, y3, z3⟩, st3⟩ := Jvm.LawKit.callS X2 hx (y := (⟨"java/lang/StringUTF16", "compress", "([CII)[B"⟩ : MethodName)) hown (mvT hZ (own_w hw 47 rfl)) (mvT hZ (own_w hw 48 rfl)) (mvT hZ (own_w hw 49 rfl)) (mvT hZ (own_w hw 50 rfl)) (by decide) (backOf (W := 0) (rm9b l Z a0 hw [] u1 kx x0 x1 h0 n0 O0 Vc nb0 nb1) hZ (own_w hw 50 rfl) (own_w hw 49 rfl) (by decide) (by decide)) (g := (mkF m 36 #[rv u0, rv u1, iv 0, iv 2, .val .null, un] [(.int 2), (.int 0), (.ref u1)])) rfl (by rw [hml]; rfl) (argsL := [(.ref u1), (.int (0 : Int32)), (.int (2 : Int32))]) (rest := []) (lenOf own_pd2 rfl) rfl (by show 2 * 0 + _ ≤ _; exact Nat.le_of_eq rfl) (hb hby own_d4_36) (fun _ _ => ⟨rfl, e2, (by decide : 0 + 1 ≤ _), (by decide : 0 + 2 ≤ _)⟩)
  dsimp only [Pt.U, Pt.locs, Pt.cells, Pt.slots] at X3 l3 y3 z3 st3 hQ3
  subst l3 y3 z3
  obtain ⟨d3, kd3, rfl, Nq3, Kq3, zq3, Eq3, Vq3⟩ := hQ3
  have N3 := Fr.app N0 Nq3
  have ne_u0_d3 : u0 ≠ d3 := Nat.ne_of_lt (Nat.lt_of_lt_of_le (E_u0).lt zq3)
  have ne_u1_d3 : u1 ≠ d3 := Nat.ne_of_lt (Nat.lt_of_lt_of_le (Vc).lt zq3)
  have g_d3 : n0 ≤ d3 := Nat.le_trans (own_old O0) zq3
  have sz_d3 : h0.size ≤ d3 := Nat.le_trans (Keep.refl h0 [u0]).1 zq3
  have O4 := O0.keep Kq3 all0
  have K4 : Keep h0 T3.heap [u0] := (Keep.refl h0 [u0]).trans Kq3 all0
  refine own_on (B := T3.setTop (mkF m 39 #[rv u0, rv u1, iv 0, iv 2, .val .null, un] [(.ref d3)])) (fun tz kz => st3 _ kz) ?_
  refine own_on (B := T3.setTop (mkF m 45 #[rv u0, rv u1, iv 0, iv 2, .val .null, rv d3] [(.int 2), (.ref d3), (.ref u0)])) (fun tz kz => ?_) ?_
  · show sT p e below T3 (mkF m 39 #[rv u0, rv u1, iv 0, iv 2, .val .null, un] [(.ref d3)]) tz
    refine XS.astore X3.here hx rfl (hb hby own_d4_39) rfl rfl (l' := #[rv u0, rv u1, iv 0, iv 2, .val .null, rv d3]) rfl ?_
    show sT p e below T3 (mkF m 41 #[rv u0, rv u1, iv 0, iv 2, .val .null, rv d3] []) tz
    refine XS.aloadN X3.here hx rfl (hb hby own_d4_41) rfl rfl ?_
    show sT p e below T3 (mkF m 42 #[rv u0, rv u1, iv 0, iv 2, .val .null, rv d3] [(.ref u0)]) tz
    refine XS.aload X3.here hx rfl (hb hby own_d4_42) rfl rfl ?_
    show sT p e below T3 (mkF m 44 #[rv u0, rv u1, iv 0, iv 2, .val .null, rv d3] [(.ref d3), (.ref u0)]) tz
    refine XS.iloadN X3.here hx rfl (hb hby own_d4_44) rfl ?_
    exact kz
  obtain ⟨_, _, ⟨T5, L5, k5, n5⟩, -, X5, ⟨Lc5, hQ5, l5, y5, z5⟩, st5⟩ := Jvm.LawKit.callS X3 hx (y := (⟨"java/lang/StringUTF16", "coderFromArrayLen", "([BI)B"⟩ : MethodName)) hown (mvT hZ (own_w hw 54 rfl)) (mvT hZ (own_w hw 55 rfl)) (mvT hZ (own_w hw 49 rfl)) (mvT hZ (own_w hw 56 rfl)) (by decide) (backOf (W := 1) (rm11b l Z a0 hw [] d3 kd3 (nar .byte (x0.toInt8.toInt32)) (nar .byte (x1.toInt8.toInt32)) T3.heap n0 O4 Vq3) hZ (own_w hw 56 rfl) (own_w hw 49 rfl) (by decide) (by decide)) (g := (mkF m 45 #[rv u0, rv u1, iv 0, iv 2, .val .null, rv d3] [(.int 2), (.ref d3), (.ref u0)])) rfl (by rw [hml]; rfl) (argsL := [(.ref d3), (.int (2 : Int32))]) (rest := [(.ref u0)]) (lenOf own_pd3 rfl) rfl (by show 2 * 0 + _ ≤ _; exact Nat.le_of_eq rfl) (hb hby own_d4_45) (fun _ _ => ⟨rfl, rfl, (by decide : 1 + 0 ≤ _), (by decide : 2 + 0 ≤ _)⟩)
  dsimp only [Pt.U, Pt.locs, Pt.cells, Pt.slots] at X5 l5 y5 z5 st5 hQ5
  subst l5 y5 z5
  obtain ⟨rfl, Nq5, e5⟩ := hQ5
  have N5 := Fr.app N3 Nq5
  refine own_on (B := T5.setTop (mkF m 48 #[rv u0, rv u1, iv 0, iv 2, .val .null, rv d3] [(.int 0), (.ref u0)])) (fun tz kz => st5 _ kz) ?_
  have f_6 := (F_coder.keep Kq3 nin0)
  have f_7 := (E_u0.keep Kq3)
  obtain ⟨T8, h8, X8, e8, W8, st8⟩ := putFN X5 hx hZ hown (own_w hw 28 rfl) Via.refl e5 f_6 f_7 (Or.inr ⟨(own_w hw 24 rfl), rfl, hnm⟩) (own_w hw 8 rfl) (ty := .byte) (v' := (.int (0 : Int32))) (by decide) rfl rfl (g := (mkF m 48 #[rv u0, rv u1, iv 0, iv 2, .val .null, rv d3] [(.int 0), (.ref u0)])) rfl rfl (hb hby own_d4_48)
  have Fw8 := f_6.same W8
  have N8 := Fr.snoc X8 N5 g_u0
  have O9 := O4.wr W8 g_u0
  have K9 : Keep h0 h8 [u0] := K4.wr W8 (Or.inl (List.mem_of_getElem? (i := 0) rfl))
  refine own_on (B := T8.setTop (mkF m 51 #[rv u0, rv u1, iv 0, iv 2, .val .null, rv d3] [])) (fun tz kz => st8 _ kz) ?_
  refine own_on (B := T8.setTop (mkF m 54 #[rv u0, rv u1, iv 0, iv 2, .val .null, rv d3] [(.ref d3), (.ref u0)])) (fun tz kz => ?_) ?_
  · show sT p e below T8 (mkF m 51 #[rv u0, rv u1, iv 0, iv 2, .val .null, rv d3] []) tz
    refine XS.aloadN X8.here hx rfl (hb hby own_d4_51) rfl rfl ?_
    show sT p e below T8 (mkF m 52 #[rv u0, rv u1, iv 0, iv 2, .val .null, rv d3] [(.ref u0)]) tz
    refine XS.aload X8.here hx rfl (hb hby own_d4_52) rfl rfl ?_
    exact kz
  have f_10 := ((F_value.keep Kq3 nin0).other W8 (Or.inr (slot_ne (Or.inr (own_w hw 23 rfl)) (Or.inr (own_w hw 24 rfl)) (by decide) (t := (.array .byte)) (t' := .byte) (by decide) (by decide))))
  have f_11 := (f_7.wr W8)
  obtain ⟨T12, h12, X12, e12, W12, st12⟩ := putF X8 hx hZ hown (host := "") (Or.inl (own_w hw 27 rfl)) Via.refl e8 f_10 f_11 (Or.inr ⟨(own_w hw 23 rfl), rfl, hnm⟩) (own_w hw 8 rfl) (ty := (.array .byte)) (by decide) rfl rfl (g := (mkF m 54 #[rv u0, rv u1, iv 0, iv 2, .val .null, rv d3] [(.ref d3), (.ref u0)])) rfl rfl (hb hby own_d4_54)
  have Fw12 := f_10.same W12
  have N12 := Fr.snoc X12 N8 g_u0
  have O13 := O9.wr W12 g_u0
  have K13 : Keep h0 h12 [u0] := K9.wr W12 (Or.inl (List.mem_of_getElem? (i := 0) rfl))
  refine own_on (B := T12.setTop (mkF m 57 #[rv u0, rv u1, iv 0, iv 2, .val .null, rv d3] [])) (fun tz kz => st12 _ kz) ?_
  have f_14 := (Fw8.other W12 (Or.inr (slot_ne (Or.inr (own_w hw 24 rfl)) (Or.inr (own_w hw 23 rfl)) (by decide) (t := .byte) (t' := (.array .byte)) (by decide) (by decide))))
  have f_15 := (((F_hash.keep Kq3 nin0).other W8 (Or.inr (slot_ne (Or.inl (own_w hw 63 rfl)) (Or.inr (own_w hw 24 rfl)) (by decide) (t := .int) (t' := .byte) (by decide) (by decide)))).other W12 (Or.inr (slot_ne (Or.inl (own_w hw 63 rfl)) (Or.inr (own_w hw 23 rfl)) (by decide) (t := .int) (t' := (.array .byte)) (by decide) (by decide))))
  have f_16 := (((F_hashIsZero.keep Kq3 nin0).other W8 (Or.inr (slot_ne (Or.inl (own_w hw 65 rfl)) (Or.inr (own_w hw 24 rfl)) (by decide) (t := .boolean) (t' := .byte) (by decide) (by decide)))).other W12 (Or.inr (slot_ne (Or.inl (own_w hw 65 rfl)) (Or.inr (own_w hw 23 rfl)) (by decide) (t := .boolean) (t' := (.array .byte)) (by decide) (by decide))))
  have f_17 := ((Eq3.wr W8).wr W12)
  have f_18 := ((Vq3.other W8 (Ne.symm ne_u0_d3)).other W12 (Ne.symm ne_u0_d3))
  obtain ⟨fs, hr, hrun, hended, hW, hsame⟩ := X12.leave (v := none) (fun _ => rfl)
  refine own_of ⟨_, _, ?_, hrun, hended, _, _, rfl, ?_, ⟨_, rfl⟩, hW, hsame.mono (by decide) (by decide)⟩
  · show sT p e below T12 (mkF m 57 #[rv u0, rv u1, iv 0, iv 2, .val .null, rv d3] []) _
    exact X12.returnOut hx Bd.returns (hb hby own_d4_57) hr
  · show Q4b Z u0 u1 cS kx x0 x1 h0 n0 _ T12.heap _
    rw [e12]
    exact ⟨d3, kd3, rfl, N12, K13, Fw12, f_14, f_15, f_16, f_17, f_18⟩
theorem own_ef_3b (m : MethodId) (x0 : Addr) (x1 : Addr) : entryFrame m #[(.ref x0), (.ref x1)] 2 = mkF m 0 #[rv x0, rv x1] [] := by first | (simp [entryFrame, mkF, argsToLocals, Value.category]; done) | rfl
def Q3b (Z : State) (u0 : Addr) (u1 : Addr) (cS : Int32) (kx : ClassId) (x0 : Int32) (x1 : Int32) (h0 : Heap) (n0 : Nat) (v : Option Value) (h : Heap) (L : List Loc) : Prop := ∃ (b : Addr) (kb : ClassId), v = none ∧ Fr n0 L ∧ Keep h0 h [u0] ∧ Fld Z h u0 "java/lang/String" "value" "[B" (.ref b) ∧ Fld Z h u0 "java/lang/String" "coder" "B" (.int (0 : Int32)) ∧ Fld Z h u0 "java/lang/String" "hash" "I" (.int (0 : Int32)) ∧ Fld Z h u0 "java/lang/String" "hashIsZero" "Z" (.int (0 : Int32)) ∧ Exa Z h b "[B" ∧ Arv Z h b kb .byte (2 : Int32) [(.int (nar .byte (x0.toInt8.toInt32))), (.int (nar .byte (x1.toInt8.toInt32)))] (.int 0)
set_option maxRecDepth 65536 in
set_option maxHeartbeats 40000000 in
theorem rm3b (l : Launch) (Z : State) (a0 : Array Value) (hw : ∀ d ∈ tables_1, d.before a0 Z = true) (ws : List Jvm.Cond) (u0 : Addr) (u1 : Addr) (cS : Int32) (kx : ClassId) (x0 : Int32) (x1 : Int32) (h0 : Heap) (n0 : Nat) (O0 : Old Z n0 h0) (E_u0 : Exa Z h0 u0 "java/lang/String") (g_u0 : n0 ≤ u0) (F_value : Fld Z h0 u0 "java/lang/String" "value" "[B" .null) (F_coder : Fld Z h0 u0 "java/lang/String" "coder" "B" (.int (0 : Int32))) (F_hash : Fld Z h0 u0 "java/lang/String" "hash" "I" (.int (0 : Int32))) (F_hashIsZero : Fld Z h0 u0 "java/lang/String" "hashIsZero" "Z" (.int (0 : Int32))) (S_cs : Sta Z Z.heap "java/lang/String" "COMPACT_STRINGS" "Z" (.int cS)) (hcS : ¬ (cS = (0 : Int32))) (Vc : Arv Z h0 u1 kx .char (2 : Int32) [(.int x0), (.int x1)] (.int 0)) (nb0 : ¬ (255 : Int32) < x0) (nb1 : ¬ (255 : Int32) < x1) :
    MetFree l (⟨"java/lang/String", "<init>", "([C)V"⟩ : MethodName) (head1 (Jvm.Cond.code (⟨"java/lang/String", "<init>", "([C)V"⟩ : MethodName) jdk_42_method_3_code 2 none :: ws) ({ frames := 3, cells := 1, slots := 2, locals := 60 } : Room)) (fun a U => a = #[(.ref u0), (.ref u1)] ∧ Z.Warmed39 U.vm ∧ U.heap = h0) (fun _ _ _ _ _ => True) (fun _ U o U' => ∃ v L, o = .returned v ∧ Q3b Z u0 u1 cS kx x0 x1 h0 n0 v U'.heap L ∧ FrameEnd U o U' L ({ frames := 3, cells := 1, slots := 2, locals := 60 } : Room).cells ({ frames := 3, cells := 1, slots := 2, locals := 60 } : Room).slots) := by
  refine MetFree.of_bodySF (plainFor_of_name own_pn_java_lang_String) hisR ?_
  intro p e s m args below meth c s₁ Bd hml0 hP hK
  obtain ⟨rfl, hZ, hh⟩ := hP
  have hx := Bd.exec
  have hby := Bd.bytes
  have hml : c.maxLocals = 2 := hml0
  have hown : s.vm.findClass "java/lang/String" = some m.cls := findClass_of_methodNamed Bd.named
  have hnm := (name_of_methodNamed Bd.named Bd.method).1
  have X0 : Stand p l e ({ frames := 3, cells := 1, slots := 2, locals := 60 } : Room) s m #[(.ref u0), (.ref u1)] below meth c s₁ [] 0 0 := Stand.of_body Bd
  have e0 : s₁.heap = h0 := by rw [← hh, Bd.state]; rfl
  have N0 := Fr.nil n0
  change Go p.tables e below _ _
  refine own_on (B := s₁.setTop (mkF m 0 #[rv u0, rv u1] [])) (fun tz kz => castTop (own_ef_3b m u0 u1) kz) ?_
  refine own_on (B := s₁.setTop (mkF m 4 #[rv u0, rv u1] [(.ref u1), (.int 0), (.ref u1), (.ref u0)])) (fun tz kz => ?_) ?_
  · show sT p e below s₁ (mkF m 0 #[rv u0, rv u1] []) tz
    refine XS.aloadN X0.here hx rfl (hb hby own_d3_0) rfl rfl ?_
    show sT p e below s₁ (mkF m 1 #[rv u0, rv u1] [(.ref u0)]) tz
    refine XS.aloadN X0.here hx rfl (hb hby own_d3_1) rfl rfl ?_
    show sT p e below s₁ (mkF m 2 #[rv u0, rv u1] [(.ref u1), (.ref u0)]) tz
    refine XS.iconst X0.here hx rfl (hb hby own_d3_2) ?_
    show sT p e below s₁ (mkF m 3 #[rv u0, rv u1] [(.int 0), (.ref u1), (.ref u0)]) tz
    refine XS.aloadN X0.here hx rfl (hb hby own_d3_3) rfl rfl ?_
    exact kz
  obtain ⟨cl1, Ar1, q1, S1, M1, H1, G1⟩ := id Vc
  refine own_on (B := s₁.setTop (mkF m 6 #[rv u0, rv u1] [.null, (.int 2), (.int 0), (.ref u1), (.ref u0)])) (fun tz kz => ?_) ?_
  · show sT p e below s₁ (mkF m 4 #[rv u0, rv u1] [(.ref u1), (.int 0), (.ref u1), (.ref u0)]) tz
    refine X0.arraylength hx (by rw [e0]; exact Ar1.1) (State.isArrayOf_alike hZ.alike Ar1.2.1) (g := (mkF m 4 #[rv u0, rv u1] [(.ref u1), (.int 0), (.ref u1), (.ref u0)])) rfl rfl (hb hby own_d3_4) _ ?_
    rw [len_of S1 M1]
    show sT p e below s₁ (mkF m 5 #[rv u0, rv u1] [(.int 2), (.int 0), (.ref u1), (.ref u0)]) tz
    refine XS.aconstNull X0.here hx rfl (hb hby own_d3_5) ?_
    exact kz
  obtain ⟨_, _, ⟨T2, L2, k2, n2⟩, -, X2, ⟨Lc2, hQ2, l2, y2, z2⟩, st2⟩ := X0.specialBack hx (y := (⟨"java/lang/String", "<init>", "([CIILjava/lang/Void;)V"⟩ : MethodName)) rfl hown (mvT hZ (own_w hw 14 rfl)) (mvT hZ (own_w hw 15 rfl)) (mvT hZ (own_w hw 17 rfl)) (by decide) (backOf (W := 0) (rm4b l Z a0 hw [] u0 u1 cS kx x0 x1 h0 n0 O0 E_u0 g_u0 F_value F_coder F_hash F_hashIsZero S_cs hcS Vc nb0 nb1) hZ (own_w hw 17 rfl) (own_w hw 9 rfl) (by decide) (by decide)) (g := (mkF m 6 #[rv u0, rv u1] [.null, (.int 2), (.int 0), (.ref u1), (.ref u0)])) rfl (by rw [hml]; rfl) (Steps.refl _) (a := u0) (argsL := [(.ref u1), (.int (0 : Int32)), (.int (2 : Int32)), .null]) (rest := []) (lenOf own_pd1 rfl) rfl (by show 2 * 0 + _ ≤ _; exact Nat.le_of_eq rfl) (hb hby own_d3_6) (fun _ _ => ⟨rfl, e0, (by decide : 0 + 1 ≤ _), (by decide : 0 + 2 ≤ _)⟩)
  dsimp only [Pt.U, Pt.locs, Pt.cells, Pt.slots] at X2 l2 y2 z2 st2 hQ2
  subst l2 y2 z2
  obtain ⟨b2, kb2, rfl, Nq2, Kq2, Fv2, Fc2, Fh2, Fz2, Eb2, Vb2⟩ := hQ2
  have N2 := Fr.app N0 Nq2
  have O3 := O0.keep Kq2 (allS g_u0 all0)
  have K3 : Keep h0 T2.heap [u0] := (Keep.refl h0 [u0]).trans Kq2 (allS (Or.inl (List.mem_of_getElem? (i := 0) rfl)) all0)
  refine own_on (B := T2.setTop (mkF m 9 #[rv u0, rv u1] [])) (fun tz kz => st2.trans kz) ?_
  obtain ⟨fs, hr, hrun, hended, hW, hsame⟩ := X2.leave (v := none) (fun _ => rfl)
  refine own_of ⟨_, _, ?_, hrun, hended, _, _, rfl, ?_, ⟨_, rfl⟩, hW, hsame.mono (by decide) (by decide)⟩
  · show sT p e below T2 (mkF m 9 #[rv u0, rv u1] []) _
    exact X2.returnOut hx Bd.returns (hb hby own_d3_9) hr
  · show Q3b Z u0 u1 cS kx x0 x1 h0 n0 _ T2.heap _
    exact ⟨b2, kb2, rfl, N2, K3, Fv2, Fc2, Fh2, Fz2, Eb2, Vb2⟩
theorem own_pn_com_example_stackwright_stackwright_FairValueLevelReadPinLaw : plainName "com/example/stackwright/stackwright/FairValueLevelReadPinLaw" = true := by first | (simp [plainName, overriddenIn]; done) | decide +kernel
theorem own_ef_2z (m : MethodId) (x0 : Int32) (x1 : Int32) (x2 : Int32) : entryFrame m #[(.int x0), (.int x1), (.int x2)] 3 = mkF m 0 #[iv x0, iv x1, iv x2] [] := by first | (simp [entryFrame, mkF, argsToLocals, Value.category]; done) | rfl
def Q2z (Z : State) (x0 : Int32) (x1 : Int32) (h0 : Heap) (n0 : Nat) (v : Option Value) (h : Heap) (L : List Loc) (vm : Vm) : Prop := ∃ (d : Addr) (la lb : Addr) (lk : ClassId), v = some (.ref d) ∧ Fr n0 L ∧ Keep h0 h [] ∧ h0.size ≤ d ∧ Exa Z h d "java/lang/String" ∧ Fld Z h d "java/lang/String" "value" "[B" (.ref lb) ∧ Fld Z h d "java/lang/String" "coder" "B" (.int (0 : Int32)) ∧ Fld Z h d "java/lang/String" "hash" "I" (.int (0 : Int32)) ∧ Fld Z h d "java/lang/String" "hashIsZero" "Z" (.int (0 : Int32)) ∧ Exa Z h la "java/lang/String" ∧ Fld Z h la "java/lang/String" "coder" "B" (.int (0 : Int32)) ∧ Fld Z h la "java/lang/String" "value" "[B" (.ref lb) ∧ Arv Z h lb lk .byte (0 : Int32) [] (.int 0) ∧ (OwnJ Z [""] [("java/lang/String", 7, la)]) vm
theorem own_d2_0 : decode method_3_code 0 = .ok (.iload_n 0, 1) := by decide +kernel
theorem own_d2_1 : decode method_3_code 1 = .ok (.ifCond .ne 14, 3) := by decide +kernel
theorem own_d2_4 : decode method_3_code 4 = .ok (.new 7, 3) := by decide +kernel
theorem own_d2_7 : decode method_3_code 7 = .ok (.dup, 1) := by decide +kernel
theorem own_d2_8 : decode method_3_code 8 = .ok (.iconst 0, 1) := by decide +kernel
theorem own_d2_9 : decode method_3_code 9 = .ok (.newarray .char, 2) := by decide +kernel
theorem own_pd4 : parseMethodDescriptor "([C)V" = some ⟨[(.array .char)], none⟩ := by decide +kernel
theorem own_d2_11 : decode method_3_code 11 = .ok (.invokespecial 9, 3) := by decide +kernel
theorem own_d2_14 : decode method_3_code 14 = .ok (.areturn, 1) := by decide +kernel
set_option maxRecDepth 65536 in
set_option maxHeartbeats 40000000 in
theorem rm2z (l : Launch) (Z : State) (a0 : Array Value) (hw : ∀ d ∈ tables_1, d.before a0 Z = true) (ws : List Jvm.Cond) (x0 : Int32) (x1 : Int32) (h0 : Heap) (n0 : Nat) (O0 : Old Z n0 h0) (hheld : Jvm.Lit.constHeld Z "java/lang/String" 7) (hcw : Jvm.Lit.compactW.before a0 Z = true) :
    MetFree l (⟨"com/example/stackwright/stackwright/FairValueLevelReadPinLaw", "make", "(ICC)Ljava/lang/String;"⟩ : MethodName) (head1 (Jvm.Cond.code (⟨"com/example/stackwright/stackwright/FairValueLevelReadPinLaw", "make", "(ICC)Ljava/lang/String;"⟩ : MethodName) method_3_code 3 (some (.object "java/lang/String")) :: ws) ({ frames := 4, cells := 4, slots := 8, locals := 80 } : Room)) (fun a U => a = #[(.int (0 : Int32)), (.int x0), (.int x1)] ∧ Z.Warmed39 U.vm ∧ U.heap = h0 ∧ OwnJ Z [] [] U.vm) (fun _ _ _ _ _ => True) (fun _ U o U' => ∃ v L, o = .returned v ∧ Q2z Z x0 x1 h0 n0 v U'.heap L U'.vm ∧ ReturnedEndW U o U' L ({ frames := 4, cells := 4, slots := 8, locals := 80 } : Room).cells ({ frames := 4, cells := 4, slots := 8, locals := 80 } : Room).slots) := by
  refine MetFree.of_bodySF (plainFor_of_name own_pn_com_example_stackwright_stackwright_FairValueLevelReadPinLaw) hisR ?_
  intro p e s m args below meth c s₁ Bd hml0 hP hK
  obtain ⟨rfl, hZ, hh, hJ⟩ := hP
  have hx := Bd.exec
  have hby := Bd.bytes
  have hml : c.maxLocals = 3 := hml0
  have hown : s.vm.findClass "com/example/stackwright/stackwright/FairValueLevelReadPinLaw" = some m.cls := findClass_of_methodNamed Bd.named
  have hnm := (name_of_methodNamed Bd.named Bd.method).1
  have X0 : Stand p l e ({ frames := 4, cells := 4, slots := 8, locals := 80 } : Room) s m #[(.int (0 : Int32)), (.int x0), (.int x1)] below meth c s₁ [] 0 0 := Stand.of_body Bd
  have e0 : s₁.heap = h0 := by rw [← hh, Bd.state]; rfl
  have N0 := Fr.nil n0
  change Go p.tables e below _ _
  refine own_on (B := s₁.setTop (mkF m 0 #[iv 0, iv x0, iv x1] [])) (fun tz kz => castTop (own_ef_2z m (0 : Int32) x0 x1) kz) ?_
  refine own_on (B := s₁.setTop (mkF m 4 #[iv 0, iv x0, iv x1] [])) (fun tz kz => ?_) ?_
  · show sT p e below s₁ (mkF m 0 #[iv 0, iv x0, iv x1] []) tz
    refine XS.iloadN X0.here hx rfl (hb hby own_d2_0) rfl ?_
    show sT p e below s₁ (mkF m 1 #[iv 0, iv x0, iv x1] [(.int 0)]) tz
    refine XS.ifNo X0.here hx rfl (hb hby own_d2_1) rfl ((if0 _ _).trans (teq rfl).2) ?_
    exact kz
  obtain ⟨T1, h1, X1, e1, E1, A1, D1, -, st1⟩ := newO X0 hx hZ hown (own_w hw 7 rfl) (own_w hw 8 rfl) (own_w hw 9 rfl) e0 (g := (mkF m 4 #[iv 0, iv x0, iv x1] [])) rfl (hb hby own_d2_4) (by decide) (by decide)
  obtain ⟨b1, g1⟩ : ∃ z, z = h0.size := ⟨_, rfl⟩
  rw [← g1] at A1 D1 st1
  have g_b1 : n0 ≤ b1 := Nat.le_trans (own_old O0) (Nat.le_of_eq g1.symm)
  have sz_b1 : h0.size ≤ b1 := Nat.le_trans (Keep.refl h0 []).1 (Nat.le_of_eq g1.symm)
  have O2 := O0.ext E1
  have K2 : Keep h0 h1 [] := (Keep.refl h0 []).ext E1
  have F1_value : Fld Z h1 b1 "java/lang/String" "value" "[B" .null := D1 (Or.inr (own_w hw 23 rfl)) (ty := (.array .byte)) (by decide)
  have F1_coder : Fld Z h1 b1 "java/lang/String" "coder" "B" (.int (0 : Int32)) := D1 (Or.inr (own_w hw 24 rfl)) (ty := .byte) (by decide)
  have F1_hash : Fld Z h1 b1 "java/lang/String" "hash" "I" (.int (0 : Int32)) := D1 (Or.inl (own_w hw 63 rfl)) (ty := .int) (by decide)
  have F1_hashIsZero : Fld Z h1 b1 "java/lang/String" "hashIsZero" "Z" (.int (0 : Int32)) := D1 (Or.inl (own_w hw 65 rfl)) (ty := .boolean) (by decide)
  refine own_on (B := T1.setTop (mkF m 7 #[iv 0, iv x0, iv x1] [(.ref b1)])) (fun tz kz => st1 _ kz) ?_
  refine own_on (B := T1.setTop (mkF m 9 #[iv 0, iv x0, iv x1] [(.int 0), (.ref b1), (.ref b1)])) (fun tz kz => ?_) ?_
  · show sT p e below T1 (mkF m 7 #[iv 0, iv x0, iv x1] [(.ref b1)]) tz
    refine XS.dup X1.here hx rfl (hb hby own_d2_7) rfl rfl ?_
    show sT p e below T1 (mkF m 8 #[iv 0, iv x0, iv x1] [(.ref b1), (.ref b1)]) tz
    refine XS.iconst X1.here hx rfl (hb hby own_d2_8) ?_
    exact kz
  obtain ⟨T3, h3, k3, X3, e3, E3, A3, st3⟩ := newP X1 hx hZ (own_w hw 10 rfl) e1 (g := (mkF m 9 #[iv 0, iv x0, iv x1] [(.int 0), (.ref b1), (.ref b1)])) rfl (hb hby own_d2_9) rfl (by decide) (cap := 0) (by decide) (by decide) (by decide) (by decide)
  obtain ⟨b3, g3⟩ : ∃ z, z = h1.size := ⟨_, rfl⟩
  rw [← g3] at A3 st3
  have ne_b1_b3 : b1 ≠ b3 := Nat.ne_of_lt (Nat.lt_of_lt_of_le (A1).lt (Nat.le_of_eq g3.symm))
  have g_b3 : n0 ≤ b3 := Nat.le_trans (own_old O2) (Nat.le_of_eq g3.symm)
  have sz_b3 : h0.size ≤ b3 := Nat.le_trans K2.1 (Nat.le_of_eq g3.symm)
  have O4 := O2.ext E3
  have K4 : Keep h0 h3 [] := K2.ext E3
  have V3 : Arv Z h3 b3 k3 .char (0 : Int32) [] (.int (0 : Int32)) := (Arv.new A3 (by decide)).pad (pad_rep [] (.int (0 : Int32)) 0)
  refine own_on (B := T3.setTop (mkF m 11 #[iv 0, iv x0, iv x1] [(.ref b3), (.ref b1), (.ref b1)])) (fun tz kz => st3 _ kz) ?_
  have V5 := OwnArz.of V3
  have f_6 := (A1.ext E3)
  have f_7 := (F1_value.ext E3)
  have f_8 := (F1_coder.ext E3)
  have f_9 := (F1_hash.ext E3)
  have f_10 := (F1_hashIsZero.ext E3)
  obtain ⟨_, _, ⟨T11, L11, k11, n11⟩, -, X11, hSc11, hgr11, ⟨Lc11, hQ11, l11, y11, z11⟩, st11⟩ := X3.specialBackS hx (y := (⟨"java/lang/String", "<init>", "([C)V"⟩ : MethodName)) rfl hown (mvT hZ (own_w hw 11 rfl)) (mvT hZ (own_w hw 12 rfl)) (mvT hZ (own_w hw 13 rfl)) (by decide) (own_backJ (hJ := OwnJ.warm (s := s) hJ) (W := 1) (rm3z l Z a0 hw [] b1 b3  h3 n0 O4 f_6 g_b1 f_7 f_8 f_9 f_10 hheld hcw V5) hZ (own_w hw 13 rfl) (own_w hw 9 rfl) (by decide) (by decide)) (g := (mkF m 11 #[iv 0, iv x0, iv x1] [(.ref b3), (.ref b1), (.ref b1)])) rfl (by rw [hml]; rfl) (Steps.refl _) (a := b1) (argsL := [(.ref b3)]) (rest := [(.ref b1)]) (lenOf own_pd4 rfl) rfl (by show 2 * 0 + _ ≤ _; exact Nat.le_of_eq rfl) (hb hby own_d2_11) (fun _ _ => ⟨rfl, e3, (by decide : 2 + 2 ≤ _), (by decide : 4 + 4 ≤ _)⟩)
  dsimp only [Pt.U, Pt.locs, Pt.cells, Pt.slots] at X11 l11 y11 z11 st11 hQ11 hSc11 hgr11
  subst l11 y11 z11
  have hS12 : s.Since s.vm 0 := State.WarmedH.since (State.WarmedH.refl s) 0
  obtain ⟨X11, hS11, hZ, hown⟩ := rebS hS12 (by rw [e3]; exact (Nat.zero_le _)) X11 hSc11 hgr11 hZ hown
  obtain ⟨la11, lb11, lk11, rfl, Nq11, Kq11, La11, Lc11, Lv11, Lb11, Fv11, Fc11, Fh11, Fz11, Jq11⟩ := hQ11
  have N11 := Fr.app N0 Nq11
  have O13 := O4.keep Kq11 (allS g_b1 all0)
  have K13 : Keep h0 T11.heap [] := K4.trans Kq11 (allS (Or.inr sz_b1) all0)
  refine own_on (B := T11.setTop (mkF m 14 #[iv 0, iv x0, iv x1] [(.ref b1)])) (fun tz kz => st11.trans kz) ?_
  have f_14 := (f_6.keep Kq11)
  obtain ⟨fs, hr, hrun, hended, hRW⟩ := Jvm.Stand.leaveW X11 hS11 ((Nat.le_refl T11.heap.size)) (v := some (.ref b1)) (fun h => by rw [Bd.returns] at h; cases h)
  refine own_of ⟨_, _, ?_, hrun, hended, _, _, rfl, ?_, hRW.1, hRW.2.1, hRW.2.2.1, hRW.2.2.2.mono (by decide) (by decide)⟩
  · show sT p e below T11 (mkF m 14 #[iv 0, iv x0, iv x1] [(.ref b1)]) _
    exact own_retV X11 hx Bd.returns rfl rfl (hb hby own_d2_14) hr
  · show Q2z Z x0 x1 h0 n0 _ T11.heap _ T11.vm
    exact ⟨b1, la11, lb11, lk11, rfl, N11, K13, sz_b1, f_14, Fv11, Fc11, Fh11, Fz11, La11, Lc11, Lv11, Lb11, (OwnJ.warm (s := (s.setVm T11.vm)) Jq11 _ X11.warmed)⟩
theorem own_ef_2y (m : MethodId) (x0 : Int32) (x1 : Int32) (x2 : Int32) : entryFrame m #[(.int x0), (.int x1), (.int x2)] 3 = mkF m 0 #[iv x0, iv x1, iv x2] [] := by first | (simp [entryFrame, mkF, argsToLocals, Value.category]; done) | rfl
def Q2y (Z : State) (x0 : Int32) (x1 : Int32) (la : Addr) (lb : Addr) (lk : ClassId) (h0 : Heap) (n0 : Nat) (v : Option Value) (h : Heap) (L : List Loc) : Prop := ∃ (d : Addr), v = some (.ref d) ∧ Fr n0 L ∧ Keep h0 h [] ∧ h0.size ≤ d ∧ Exa Z h d "java/lang/String" ∧ Fld Z h d "java/lang/String" "value" "[B" (.ref lb) ∧ Fld Z h d "java/lang/String" "coder" "B" (.int (0 : Int32)) ∧ Fld Z h d "java/lang/String" "hash" "I" (.int (0 : Int32)) ∧ Fld Z h d "java/lang/String" "hashIsZero" "Z" (.int (0 : Int32))
set_option maxRecDepth 65536 in
set_option maxHeartbeats 40000000 in
theorem rm2y (l : Launch) (Z : State) (a0 : Array Value) (hw : ∀ d ∈ tables_1, d.before a0 Z = true) (ws : List Jvm.Cond) (x0 : Int32) (x1 : Int32) (la : Addr) (lb : Addr) (lk : ClassId) (h0 : Heap) (n0 : Nat) (O0 : Old Z n0 h0) (La : Exa Z h0 la "java/lang/String") (Lc : Fld Z h0 la "java/lang/String" "coder" "B" (.int (0 : Int32))) (Lv : Fld Z h0 la "java/lang/String" "value" "[B" (.ref lb)) (Lb : Arv Z h0 lb lk .byte (0 : Int32) [] (.int 0)) :
    MetFree l (⟨"com/example/stackwright/stackwright/FairValueLevelReadPinLaw", "make", "(ICC)Ljava/lang/String;"⟩ : MethodName) (head1 (Jvm.Cond.code (⟨"com/example/stackwright/stackwright/FairValueLevelReadPinLaw", "make", "(ICC)Ljava/lang/String;"⟩ : MethodName) method_3_code 3 (some (.object "java/lang/String")) :: ws) ({ frames := 4, cells := 4, slots := 8, locals := 80 } : Room)) (fun a U => a = #[(.int (0 : Int32)), (.int x0), (.int x1)] ∧ Z.Warmed39 U.vm ∧ U.heap = h0 ∧ (OwnJ Z [""] [("java/lang/String", 7, la)]) U.vm) (fun _ _ _ _ _ => True) (fun _ U o U' => ∃ v L, o = .returned v ∧ Q2y Z x0 x1 la lb lk h0 n0 v U'.heap L ∧ ReturnedEndW U o U' L ({ frames := 4, cells := 4, slots := 8, locals := 80 } : Room).cells ({ frames := 4, cells := 4, slots := 8, locals := 80 } : Room).slots) := by
  refine MetFree.of_bodySF (plainFor_of_name own_pn_com_example_stackwright_stackwright_FairValueLevelReadPinLaw) hisR ?_
  intro p e s m args below meth c s₁ Bd hml0 hP hK
  obtain ⟨rfl, hZ, hh, hJ⟩ := hP
  have hx := Bd.exec
  have hby := Bd.bytes
  have hml : c.maxLocals = 3 := hml0
  have hown : s.vm.findClass "com/example/stackwright/stackwright/FairValueLevelReadPinLaw" = some m.cls := findClass_of_methodNamed Bd.named
  have hnm := (name_of_methodNamed Bd.named Bd.method).1
  have X0 : Stand p l e ({ frames := 4, cells := 4, slots := 8, locals := 80 } : Room) s m #[(.int (0 : Int32)), (.int x0), (.int x1)] below meth c s₁ [] 0 0 := Stand.of_body Bd
  have e0 : s₁.heap = h0 := by rw [← hh, Bd.state]; rfl
  have N0 := Fr.nil n0
  change Go p.tables e below _ _
  refine own_on (B := s₁.setTop (mkF m 0 #[iv 0, iv x0, iv x1] [])) (fun tz kz => castTop (own_ef_2y m (0 : Int32) x0 x1) kz) ?_
  refine own_on (B := s₁.setTop (mkF m 4 #[iv 0, iv x0, iv x1] [])) (fun tz kz => ?_) ?_
  · show sT p e below s₁ (mkF m 0 #[iv 0, iv x0, iv x1] []) tz
    refine XS.iloadN X0.here hx rfl (hb hby own_d2_0) rfl ?_
    show sT p e below s₁ (mkF m 1 #[iv 0, iv x0, iv x1] [(.int 0)]) tz
    refine XS.ifNo X0.here hx rfl (hb hby own_d2_1) rfl ((if0 _ _).trans (teq rfl).2) ?_
    exact kz
  obtain ⟨T1, h1, X1, e1, E1, A1, D1, -, st1⟩ := newO X0 hx hZ hown (own_w hw 7 rfl) (own_w hw 8 rfl) (own_w hw 9 rfl) e0 (g := (mkF m 4 #[iv 0, iv x0, iv x1] [])) rfl (hb hby own_d2_4) (by decide) (by decide)
  obtain ⟨b1, g1⟩ : ∃ z, z = h0.size := ⟨_, rfl⟩
  rw [← g1] at A1 D1 st1
  have ne_la_b1 : la ≠ b1 := Nat.ne_of_lt (Nat.lt_of_lt_of_le (La).lt (Nat.le_of_eq g1.symm))
  have ne_lb_b1 : lb ≠ b1 := Nat.ne_of_lt (Nat.lt_of_lt_of_le (Lb).lt (Nat.le_of_eq g1.symm))
  have g_b1 : n0 ≤ b1 := Nat.le_trans (own_old O0) (Nat.le_of_eq g1.symm)
  have sz_b1 : h0.size ≤ b1 := Nat.le_trans (Keep.refl h0 []).1 (Nat.le_of_eq g1.symm)
  have O2 := O0.ext E1
  have K2 : Keep h0 h1 [] := (Keep.refl h0 []).ext E1
  have F1_value : Fld Z h1 b1 "java/lang/String" "value" "[B" .null := D1 (Or.inr (own_w hw 23 rfl)) (ty := (.array .byte)) (by decide)
  have F1_coder : Fld Z h1 b1 "java/lang/String" "coder" "B" (.int (0 : Int32)) := D1 (Or.inr (own_w hw 24 rfl)) (ty := .byte) (by decide)
  have F1_hash : Fld Z h1 b1 "java/lang/String" "hash" "I" (.int (0 : Int32)) := D1 (Or.inl (own_w hw 63 rfl)) (ty := .int) (by decide)
  have F1_hashIsZero : Fld Z h1 b1 "java/lang/String" "hashIsZero" "Z" (.int (0 : Int32)) := D1 (Or.inl (own_w hw 65 rfl)) (ty := .boolean) (by decide)
  refine own_on (B := T1.setTop (mkF m 7 #[iv 0, iv x0, iv x1] [(.ref b1)])) (fun tz kz => st1 _ kz) ?_
  refine own_on (B := T1.setTop (mkF m 9 #[iv 0, iv x0, iv x1] [(.int 0), (.ref b1), (.ref b1)])) (fun tz kz => ?_) ?_
  · show sT p e below T1 (mkF m 7 #[iv 0, iv x0, iv x1] [(.ref b1)]) tz
    refine XS.dup X1.here hx rfl (hb hby own_d2_7) rfl rfl ?_
    show sT p e below T1 (mkF m 8 #[iv 0, iv x0, iv x1] [(.ref b1), (.ref b1)]) tz
    refine XS.iconst X1.here hx rfl (hb hby own_d2_8) ?_
    exact kz
  obtain ⟨T3, h3, k3, X3, e3, E3, A3, st3⟩ := newP X1 hx hZ (own_w hw 10 rfl) e1 (g := (mkF m 9 #[iv 0, iv x0, iv x1] [(.int 0), (.ref b1), (.ref b1)])) rfl (hb hby own_d2_9) rfl (by decide) (cap := 0) (by decide) (by decide) (by decide) (by decide)
  obtain ⟨b3, g3⟩ : ∃ z, z = h1.size := ⟨_, rfl⟩
  rw [← g3] at A3 st3
  have f_4 := (La.ext E1)
  have ne_la_b3 : la ≠ b3 := Nat.ne_of_lt (Nat.lt_of_lt_of_le (f_4).lt (Nat.le_of_eq g3.symm))
  have f_5 := (Lb.ext E1)
  have ne_lb_b3 : lb ≠ b3 := Nat.ne_of_lt (Nat.lt_of_lt_of_le (f_5).lt (Nat.le_of_eq g3.symm))
  have ne_b1_b3 : b1 ≠ b3 := Nat.ne_of_lt (Nat.lt_of_lt_of_le (A1).lt (Nat.le_of_eq g3.symm))
  have g_b3 : n0 ≤ b3 := Nat.le_trans (own_old O2) (Nat.le_of_eq g3.symm)
  have sz_b3 : h0.size ≤ b3 := Nat.le_trans K2.1 (Nat.le_of_eq g3.symm)
  have O6 := O2.ext E3
  have K6 : Keep h0 h3 [] := K2.ext E3
  have V3 : Arv Z h3 b3 k3 .char (0 : Int32) [] (.int (0 : Int32)) := (Arv.new A3 (by decide)).pad (pad_rep [] (.int (0 : Int32)) 0)
  refine own_on (B := T3.setTop (mkF m 11 #[iv 0, iv x0, iv x1] [(.ref b3), (.ref b1), (.ref b1)])) (fun tz kz => st3 _ kz) ?_
  have V7 := OwnArz.of V3
  have f_8 := (A1.ext E3)
  have f_9 := (F1_value.ext E3)
  have f_10 := (F1_coder.ext E3)
  have f_11 := (F1_hash.ext E3)
  have f_12 := (F1_hashIsZero.ext E3)
  have f_13 := (f_4.ext E3)
  have f_14 := ((Lc.ext E1).ext E3)
  have f_15 := ((Lv.ext E1).ext E3)
  have f_16 := (f_5.ext E3)
  obtain ⟨_, _, ⟨T17, L17, k17, n17⟩, -, X17, hSc17, hgr17, ⟨Lc17, hQ17, l17, y17, z17⟩, st17⟩ := X3.specialBackS hx (y := (⟨"java/lang/String", "<init>", "([C)V"⟩ : MethodName)) rfl hown (mvT hZ (own_w hw 11 rfl)) (mvT hZ (own_w hw 12 rfl)) (mvT hZ (own_w hw 13 rfl)) (by decide) (own_backK (hJ := OwnJ.warm (s := s) hJ) (W := 1) (rm3y l Z a0 hw [] b1 b3 la lb lk h3 n0 O6 f_8 g_b1 f_9 f_10 f_11 f_12 f_13 f_14 f_15 f_16 V7) hZ (own_w hw 13 rfl) (own_w hw 9 rfl) (by decide) (by decide)) (g := (mkF m 11 #[iv 0, iv x0, iv x1] [(.ref b3), (.ref b1), (.ref b1)])) rfl (by rw [hml]; rfl) (Steps.refl _) (a := b1) (argsL := [(.ref b3)]) (rest := [(.ref b1)]) (lenOf own_pd4 rfl) rfl (by show 2 * 0 + _ ≤ _; exact Nat.le_of_eq rfl) (hb hby own_d2_11) (fun _ _ => ⟨rfl, e3, (by decide : 2 + 0 ≤ _), (by decide : 4 + 0 ≤ _)⟩)
  dsimp only [Pt.U, Pt.locs, Pt.cells, Pt.slots] at X17 l17 y17 z17 st17 hQ17 hSc17 hgr17
  subst l17 y17 z17
  have hS18 : s.Since s.vm 0 := State.WarmedH.since (State.WarmedH.refl s) 0
  obtain ⟨X17, hS17, hZ, hown⟩ := rebS hS18 (by rw [e3]; exact (Nat.zero_le _)) X17 hSc17 hgr17 hZ hown
  obtain ⟨rfl, Nq17, Kq17, Fv17, Fc17, Fh17, Fz17⟩ := hQ17
  have N17 := Fr.app N0 Nq17
  have O19 := O6.keep Kq17 (allS g_b1 all0)
  have K19 : Keep h0 T17.heap [] := K6.trans Kq17 (allS (Or.inr sz_b1) all0)
  refine own_on (B := T17.setTop (mkF m 14 #[iv 0, iv x0, iv x1] [(.ref b1)])) (fun tz kz => st17.trans kz) ?_
  have f_20 := (f_8.keep Kq17)
  obtain ⟨fs, hr, hrun, hended, hRW⟩ := Jvm.Stand.leaveW X17 hS17 ((Nat.le_refl T17.heap.size)) (v := some (.ref b1)) (fun h => by rw [Bd.returns] at h; cases h)
  refine own_of ⟨_, _, ?_, hrun, hended, _, _, rfl, ?_, hRW.1, hRW.2.1, hRW.2.2.1, hRW.2.2.2.mono (by decide) (by decide)⟩
  · show sT p e below T17 (mkF m 14 #[iv 0, iv x0, iv x1] [(.ref b1)]) _
    exact own_retV X17 hx Bd.returns rfl rfl (hb hby own_d2_14) hr
  · show Q2y Z x0 x1 la lb lk h0 n0 _ T17.heap _
    exact ⟨b1, rfl, N17, K19, sz_b1, f_20, Fv17, Fc17, Fh17, Fz17⟩
theorem own_narC (x : Int32) (h0 : ¬ x < 0) (h1 : ¬ (255 : Int32) < x) : nar .char x = x := by
  have z0 : (0 : Int32).toInt = 0 := rfl
  have z5 : (255 : Int32).toInt = 255 := rfl
  rw [Int32.lt_iff_toInt_lt] at h0 h1
  have cc := c_i2c x
  show x.toUInt32.toUInt16.toUInt32.toInt32 = x
  rw [← Int32.toInt_inj]
  omega
theorem own_ef_2a (m : MethodId) (x0 : Int32) (x1 : Int32) (x2 : Int32) : entryFrame m #[(.int x0), (.int x1), (.int x2)] 3 = mkF m 0 #[iv x0, iv x1, iv x2] [] := by first | (simp [entryFrame, mkF, argsToLocals, Value.category]; done) | rfl
def Q2a (Z : State) (x0 : Int32) (x1 : Int32) (cS : Int32) (h0 : Heap) (n0 : Nat) (v : Option Value) (h : Heap) (L : List Loc) : Prop := ∃ (d : Addr) (b : Addr) (kb : ClassId), v = some (.ref d) ∧ Fr n0 L ∧ Keep h0 h [] ∧ h0.size ≤ d ∧ Exa Z h d "java/lang/String" ∧ Fld Z h d "java/lang/String" "value" "[B" (.ref b) ∧ Fld Z h d "java/lang/String" "coder" "B" (.int (0 : Int32)) ∧ Fld Z h d "java/lang/String" "hash" "I" (.int (0 : Int32)) ∧ Fld Z h d "java/lang/String" "hashIsZero" "Z" (.int (0 : Int32)) ∧ Exa Z h b "[B" ∧ Arv Z h b kb .byte (1 : Int32) [(.int (nar .byte (x0.toInt8.toInt32)))] (.int 0)
theorem own_d2_15 : decode method_3_code 15 = .ok (.iload_n 0, 1) := by decide +kernel
theorem own_d2_16 : decode method_3_code 16 = .ok (.iconst 1, 1) := by decide +kernel
theorem own_d2_17 : decode method_3_code 17 = .ok (.if_icmp .ne 18, 3) := by decide +kernel
theorem own_d2_20 : decode method_3_code 20 = .ok (.new 7, 3) := by decide +kernel
theorem own_d2_23 : decode method_3_code 23 = .ok (.dup, 1) := by decide +kernel
theorem own_d2_24 : decode method_3_code 24 = .ok (.iconst 1, 1) := by decide +kernel
theorem own_d2_25 : decode method_3_code 25 = .ok (.newarray .char, 2) := by decide +kernel
theorem own_d2_27 : decode method_3_code 27 = .ok (.dup, 1) := by decide +kernel
theorem own_d2_28 : decode method_3_code 28 = .ok (.iconst 0, 1) := by decide +kernel
theorem own_d2_29 : decode method_3_code 29 = .ok (.iload_n 1, 1) := by decide +kernel
theorem own_d2_30 : decode method_3_code 30 = .ok (.castore, 1) := by decide +kernel
theorem own_d2_31 : decode method_3_code 31 = .ok (.invokespecial 9, 3) := by decide +kernel
theorem own_d2_34 : decode method_3_code 34 = .ok (.areturn, 1) := by decide +kernel
set_option maxRecDepth 65536 in
set_option maxHeartbeats 40000000 in
theorem rm2a (l : Launch) (Z : State) (a0 : Array Value) (hw : ∀ d ∈ tables_1, d.before a0 Z = true) (ws : List Jvm.Cond) (x0 : Int32) (x1 : Int32) (cS : Int32) (h0 : Heap) (n0 : Nat) (O0 : Old Z n0 h0) (S_cs : Sta Z Z.heap "java/lang/String" "COMPACT_STRINGS" "Z" (.int cS)) (hcS : ¬ (cS = (0 : Int32))) (lo0 : ¬ x0 < 0) (nb0 : ¬ (255 : Int32) < x0) :
    MetFree l (⟨"com/example/stackwright/stackwright/FairValueLevelReadPinLaw", "make", "(ICC)Ljava/lang/String;"⟩ : MethodName) (head1 (Jvm.Cond.code (⟨"com/example/stackwright/stackwright/FairValueLevelReadPinLaw", "make", "(ICC)Ljava/lang/String;"⟩ : MethodName) method_3_code 3 (some (.object "java/lang/String")) :: ws) ({ frames := 4, cells := 4, slots := 8, locals := 80 } : Room)) (fun a U => a = #[(.int (1 : Int32)), (.int x0), (.int x1)] ∧ Z.Warmed39 U.vm ∧ U.heap = h0) (fun _ _ _ _ _ => True) (fun _ U o U' => ∃ v L, o = .returned v ∧ Q2a Z x0 x1 cS h0 n0 v U'.heap L ∧ FrameEnd U o U' L ({ frames := 4, cells := 4, slots := 8, locals := 80 } : Room).cells ({ frames := 4, cells := 4, slots := 8, locals := 80 } : Room).slots) := by
  refine MetFree.of_bodySF (plainFor_of_name own_pn_com_example_stackwright_stackwright_FairValueLevelReadPinLaw) hisR ?_
  intro p e s m args below meth c s₁ Bd hml0 hP hK
  obtain ⟨rfl, hZ, hh⟩ := hP
  have hx := Bd.exec
  have hby := Bd.bytes
  have hml : c.maxLocals = 3 := hml0
  have hown : s.vm.findClass "com/example/stackwright/stackwright/FairValueLevelReadPinLaw" = some m.cls := findClass_of_methodNamed Bd.named
  have hnm := (name_of_methodNamed Bd.named Bd.method).1
  have X0 : Stand p l e ({ frames := 4, cells := 4, slots := 8, locals := 80 } : Room) s m #[(.int (1 : Int32)), (.int x0), (.int x1)] below meth c s₁ [] 0 0 := Stand.of_body Bd
  have e0 : s₁.heap = h0 := by rw [← hh, Bd.state]; rfl
  have N0 := Fr.nil n0
  change Go p.tables e below _ _
  refine own_on (B := s₁.setTop (mkF m 0 #[iv 1, iv x0, iv x1] [])) (fun tz kz => castTop (own_ef_2a m (1 : Int32) x0 x1) kz) ?_
  refine own_on (B := s₁.setTop (mkF m 20 #[iv 1, iv x0, iv x1] [])) (fun tz kz => ?_) ?_
  · show sT p e below s₁ (mkF m 0 #[iv 1, iv x0, iv x1] []) tz
    refine XS.iloadN X0.here hx rfl (hb hby own_d2_0) rfl ?_
    show sT p e below s₁ (mkF m 1 #[iv 1, iv x0, iv x1] [(.int 1)]) tz
    refine XS.ifYes X0.here hx rfl (pc0 := 1) (pc' := 15) rfl (hb hby own_d2_1) rfl ((if0 _ _).trans (feq (by decide : ¬ ((1 : Int32) = (0 : Int32)))).2) (by decide) (by decide) ?_
    show sT p e below s₁ (mkF m 15 #[iv 1, iv x0, iv x1] []) tz
    refine XS.iloadN X0.here hx rfl (hb hby own_d2_15) rfl ?_
    show sT p e below s₁ (mkF m 16 #[iv 1, iv x0, iv x1] [(.int 1)]) tz
    refine XS.iconst X0.here hx rfl (hb hby own_d2_16) ?_
    show sT p e below s₁ (mkF m 17 #[iv 1, iv x0, iv x1] [(.int 1), (.int 1)]) tz
    refine XS.icmpNo X0.here hx rfl (hb hby own_d2_17) rfl (teq rfl).2 ?_
    exact kz
  obtain ⟨T1, h1, X1, e1, E1, A1, D1, -, st1⟩ := newO X0 hx hZ hown (own_w hw 7 rfl) (own_w hw 8 rfl) (own_w hw 9 rfl) e0 (g := (mkF m 20 #[iv 1, iv x0, iv x1] [])) rfl (hb hby own_d2_20) (by decide) (by decide)
  obtain ⟨b1, g1⟩ : ∃ z, z = h0.size := ⟨_, rfl⟩
  rw [← g1] at A1 D1 st1
  have g_b1 : n0 ≤ b1 := Nat.le_trans (own_old O0) (Nat.le_of_eq g1.symm)
  have sz_b1 : h0.size ≤ b1 := Nat.le_trans (Keep.refl h0 []).1 (Nat.le_of_eq g1.symm)
  have O2 := O0.ext E1
  have K2 : Keep h0 h1 [] := (Keep.refl h0 []).ext E1
  have F1_value : Fld Z h1 b1 "java/lang/String" "value" "[B" .null := D1 (Or.inr (own_w hw 23 rfl)) (ty := (.array .byte)) (by decide)
  have F1_coder : Fld Z h1 b1 "java/lang/String" "coder" "B" (.int (0 : Int32)) := D1 (Or.inr (own_w hw 24 rfl)) (ty := .byte) (by decide)
  have F1_hash : Fld Z h1 b1 "java/lang/String" "hash" "I" (.int (0 : Int32)) := D1 (Or.inl (own_w hw 63 rfl)) (ty := .int) (by decide)
  have F1_hashIsZero : Fld Z h1 b1 "java/lang/String" "hashIsZero" "Z" (.int (0 : Int32)) := D1 (Or.inl (own_w hw 65 rfl)) (ty := .boolean) (by decide)
  refine own_on (B := T1.setTop (mkF m 23 #[iv 1, iv x0, iv x1] [(.ref b1)])) (fun tz kz => st1 _ kz) ?_
  refine own_on (B := T1.setTop (mkF m 25 #[iv 1, iv x0, iv x1] [(.int 1), (.ref b1), (.ref b1)])) (fun tz kz => ?_) ?_
  · show sT p e below T1 (mkF m 23 #[iv 1, iv x0, iv x1] [(.ref b1)]) tz
    refine XS.dup X1.here hx rfl (hb hby own_d2_23) rfl rfl ?_
    show sT p e below T1 (mkF m 24 #[iv 1, iv x0, iv x1] [(.ref b1), (.ref b1)]) tz
    refine XS.iconst X1.here hx rfl (hb hby own_d2_24) ?_
    exact kz
  obtain ⟨T3, h3, k3, X3, e3, E3, A3, st3⟩ := newP X1 hx hZ (own_w hw 10 rfl) e1 (g := (mkF m 25 #[iv 1, iv x0, iv x1] [(.int 1), (.ref b1), (.ref b1)])) rfl (hb hby own_d2_25) rfl (by decide) (cap := 1) (by decide) (by decide) (by decide) (by decide)
  obtain ⟨b3, g3⟩ : ∃ z, z = h1.size := ⟨_, rfl⟩
  rw [← g3] at A3 st3
  have ne_b1_b3 : b1 ≠ b3 := Nat.ne_of_lt (Nat.lt_of_lt_of_le (A1).lt (Nat.le_of_eq g3.symm))
  have g_b3 : n0 ≤ b3 := Nat.le_trans (own_old O2) (Nat.le_of_eq g3.symm)
  have sz_b3 : h0.size ≤ b3 := Nat.le_trans K2.1 (Nat.le_of_eq g3.symm)
  have O4 := O2.ext E3
  have K4 : Keep h0 h3 [] := K2.ext E3
  have V3 : Arv Z h3 b3 k3 .char (1 : Int32) [(.int (0 : Int32))] (.int (0 : Int32)) := (Arv.new A3 (by decide)).pad (pad_rep [] (.int (0 : Int32)) 1)
  refine own_on (B := T3.setTop (mkF m 27 #[iv 1, iv x0, iv x1] [(.ref b3), (.ref b1), (.ref b1)])) (fun tz kz => st3 _ kz) ?_
  refine own_on (B := T3.setTop (mkF m 30 #[iv 1, iv x0, iv x1] [(.int x0), (.int 0), (.ref b3), (.ref b3), (.ref b1), (.ref b1)])) (fun tz kz => ?_) ?_
  · show sT p e below T3 (mkF m 27 #[iv 1, iv x0, iv x1] [(.ref b3), (.ref b1), (.ref b1)]) tz
    refine XS.dup X3.here hx rfl (hb hby own_d2_27) rfl rfl ?_
    show sT p e below T3 (mkF m 28 #[iv 1, iv x0, iv x1] [(.ref b3), (.ref b3), (.ref b1), (.ref b1)]) tz
    refine XS.iconst X3.here hx rfl (hb hby own_d2_28) ?_
    show sT p e below T3 (mkF m 29 #[iv 1, iv x0, iv x1] [(.int 0), (.ref b3), (.ref b3), (.ref b1), (.ref b1)]) tz
    refine XS.iloadN X3.here hx rfl (hb hby own_d2_29) rfl ?_
    exact kz
  obtain ⟨cl5, Ar5, q5, S5, M5, H5, G5⟩ := id V3
  have hin6 : ¬ ((0 : Int32) < 0 ∨ cl5.slots.size ≤ ((0 : Int32)).toNatClampNeg) := inb_of S5 ⟨by decide, by decide⟩
  obtain ⟨T6, h6, X6, e6, W6, st6⟩ := stC X3 hx hZ e3 Ar5 (j := (0 : Int32)) hin6 (g := (mkF m 30 #[iv 1, iv x0, iv x1] [(.int x0), (.int 0), (.ref b3), (.ref b3), (.ref b1), (.ref b1)])) rfl rfl (hb hby own_d2_30)
  have V6 : Arv Z h6 b3 k3 .char (1 : Int32) [(.int (nar .char x0))] (.int (0 : Int32)) := Arv.set Ar5 q5 S5 M5 H5 G5 (fits_nar_char _) W6 0 rfl (Nat.le_of_ble_eq_true rfl)
  have N6 := Fr.snoc X6 N0 g_b3
  have O7 := O4.wr W6 g_b3
  have K7 : Keep h0 h6 [] := K4.wr W6 (Or.inr sz_b3)
  refine own_on (B := T6.setTop (mkF m 31 #[iv 1, iv x0, iv x1] [(.ref b3), (.ref b1), (.ref b1)])) (fun tz kz => st6 _ kz) ?_
  have Vn : Arv Z h6 b3 k3 .char (1 : Int32) [(.int x0)] (.int 0) := by have q := V6; rw [own_narC x0 lo0 nb0] at q; exact q
  have f_8 := ((A1.ext E3).wr W6)
  have f_9 := ((F1_value.ext E3).other W6 (Or.inl ne_b1_b3))
  have f_10 := ((F1_coder.ext E3).other W6 (Or.inl ne_b1_b3))
  have f_11 := ((F1_hash.ext E3).other W6 (Or.inl ne_b1_b3))
  have f_12 := ((F1_hashIsZero.ext E3).other W6 (Or.inl ne_b1_b3))
  obtain ⟨_, _, ⟨T13, L13, k13, n13⟩, -, X13, ⟨Lc13, hQ13, l13, y13, z13⟩, st13⟩ := X6.specialBack hx (y := (⟨"java/lang/String", "<init>", "([C)V"⟩ : MethodName)) rfl hown (mvT hZ (own_w hw 11 rfl)) (mvT hZ (own_w hw 12 rfl)) (mvT hZ (own_w hw 13 rfl)) (by decide) (backOf (W := 1) (rm3a l Z a0 hw [] b1 b3 cS k3 x0 h6 n0 O7 f_8 g_b1 f_9 f_10 f_11 f_12 S_cs hcS Vn nb0) hZ (own_w hw 13 rfl) (own_w hw 9 rfl) (by decide) (by decide)) (g := (mkF m 31 #[iv 1, iv x0, iv x1] [(.ref b3), (.ref b1), (.ref b1)])) rfl (by rw [hml]; rfl) (Steps.refl _) (a := b1) (argsL := [(.ref b3)]) (rest := [(.ref b1)]) (lenOf own_pd4 rfl) rfl (by show 2 * 0 + _ ≤ _; exact Nat.le_of_eq rfl) (hb hby own_d2_31) (fun _ _ => ⟨rfl, e6, (by decide : 2 + 1 ≤ _), (by decide : 5 + 1 ≤ _)⟩)
  dsimp only [Pt.U, Pt.locs, Pt.cells, Pt.slots] at X13 l13 y13 z13 st13 hQ13
  subst l13 y13 z13
  obtain ⟨b13, kb13, rfl, Nq13, Kq13, Fv13, Fc13, Fh13, Fz13, Eb13, Vb13⟩ := hQ13
  have N13 := Fr.app N6 Nq13
  have O14 := O7.keep Kq13 (allS g_b1 all0)
  have K14 : Keep h0 T13.heap [] := K7.trans Kq13 (allS (Or.inr sz_b1) all0)
  refine own_on (B := T13.setTop (mkF m 34 #[iv 1, iv x0, iv x1] [(.ref b1)])) (fun tz kz => st13.trans kz) ?_
  have f_15 := (f_8.keep Kq13)
  obtain ⟨fs, hr, hrun, hended, hW, hsame⟩ := X13.leave (v := some (.ref b1)) (fun h => by rw [Bd.returns] at h; cases h)
  refine own_of ⟨_, _, ?_, hrun, hended, _, _, rfl, ?_, ⟨_, rfl⟩, hW, hsame.mono (by decide) (by decide)⟩
  · show sT p e below T13 (mkF m 34 #[iv 1, iv x0, iv x1] [(.ref b1)]) _
    exact own_retV X13 hx Bd.returns rfl rfl (hb hby own_d2_34) hr
  · show Q2a Z x0 x1 cS h0 n0 _ T13.heap _
    exact ⟨b1, b13, kb13, rfl, N13, K14, sz_b1, f_15, Fv13, Fc13, Fh13, Fz13, Eb13, Vb13⟩
theorem own_ef_2b (m : MethodId) (x0 : Int32) (x1 : Int32) (x2 : Int32) : entryFrame m #[(.int x0), (.int x1), (.int x2)] 3 = mkF m 0 #[iv x0, iv x1, iv x2] [] := by first | (simp [entryFrame, mkF, argsToLocals, Value.category]; done) | rfl
def Q2b (Z : State) (x0 : Int32) (x1 : Int32) (cS : Int32) (h0 : Heap) (n0 : Nat) (v : Option Value) (h : Heap) (L : List Loc) : Prop := ∃ (d : Addr) (b : Addr) (kb : ClassId), v = some (.ref d) ∧ Fr n0 L ∧ Keep h0 h [] ∧ h0.size ≤ d ∧ Exa Z h d "java/lang/String" ∧ Fld Z h d "java/lang/String" "value" "[B" (.ref b) ∧ Fld Z h d "java/lang/String" "coder" "B" (.int (0 : Int32)) ∧ Fld Z h d "java/lang/String" "hash" "I" (.int (0 : Int32)) ∧ Fld Z h d "java/lang/String" "hashIsZero" "Z" (.int (0 : Int32)) ∧ Exa Z h b "[B" ∧ Arv Z h b kb .byte (2 : Int32) [(.int (nar .byte (x0.toInt8.toInt32))), (.int (nar .byte (x1.toInt8.toInt32)))] (.int 0)
theorem own_d2_35 : decode method_3_code 35 = .ok (.new 7, 3) := by decide +kernel
theorem own_d2_38 : decode method_3_code 38 = .ok (.dup, 1) := by decide +kernel
theorem own_d2_39 : decode method_3_code 39 = .ok (.iconst 2, 1) := by decide +kernel
theorem own_d2_40 : decode method_3_code 40 = .ok (.newarray .char, 2) := by decide +kernel
theorem own_d2_42 : decode method_3_code 42 = .ok (.dup, 1) := by decide +kernel
theorem own_d2_43 : decode method_3_code 43 = .ok (.iconst 0, 1) := by decide +kernel
theorem own_d2_44 : decode method_3_code 44 = .ok (.iload_n 1, 1) := by decide +kernel
theorem own_d2_45 : decode method_3_code 45 = .ok (.castore, 1) := by decide +kernel
theorem own_d2_46 : decode method_3_code 46 = .ok (.dup, 1) := by decide +kernel
theorem own_d2_47 : decode method_3_code 47 = .ok (.iconst 1, 1) := by decide +kernel
theorem own_d2_48 : decode method_3_code 48 = .ok (.iload_n 2, 1) := by decide +kernel
theorem own_d2_49 : decode method_3_code 49 = .ok (.castore, 1) := by decide +kernel
theorem own_d2_50 : decode method_3_code 50 = .ok (.invokespecial 9, 3) := by decide +kernel
theorem own_d2_53 : decode method_3_code 53 = .ok (.areturn, 1) := by decide +kernel
set_option maxRecDepth 65536 in
set_option maxHeartbeats 40000000 in
theorem rm2b (l : Launch) (Z : State) (a0 : Array Value) (hw : ∀ d ∈ tables_1, d.before a0 Z = true) (ws : List Jvm.Cond) (x0 : Int32) (x1 : Int32) (cS : Int32) (h0 : Heap) (n0 : Nat) (O0 : Old Z n0 h0) (S_cs : Sta Z Z.heap "java/lang/String" "COMPACT_STRINGS" "Z" (.int cS)) (hcS : ¬ (cS = (0 : Int32))) (lo0 : ¬ x0 < 0) (nb0 : ¬ (255 : Int32) < x0) (lo1 : ¬ x1 < 0) (nb1 : ¬ (255 : Int32) < x1) :
    MetFree l (⟨"com/example/stackwright/stackwright/FairValueLevelReadPinLaw", "make", "(ICC)Ljava/lang/String;"⟩ : MethodName) (head1 (Jvm.Cond.code (⟨"com/example/stackwright/stackwright/FairValueLevelReadPinLaw", "make", "(ICC)Ljava/lang/String;"⟩ : MethodName) method_3_code 3 (some (.object "java/lang/String")) :: ws) ({ frames := 4, cells := 4, slots := 8, locals := 80 } : Room)) (fun a U => a = #[(.int (2 : Int32)), (.int x0), (.int x1)] ∧ Z.Warmed39 U.vm ∧ U.heap = h0) (fun _ _ _ _ _ => True) (fun _ U o U' => ∃ v L, o = .returned v ∧ Q2b Z x0 x1 cS h0 n0 v U'.heap L ∧ FrameEnd U o U' L ({ frames := 4, cells := 4, slots := 8, locals := 80 } : Room).cells ({ frames := 4, cells := 4, slots := 8, locals := 80 } : Room).slots) := by
  refine MetFree.of_bodySF (plainFor_of_name own_pn_com_example_stackwright_stackwright_FairValueLevelReadPinLaw) hisR ?_
  intro p e s m args below meth c s₁ Bd hml0 hP hK
  obtain ⟨rfl, hZ, hh⟩ := hP
  have hx := Bd.exec
  have hby := Bd.bytes
  have hml : c.maxLocals = 3 := hml0
  have hown : s.vm.findClass "com/example/stackwright/stackwright/FairValueLevelReadPinLaw" = some m.cls := findClass_of_methodNamed Bd.named
  have hnm := (name_of_methodNamed Bd.named Bd.method).1
  have X0 : Stand p l e ({ frames := 4, cells := 4, slots := 8, locals := 80 } : Room) s m #[(.int (2 : Int32)), (.int x0), (.int x1)] below meth c s₁ [] 0 0 := Stand.of_body Bd
  have e0 : s₁.heap = h0 := by rw [← hh, Bd.state]; rfl
  have N0 := Fr.nil n0
  change Go p.tables e below _ _
  refine own_on (B := s₁.setTop (mkF m 0 #[iv 2, iv x0, iv x1] [])) (fun tz kz => castTop (own_ef_2b m (2 : Int32) x0 x1) kz) ?_
  refine own_on (B := s₁.setTop (mkF m 35 #[iv 2, iv x0, iv x1] [])) (fun tz kz => ?_) ?_
  · show sT p e below s₁ (mkF m 0 #[iv 2, iv x0, iv x1] []) tz
    refine XS.iloadN X0.here hx rfl (hb hby own_d2_0) rfl ?_
    show sT p e below s₁ (mkF m 1 #[iv 2, iv x0, iv x1] [(.int 2)]) tz
    refine XS.ifYes X0.here hx rfl (pc0 := 1) (pc' := 15) rfl (hb hby own_d2_1) rfl ((if0 _ _).trans (feq (by decide : ¬ ((2 : Int32) = (0 : Int32)))).2) (by decide) (by decide) ?_
    show sT p e below s₁ (mkF m 15 #[iv 2, iv x0, iv x1] []) tz
    refine XS.iloadN X0.here hx rfl (hb hby own_d2_15) rfl ?_
    show sT p e below s₁ (mkF m 16 #[iv 2, iv x0, iv x1] [(.int 2)]) tz
    refine XS.iconst X0.here hx rfl (hb hby own_d2_16) ?_
    show sT p e below s₁ (mkF m 17 #[iv 2, iv x0, iv x1] [(.int 1), (.int 2)]) tz
    refine XS.icmpYes X0.here hx rfl (pc0 := 17) (pc' := 35) rfl (hb hby own_d2_17) rfl (feq (by decide : ¬ ((2 : Int32) = (1 : Int32)))).2 (by decide) (by decide) ?_
    exact kz
  obtain ⟨T1, h1, X1, e1, E1, A1, D1, -, st1⟩ := newO X0 hx hZ hown (own_w hw 7 rfl) (own_w hw 8 rfl) (own_w hw 9 rfl) e0 (g := (mkF m 35 #[iv 2, iv x0, iv x1] [])) rfl (hb hby own_d2_35) (by decide) (by decide)
  obtain ⟨b1, g1⟩ : ∃ z, z = h0.size := ⟨_, rfl⟩
  rw [← g1] at A1 D1 st1
  have g_b1 : n0 ≤ b1 := Nat.le_trans (own_old O0) (Nat.le_of_eq g1.symm)
  have sz_b1 : h0.size ≤ b1 := Nat.le_trans (Keep.refl h0 []).1 (Nat.le_of_eq g1.symm)
  have O2 := O0.ext E1
  have K2 : Keep h0 h1 [] := (Keep.refl h0 []).ext E1
  have F1_value : Fld Z h1 b1 "java/lang/String" "value" "[B" .null := D1 (Or.inr (own_w hw 23 rfl)) (ty := (.array .byte)) (by decide)
  have F1_coder : Fld Z h1 b1 "java/lang/String" "coder" "B" (.int (0 : Int32)) := D1 (Or.inr (own_w hw 24 rfl)) (ty := .byte) (by decide)
  have F1_hash : Fld Z h1 b1 "java/lang/String" "hash" "I" (.int (0 : Int32)) := D1 (Or.inl (own_w hw 63 rfl)) (ty := .int) (by decide)
  have F1_hashIsZero : Fld Z h1 b1 "java/lang/String" "hashIsZero" "Z" (.int (0 : Int32)) := D1 (Or.inl (own_w hw 65 rfl)) (ty := .boolean) (by decide)
  refine own_on (B := T1.setTop (mkF m 38 #[iv 2, iv x0, iv x1] [(.ref b1)])) (fun tz kz => st1 _ kz) ?_
  refine own_on (B := T1.setTop (mkF m 40 #[iv 2, iv x0, iv x1] [(.int 2), (.ref b1), (.ref b1)])) (fun tz kz => ?_) ?_
  · show sT p e below T1 (mkF m 38 #[iv 2, iv x0, iv x1] [(.ref b1)]) tz
    refine XS.dup X1.here hx rfl (hb hby own_d2_38) rfl rfl ?_
    show sT p e below T1 (mkF m 39 #[iv 2, iv x0, iv x1] [(.ref b1), (.ref b1)]) tz
    refine XS.iconst X1.here hx rfl (hb hby own_d2_39) ?_
    exact kz
  obtain ⟨T3, h3, k3, X3, e3, E3, A3, st3⟩ := newP X1 hx hZ (own_w hw 10 rfl) e1 (g := (mkF m 40 #[iv 2, iv x0, iv x1] [(.int 2), (.ref b1), (.ref b1)])) rfl (hb hby own_d2_40) rfl (by decide) (cap := 2) (by decide) (by decide) (by decide) (by decide)
  obtain ⟨b3, g3⟩ : ∃ z, z = h1.size := ⟨_, rfl⟩
  rw [← g3] at A3 st3
  have ne_b1_b3 : b1 ≠ b3 := Nat.ne_of_lt (Nat.lt_of_lt_of_le (A1).lt (Nat.le_of_eq g3.symm))
  have g_b3 : n0 ≤ b3 := Nat.le_trans (own_old O2) (Nat.le_of_eq g3.symm)
  have sz_b3 : h0.size ≤ b3 := Nat.le_trans K2.1 (Nat.le_of_eq g3.symm)
  have O4 := O2.ext E3
  have K4 : Keep h0 h3 [] := K2.ext E3
  have V3 : Arv Z h3 b3 k3 .char (2 : Int32) [(.int (0 : Int32)), (.int (0 : Int32))] (.int (0 : Int32)) := (Arv.new A3 (by decide)).pad (pad_rep [] (.int (0 : Int32)) 2)
  refine own_on (B := T3.setTop (mkF m 42 #[iv 2, iv x0, iv x1] [(.ref b3), (.ref b1), (.ref b1)])) (fun tz kz => st3 _ kz) ?_
  refine own_on (B := T3.setTop (mkF m 45 #[iv 2, iv x0, iv x1] [(.int x0), (.int 0), (.ref b3), (.ref b3), (.ref b1), (.ref b1)])) (fun tz kz => ?_) ?_
  · show sT p e below T3 (mkF m 42 #[iv 2, iv x0, iv x1] [(.ref b3), (.ref b1), (.ref b1)]) tz
    refine XS.dup X3.here hx rfl (hb hby own_d2_42) rfl rfl ?_
    show sT p e below T3 (mkF m 43 #[iv 2, iv x0, iv x1] [(.ref b3), (.ref b3), (.ref b1), (.ref b1)]) tz
    refine XS.iconst X3.here hx rfl (hb hby own_d2_43) ?_
    show sT p e below T3 (mkF m 44 #[iv 2, iv x0, iv x1] [(.int 0), (.ref b3), (.ref b3), (.ref b1), (.ref b1)]) tz
    refine XS.iloadN X3.here hx rfl (hb hby own_d2_44) rfl ?_
    exact kz
  obtain ⟨cl5, Ar5, q5, S5, M5, H5, G5⟩ := id V3
  have hin6 : ¬ ((0 : Int32) < 0 ∨ cl5.slots.size ≤ ((0 : Int32)).toNatClampNeg) := inb_of S5 ⟨by decide, by decide⟩
  obtain ⟨T6, h6, X6, e6, W6, st6⟩ := stC X3 hx hZ e3 Ar5 (j := (0 : Int32)) hin6 (g := (mkF m 45 #[iv 2, iv x0, iv x1] [(.int x0), (.int 0), (.ref b3), (.ref b3), (.ref b1), (.ref b1)])) rfl rfl (hb hby own_d2_45)
  have V6 : Arv Z h6 b3 k3 .char (2 : Int32) [(.int (nar .char x0)), (.int (0 : Int32))] (.int (0 : Int32)) := Arv.set Ar5 q5 S5 M5 H5 G5 (fits_nar_char _) W6 0 rfl (Nat.le_of_ble_eq_true rfl)
  have N6 := Fr.snoc X6 N0 g_b3
  have O7 := O4.wr W6 g_b3
  have K7 : Keep h0 h6 [] := K4.wr W6 (Or.inr sz_b3)
  refine own_on (B := T6.setTop (mkF m 46 #[iv 2, iv x0, iv x1] [(.ref b3), (.ref b1), (.ref b1)])) (fun tz kz => st6 _ kz) ?_
  refine own_on (B := T6.setTop (mkF m 49 #[iv 2, iv x0, iv x1] [(.int x1), (.int 1), (.ref b3), (.ref b3), (.ref b1), (.ref b1)])) (fun tz kz => ?_) ?_
  · show sT p e below T6 (mkF m 46 #[iv 2, iv x0, iv x1] [(.ref b3), (.ref b1), (.ref b1)]) tz
    refine XS.dup X6.here hx rfl (hb hby own_d2_46) rfl rfl ?_
    show sT p e below T6 (mkF m 47 #[iv 2, iv x0, iv x1] [(.ref b3), (.ref b3), (.ref b1), (.ref b1)]) tz
    refine XS.iconst X6.here hx rfl (hb hby own_d2_47) ?_
    show sT p e below T6 (mkF m 48 #[iv 2, iv x0, iv x1] [(.int 1), (.ref b3), (.ref b3), (.ref b1), (.ref b1)]) tz
    refine XS.iloadN X6.here hx rfl (hb hby own_d2_48) rfl ?_
    exact kz
  obtain ⟨cl8, Ar8, q8, S8, M8, H8, G8⟩ := id V6
  have hin9 : ¬ ((1 : Int32) < 0 ∨ cl8.slots.size ≤ ((1 : Int32)).toNatClampNeg) := inb_of S8 ⟨by decide, by decide⟩
  obtain ⟨T9, h9, X9, e9, W9, st9⟩ := stC X6 hx hZ e6 Ar8 (j := (1 : Int32)) hin9 (g := (mkF m 49 #[iv 2, iv x0, iv x1] [(.int x1), (.int 1), (.ref b3), (.ref b3), (.ref b1), (.ref b1)])) rfl rfl (hb hby own_d2_49)
  have V9 : Arv Z h9 b3 k3 .char (2 : Int32) [(.int (nar .char x0)), (.int (nar .char x1))] (.int (0 : Int32)) := Arv.set Ar8 q8 S8 M8 H8 G8 (fits_nar_char _) W9 1 rfl (Nat.le_of_ble_eq_true rfl)
  have N9 := Fr.snoc X9 N6 g_b3
  have O10 := O7.wr W9 g_b3
  have K10 : Keep h0 h9 [] := K7.wr W9 (Or.inr sz_b3)
  refine own_on (B := T9.setTop (mkF m 50 #[iv 2, iv x0, iv x1] [(.ref b3), (.ref b1), (.ref b1)])) (fun tz kz => st9 _ kz) ?_
  have Vn : Arv Z h9 b3 k3 .char (2 : Int32) [(.int x0), (.int x1)] (.int 0) := by have q := V9; rw [own_narC x0 lo0 nb0, own_narC x1 lo1 nb1] at q; exact q
  have f_11 := (((A1.ext E3).wr W6).wr W9)
  have f_12 := (((F1_value.ext E3).other W6 (Or.inl ne_b1_b3)).other W9 (Or.inl ne_b1_b3))
  have f_13 := (((F1_coder.ext E3).other W6 (Or.inl ne_b1_b3)).other W9 (Or.inl ne_b1_b3))
  have f_14 := (((F1_hash.ext E3).other W6 (Or.inl ne_b1_b3)).other W9 (Or.inl ne_b1_b3))
  have f_15 := (((F1_hashIsZero.ext E3).other W6 (Or.inl ne_b1_b3)).other W9 (Or.inl ne_b1_b3))
  obtain ⟨_, _, ⟨T16, L16, k16, n16⟩, -, X16, ⟨Lc16, hQ16, l16, y16, z16⟩, st16⟩ := X9.specialBack hx (y := (⟨"java/lang/String", "<init>", "([C)V"⟩ : MethodName)) rfl hown (mvT hZ (own_w hw 11 rfl)) (mvT hZ (own_w hw 12 rfl)) (mvT hZ (own_w hw 13 rfl)) (by decide) (backOf (W := 1) (rm3b l Z a0 hw [] b1 b3 cS k3 x0 x1 h9 n0 O10 f_11 g_b1 f_12 f_13 f_14 f_15 S_cs hcS Vn nb0 nb1) hZ (own_w hw 13 rfl) (own_w hw 9 rfl) (by decide) (by decide)) (g := (mkF m 50 #[iv 2, iv x0, iv x1] [(.ref b3), (.ref b1), (.ref b1)])) rfl (by rw [hml]; rfl) (Steps.refl _) (a := b1) (argsL := [(.ref b3)]) (rest := [(.ref b1)]) (lenOf own_pd4 rfl) rfl (by show 2 * 0 + _ ≤ _; exact Nat.le_of_eq rfl) (hb hby own_d2_50) (fun _ _ => ⟨rfl, e9, (by decide : 2 + 1 ≤ _), (by decide : 6 + 2 ≤ _)⟩)
  dsimp only [Pt.U, Pt.locs, Pt.cells, Pt.slots] at X16 l16 y16 z16 st16 hQ16
  subst l16 y16 z16
  obtain ⟨b16, kb16, rfl, Nq16, Kq16, Fv16, Fc16, Fh16, Fz16, Eb16, Vb16⟩ := hQ16
  have N16 := Fr.app N9 Nq16
  have O17 := O10.keep Kq16 (allS g_b1 all0)
  have K17 : Keep h0 T16.heap [] := K10.trans Kq16 (allS (Or.inr sz_b1) all0)
  refine own_on (B := T16.setTop (mkF m 53 #[iv 2, iv x0, iv x1] [(.ref b1)])) (fun tz kz => st16.trans kz) ?_
  have f_18 := (f_11.keep Kq16)
  obtain ⟨fs, hr, hrun, hended, hW, hsame⟩ := X16.leave (v := some (.ref b1)) (fun h => by rw [Bd.returns] at h; cases h)
  refine own_of ⟨_, _, ?_, hrun, hended, _, _, rfl, ?_, ⟨_, rfl⟩, hW, hsame.mono (by decide) (by decide)⟩
  · show sT p e below T16 (mkF m 53 #[iv 2, iv x0, iv x1] [(.ref b1)]) _
    exact own_retV X16 hx Bd.returns rfl rfl (hb hby own_d2_53) hr
  · show Q2b Z x0 x1 cS h0 n0 _ T16.heap _
    exact ⟨b1, b16, kb16, rfl, N16, K17, sz_b1, f_18, Fv16, Fc16, Fh16, Fz16, Eb16, Vb16⟩
theorem own_pk1 (x : Int32) : ¬ (((48 : Int32) + (((x.toUInt32 >>> ((1 : Int32) &&& 31).toUInt32).toInt32) &&& (3 : Int32))).toUInt32.toUInt16.toUInt32.toInt32) < 0 ∧ ¬ (255 : Int32) < (((48 : Int32) + (((x.toUInt32 >>> ((1 : Int32) &&& 31).toUInt32).toInt32) &&& (3 : Int32))).toUInt32.toUInt16.toUInt32.toInt32) := by
  generalize ((x.toUInt32 >>> ((1 : Int32) &&& 31).toUInt32).toInt32) = y
  have m := c_mask y 3 2 (by decide) (by decide)
  generalize y &&& (3 : Int32) = z at *
  have a := c_iadd 48 z
  have r := rng32 ((48 : Int32) + z)
  generalize (48 : Int32) + z = u at *
  have cc := c_i2c u
  have z0 : (0 : Int32).toInt = 0 := rfl
  have z5 : (255 : Int32).toInt = 255 := rfl
  have z8 : (48 : Int32).toInt = 48 := rfl
  rw [Int32.lt_iff_toInt_lt, Int32.lt_iff_toInt_lt]
  omega
theorem own_pk0 (x : Int32) : ¬ ((((x.toUInt32 >>> ((1 : Int32) &&& 31).toUInt32).toInt32) &&& (255 : Int32)).toUInt32.toUInt16.toUInt32.toInt32) < 0 ∧ ¬ (255 : Int32) < ((((x.toUInt32 >>> ((1 : Int32) &&& 31).toUInt32).toInt32) &&& (255 : Int32)).toUInt32.toUInt16.toUInt32.toInt32) := by
  generalize ((x.toUInt32 >>> ((1 : Int32) &&& 31).toUInt32).toInt32) = y
  have m := c_mask y 255 8 (by decide) (by decide)
  generalize y &&& (255 : Int32) = u at *
  have cc := c_i2c u
  have z0 : (0 : Int32).toInt = 0 := rfl
  have z5 : (255 : Int32).toInt = 255 := rfl
  rw [Int32.lt_iff_toInt_lt, Int32.lt_iff_toInt_lt]
  omega
theorem own_by (x : Int32) (h0 : ¬ x < 0) (h1 : ¬ (255 : Int32) < x) : (nar .byte (x.toInt8.toInt32)) &&& (255 : Int32) = x := by
  have z0 : (0 : Int32).toInt = 0 := rfl
  have z5 : (255 : Int32).toInt = 255 := rfl
  rw [Int32.lt_iff_toInt_lt] at h0 h1
  have e0 : nar .byte x.toInt8.toInt32 = x.toInt8.toInt32.toInt8.toInt32 := rfl
  rw [e0]
  have b0 := c_i2b x
  have d0 := c_i2b x.toInt8.toInt32
  generalize x.toInt8.toInt32.toInt8.toInt32 = w0 at *
  have m0 := c_mask w0 255 8 (by decide) (by decide)
  generalize (w0 &&& (255 : Int32)) = v0 at *
  rw [← Int32.toInt_inj]
  omega
theorem own_ef_1 (m : MethodId) (x0 : Int32) : entryFrame m #[(.int x0)] 1 = mkF m 0 #[iv x0] [] := by first | (simp [entryFrame, mkF, argsToLocals, Value.category]; done) | rfl
def Q1 (Z : State) (p0 : Int32) (h0 : Heap) (n0 : Nat) (v : Option Value) (h : Heap) (L : List Loc) : Prop := ∃ r : Int32, v = some (.int r) ∧ ¬ r < 0 ∧ ¬ (255 : Int32) < r ∧ Fr n0 L ∧ h = h0
theorem own_d1_0 : decode method_2_code 0 = .ok (.iload_n 0, 1) := by decide +kernel
theorem own_d1_1 : decode method_2_code 1 = .ok (.iconst 1, 1) := by decide +kernel
theorem own_d1_2 : decode method_2_code 2 = .ok (.iand, 1) := by decide +kernel
theorem own_d1_3 : decode method_2_code 3 = .ok (.ifCond .eq 13, 3) := by decide +kernel
theorem own_d1_16 : decode method_2_code 16 = .ok (.iload_n 0, 1) := by decide +kernel
theorem own_d1_17 : decode method_2_code 17 = .ok (.iconst 1, 1) := by decide +kernel
theorem own_d1_18 : decode method_2_code 18 = .ok (.iushr, 1) := by decide +kernel
theorem own_d1_19 : decode method_2_code 19 = .ok (.sipush 255, 3) := by decide +kernel
theorem own_d1_22 : decode method_2_code 22 = .ok (.iand, 1) := by decide +kernel
theorem own_d1_23 : decode method_2_code 23 = .ok (.i2c, 1) := by decide +kernel
theorem own_d1_24 : decode method_2_code 24 = .ok (.ireturn, 1) := by decide +kernel
theorem own_d1_6 : decode method_2_code 6 = .ok (.bipush 48, 2) := by decide +kernel
theorem own_d1_8 : decode method_2_code 8 = .ok (.iload_n 0, 1) := by decide +kernel
theorem own_d1_9 : decode method_2_code 9 = .ok (.iconst 1, 1) := by decide +kernel
theorem own_d1_10 : decode method_2_code 10 = .ok (.iushr, 1) := by decide +kernel
theorem own_d1_11 : decode method_2_code 11 = .ok (.iconst 3, 1) := by decide +kernel
theorem own_d1_12 : decode method_2_code 12 = .ok (.iand, 1) := by decide +kernel
theorem own_d1_13 : decode method_2_code 13 = .ok (.iadd, 1) := by decide +kernel
theorem own_d1_14 : decode method_2_code 14 = .ok (.i2c, 1) := by decide +kernel
theorem own_d1_15 : decode method_2_code 15 = .ok (.ireturn, 1) := by decide +kernel
set_option maxRecDepth 65536 in
set_option maxHeartbeats 40000000 in
theorem rm1 (l : Launch) (Z : State) (a0 : Array Value) (hw : ∀ d ∈ tables_1, d.before a0 Z = true) (ws : List Jvm.Cond) (p0 : Int32) (h0 : Heap) (n0 : Nat) (O0 : Old Z n0 h0) :
    MetFree l (⟨"com/example/stackwright/stackwright/FairValueLevelReadPinLaw", "pick", "(I)C"⟩ : MethodName) (head1 (Jvm.Cond.code (⟨"com/example/stackwright/stackwright/FairValueLevelReadPinLaw", "pick", "(I)C"⟩ : MethodName) method_2_code 1 (some .char) :: ws) ({ frames := 0, cells := 0, slots := 0, locals := 0 } : Room)) (fun a U => a = #[(.int p0)] ∧ Z.Warmed39 U.vm ∧ U.heap = h0) (fun _ _ _ _ _ => True) (fun _ U o U' => ∃ v L, o = .returned v ∧ Q1 Z p0 h0 n0 v U'.heap L ∧ FrameEnd U o U' L ({ frames := 0, cells := 0, slots := 0, locals := 0 } : Room).cells ({ frames := 0, cells := 0, slots := 0, locals := 0 } : Room).slots) := by
  refine MetFree.of_bodySF (plainFor_of_name own_pn_com_example_stackwright_stackwright_FairValueLevelReadPinLaw) hisR ?_
  intro p e s m args below meth c s₁ Bd hml0 hP hK
  obtain ⟨rfl, hZ, hh⟩ := hP
  have hx := Bd.exec
  have hby := Bd.bytes
  have hml : c.maxLocals = 1 := hml0
  have hown : s.vm.findClass "com/example/stackwright/stackwright/FairValueLevelReadPinLaw" = some m.cls := findClass_of_methodNamed Bd.named
  have hnm := (name_of_methodNamed Bd.named Bd.method).1
  have X0 : Stand p l e ({ frames := 0, cells := 0, slots := 0, locals := 0 } : Room) s m #[(.int p0)] below meth c s₁ [] 0 0 := Stand.of_body Bd
  have e0 : s₁.heap = h0 := by rw [← hh, Bd.state]; rfl
  have N0 := Fr.nil n0
  change Go p.tables e below _ _
  refine own_on (B := s₁.setTop (mkF m 0 #[iv p0] [])) (fun tz kz => castTop (own_ef_1 m p0) kz) ?_
  refine own_on (B := s₁.setTop (mkF m 3 #[iv p0] [(.int (p0 &&& (1 : Int32)))])) (fun tz kz => ?_) ?_
  · show sT p e below s₁ (mkF m 0 #[iv p0] []) tz
    refine XS.iloadN X0.here hx rfl (hb hby own_d1_0) rfl ?_
    show sT p e below s₁ (mkF m 1 #[iv p0] [(.int p0)]) tz
    refine XS.iconst X0.here hx rfl (hb hby own_d1_1) ?_
    show sT p e below s₁ (mkF m 2 #[iv p0] [(.int 1), (.int p0)]) tz
    refine XS.iand X0.here hx rfl (hb hby own_d1_2) rfl ?_
    exact kz
  by_cases hs : (p0 &&& (1 : Int32)) = (0 : Int32)
  · refine own_on (B := s₁.setTop (mkF m 24 #[iv p0] [(.int ((((p0.toUInt32 >>> ((1 : Int32) &&& 31).toUInt32).toInt32) &&& (255 : Int32)).toUInt32.toUInt16.toUInt32.toInt32))])) (fun tz kz => ?_) ?_
    · show sT p e below s₁ (mkF m 3 #[iv p0] [(.int (p0 &&& (1 : Int32)))]) tz
      refine XS.ifYes X0.here hx rfl (pc0 := 3) (pc' := 16) rfl (hb hby own_d1_3) rfl ((if0 _ _).trans (teq hs).1) (by decide) (by decide) ?_
      show sT p e below s₁ (mkF m 16 #[iv p0] []) tz
      refine XS.iloadN X0.here hx rfl (hb hby own_d1_16) rfl ?_
      show sT p e below s₁ (mkF m 17 #[iv p0] [(.int p0)]) tz
      refine XS.iconst X0.here hx rfl (hb hby own_d1_17) ?_
      show sT p e below s₁ (mkF m 18 #[iv p0] [(.int 1), (.int p0)]) tz
      refine XS.iushr X0.here hx rfl (hb hby own_d1_18) rfl ?_
      show sT p e below s₁ (mkF m 19 #[iv p0] [(.int ((p0.toUInt32 >>> ((1 : Int32) &&& 31).toUInt32).toInt32))]) tz
      refine XS.sipush X0.here hx rfl (hb hby own_d1_19) ?_
      show sT p e below s₁ (mkF m 22 #[iv p0] [(.int 255), (.int ((p0.toUInt32 >>> ((1 : Int32) &&& 31).toUInt32).toInt32))]) tz
      refine XS.iand X0.here hx rfl (hb hby own_d1_22) rfl ?_
      show sT p e below s₁ (mkF m 23 #[iv p0] [(.int (((p0.toUInt32 >>> ((1 : Int32) &&& 31).toUInt32).toInt32) &&& (255 : Int32)))]) tz
      refine XS.i2c X0.here hx rfl (hb hby own_d1_23) rfl ?_
      exact kz
    obtain ⟨fs, hr, hrun, hended, hW, hsame⟩ := X0.leave (v := some (.int ((((p0.toUInt32 >>> ((1 : Int32) &&& 31).toUInt32).toInt32) &&& (255 : Int32)).toUInt32.toUInt16.toUInt32.toInt32))) (fun h => by rw [Bd.returns] at h; cases h)
    refine own_of ⟨_, _, ?_, hrun, hended, _, _, rfl, ?_, ⟨_, rfl⟩, hW, hsame.mono (by decide) (by decide)⟩
    · show sT p e below s₁ (mkF m 24 #[iv p0] [(.int ((((p0.toUInt32 >>> ((1 : Int32) &&& 31).toUInt32).toInt32) &&& (255 : Int32)).toUInt32.toUInt16.toUInt32.toInt32))]) _
      exact own_retN X0 hx (t := .char) Bd.returns (by simp) (own_narC _ (own_pk0 _).1 (own_pk0 _).2) (hb hby own_d1_24) hr
    · show Q1 Z p0 h0 n0 _ s₁.heap _
      rw [e0]
      exact ⟨_, rfl, (own_pk0 _).1, (own_pk0 _).2, N0, rfl⟩
  · refine own_on (B := s₁.setTop (mkF m 15 #[iv p0] [(.int (((48 : Int32) + (((p0.toUInt32 >>> ((1 : Int32) &&& 31).toUInt32).toInt32) &&& (3 : Int32))).toUInt32.toUInt16.toUInt32.toInt32))])) (fun tz kz => ?_) ?_
    · show sT p e below s₁ (mkF m 3 #[iv p0] [(.int (p0 &&& (1 : Int32)))]) tz
      refine XS.ifNo X0.here hx rfl (hb hby own_d1_3) rfl ((if0 _ _).trans (feq hs).1) ?_
      show sT p e below s₁ (mkF m 6 #[iv p0] []) tz
      refine XS.bipush X0.here hx rfl (hb hby own_d1_6) ?_
      show sT p e below s₁ (mkF m 8 #[iv p0] [(.int 48)]) tz
      refine XS.iloadN X0.here hx rfl (hb hby own_d1_8) rfl ?_
      show sT p e below s₁ (mkF m 9 #[iv p0] [(.int p0), (.int 48)]) tz
      refine XS.iconst X0.here hx rfl (hb hby own_d1_9) ?_
      show sT p e below s₁ (mkF m 10 #[iv p0] [(.int 1), (.int p0), (.int 48)]) tz
      refine XS.iushr X0.here hx rfl (hb hby own_d1_10) rfl ?_
      show sT p e below s₁ (mkF m 11 #[iv p0] [(.int ((p0.toUInt32 >>> ((1 : Int32) &&& 31).toUInt32).toInt32)), (.int 48)]) tz
      refine XS.iconst X0.here hx rfl (hb hby own_d1_11) ?_
      show sT p e below s₁ (mkF m 12 #[iv p0] [(.int 3), (.int ((p0.toUInt32 >>> ((1 : Int32) &&& 31).toUInt32).toInt32)), (.int 48)]) tz
      refine XS.iand X0.here hx rfl (hb hby own_d1_12) rfl ?_
      show sT p e below s₁ (mkF m 13 #[iv p0] [(.int (((p0.toUInt32 >>> ((1 : Int32) &&& 31).toUInt32).toInt32) &&& (3 : Int32))), (.int 48)]) tz
      refine XS.iadd X0.here hx rfl (hb hby own_d1_13) rfl ?_
      show sT p e below s₁ (mkF m 14 #[iv p0] [(.int ((48 : Int32) + (((p0.toUInt32 >>> ((1 : Int32) &&& 31).toUInt32).toInt32) &&& (3 : Int32))))]) tz
      refine XS.i2c X0.here hx rfl (hb hby own_d1_14) rfl ?_
      exact kz
    obtain ⟨fs, hr, hrun, hended, hW, hsame⟩ := X0.leave (v := some (.int (((48 : Int32) + (((p0.toUInt32 >>> ((1 : Int32) &&& 31).toUInt32).toInt32) &&& (3 : Int32))).toUInt32.toUInt16.toUInt32.toInt32))) (fun h => by rw [Bd.returns] at h; cases h)
    refine own_of ⟨_, _, ?_, hrun, hended, _, _, rfl, ?_, ⟨_, rfl⟩, hW, hsame.mono (by decide) (by decide)⟩
    · show sT p e below s₁ (mkF m 15 #[iv p0] [(.int (((48 : Int32) + (((p0.toUInt32 >>> ((1 : Int32) &&& 31).toUInt32).toInt32) &&& (3 : Int32))).toUInt32.toUInt16.toUInt32.toInt32))]) _
      exact own_retN X0 hx (t := .char) Bd.returns (by simp) (own_narC _ (own_pk1 _).1 (own_pk1 _).2) (hb hby own_d1_15) hr
    · show Q1 Z p0 h0 n0 _ s₁.heap _
      rw [e0]
      exact ⟨_, rfl, (own_pk1 _).1, (own_pk1 _).2, N0, rfl⟩
theorem own_pn_java_lang_StringLatin1 : plainName "java/lang/StringLatin1" = true := by first | (simp [plainName, overriddenIn]; done) | decide +kernel
theorem own_ef_8z (m : MethodId) (x0 : Addr) (x1 : Addr) : entryFrame m #[(.ref x0), (.ref x1)] 3 = mkF m 0 #[rv x0, rv x1, .unset] [] := by first | (simp [entryFrame, mkF, argsToLocals, Value.category]; done) | rfl
def Q8z (Z : State) (u0 : Addr) (u1 : Addr) (k1 : ClassId) (k2 : ClassId) (h0 : Heap) (n0 : Nat) (v : Option Value) (h : Heap) (L : List Loc) : Prop := v = some (.int (1 : Int32)) ∧ Fr n0 L ∧ h = h0
theorem own_d8_0 : decode jdk_43_method_13_code 0 = .ok (.aload_n 0, 1) := by decide +kernel
theorem own_d8_1 : decode jdk_43_method_13_code 1 = .ok (.arraylength, 1) := by decide +kernel
theorem own_d8_2 : decode jdk_43_method_13_code 2 = .ok (.aload_n 1, 1) := by decide +kernel
theorem own_d8_3 : decode jdk_43_method_13_code 3 = .ok (.arraylength, 1) := by decide +kernel
theorem own_d8_4 : decode jdk_43_method_13_code 4 = .ok (.if_icmp .ne 30, 3) := by decide +kernel
theorem own_d8_7 : decode jdk_43_method_13_code 7 = .ok (.iconst 0, 1) := by decide +kernel
theorem own_d8_8 : decode jdk_43_method_13_code 8 = .ok (.istore_n 2, 1) := by decide +kernel
theorem own_d8_9 : decode jdk_43_method_13_code 9 = .ok (.iload_n 2, 1) := by decide +kernel
theorem own_d8_10 : decode jdk_43_method_13_code 10 = .ok (.aload_n 0, 1) := by decide +kernel
theorem own_d8_11 : decode jdk_43_method_13_code 11 = .ok (.arraylength, 1) := by decide +kernel
theorem own_d8_12 : decode jdk_43_method_13_code 12 = .ok (.if_icmp .ge 20, 3) := by decide +kernel
theorem own_d8_32 : decode jdk_43_method_13_code 32 = .ok (.iconst 1, 1) := by decide +kernel
theorem own_d8_33 : decode jdk_43_method_13_code 33 = .ok (.ireturn, 1) := by decide +kernel
set_option maxRecDepth 65536 in
set_option maxHeartbeats 40000000 in
theorem rm8z (l : Launch) (Z : State) (a0 : Array Value) (hw : ∀ d ∈ tables_1, d.before a0 Z = true) (ws : List Jvm.Cond) (u0 : Addr) (u1 : Addr) (k1 : ClassId) (k2 : ClassId) (h0 : Heap) (n0 : Nat) (O0 : Old Z n0 h0) (V1 : Arv Z h0 u0 k1 .byte (0 : Int32) [] (.int 0)) (V2 : Arv Z h0 u1 k2 .byte (0 : Int32) [] (.int 0)) :
    MetFree l (⟨"java/lang/StringLatin1", "equals", "([B[B)Z"⟩ : MethodName) (head1 (Jvm.Cond.code (⟨"java/lang/StringLatin1", "equals", "([B[B)Z"⟩ : MethodName) jdk_43_method_13_code 3 (some .boolean) :: ws) ({ frames := 0, cells := 0, slots := 0, locals := 0 } : Room)) (fun a U => a = #[(.ref u0), (.ref u1)] ∧ Z.Warmed39 U.vm ∧ U.heap = h0) (fun _ _ _ _ _ => True) (fun _ U o U' => ∃ v L, o = .returned v ∧ Q8z Z u0 u1 k1 k2 h0 n0 v U'.heap L ∧ FrameEnd U o U' L ({ frames := 0, cells := 0, slots := 0, locals := 0 } : Room).cells ({ frames := 0, cells := 0, slots := 0, locals := 0 } : Room).slots) := by
  refine MetFree.of_bodySF (plainFor_of_name own_pn_java_lang_StringLatin1) hisR ?_
  intro p e s m args below meth c s₁ Bd hml0 hP hK
  obtain ⟨rfl, hZ, hh⟩ := hP
  have hx := Bd.exec
  have hby := Bd.bytes
  have hml : c.maxLocals = 3 := hml0
  have hown : s.vm.findClass "java/lang/StringLatin1" = some m.cls := findClass_of_methodNamed Bd.named
  have hnm := (name_of_methodNamed Bd.named Bd.method).1
  have X0 : Stand p l e ({ frames := 0, cells := 0, slots := 0, locals := 0 } : Room) s m #[(.ref u0), (.ref u1)] below meth c s₁ [] 0 0 := Stand.of_body Bd
  have e0 : s₁.heap = h0 := by rw [← hh, Bd.state]; rfl
  have N0 := Fr.nil n0
  change Go p.tables e below _ _
  refine own_on (B := s₁.setTop (mkF m 0 #[rv u0, rv u1, un] [])) (fun tz kz => castTop (own_ef_8z m u0 u1) kz) ?_
  refine own_on (B := s₁.setTop (mkF m 1 #[rv u0, rv u1, un] [(.ref u0)])) (fun tz kz => ?_) ?_
  · show sT p e below s₁ (mkF m 0 #[rv u0, rv u1, un] []) tz
    refine XS.aloadN X0.here hx rfl (hb hby own_d8_0) rfl rfl ?_
    exact kz
  obtain ⟨cl1, Ar1, q1, S1, M1, H1, G1⟩ := id V1
  refine own_on (B := s₁.setTop (mkF m 3 #[rv u0, rv u1, un] [(.ref u1), (.int 0)])) (fun tz kz => ?_) ?_
  · show sT p e below s₁ (mkF m 1 #[rv u0, rv u1, un] [(.ref u0)]) tz
    refine X0.arraylength hx (by rw [e0]; exact Ar1.1) (State.isArrayOf_alike hZ.alike Ar1.2.1) (g := (mkF m 1 #[rv u0, rv u1, un] [(.ref u0)])) rfl rfl (hb hby own_d8_1) _ ?_
    rw [len_of S1 M1]
    show sT p e below s₁ (mkF m 2 #[rv u0, rv u1, un] [(.int 0)]) tz
    refine XS.aloadN X0.here hx rfl (hb hby own_d8_2) rfl rfl ?_
    exact kz
  obtain ⟨cl2, Ar2, q2, S2, M2, H2, G2⟩ := id V2
  refine own_on (B := s₁.setTop (mkF m 11 #[rv u0, rv u1, iv 0] [(.ref u0), (.int 0)])) (fun tz kz => ?_) ?_
  · show sT p e below s₁ (mkF m 3 #[rv u0, rv u1, un] [(.ref u1), (.int 0)]) tz
    refine X0.arraylength hx (by rw [e0]; exact Ar2.1) (State.isArrayOf_alike hZ.alike Ar2.2.1) (g := (mkF m 3 #[rv u0, rv u1, un] [(.ref u1), (.int 0)])) rfl rfl (hb hby own_d8_3) _ ?_
    rw [len_of S2 M2]
    show sT p e below s₁ (mkF m 4 #[rv u0, rv u1, un] [(.int 0), (.int 0)]) tz
    refine XS.icmpNo X0.here hx rfl (hb hby own_d8_4) rfl (teq rfl).2 ?_
    show sT p e below s₁ (mkF m 7 #[rv u0, rv u1, un] []) tz
    refine XS.iconst X0.here hx rfl (hb hby own_d8_7) ?_
    show sT p e below s₁ (mkF m 8 #[rv u0, rv u1, un] [(.int 0)]) tz
    refine XS.istoreN X0.here hx rfl (hb hby own_d8_8) rfl (l' := #[rv u0, rv u1, iv 0]) rfl ?_
    show sT p e below s₁ (mkF m 9 #[rv u0, rv u1, iv 0] []) tz
    refine XS.iloadN X0.here hx rfl (hb hby own_d8_9) rfl ?_
    show sT p e below s₁ (mkF m 10 #[rv u0, rv u1, iv 0] [(.int 0)]) tz
    refine XS.aloadN X0.here hx rfl (hb hby own_d8_10) rfl rfl ?_
    exact kz
  obtain ⟨cl3, Ar3, q3, S3, M3, H3, G3⟩ := id V1
  refine own_on (B := s₁.setTop (mkF m 33 #[rv u0, rv u1, iv 0] [(.int 1)])) (fun tz kz => ?_) ?_
  · show sT p e below s₁ (mkF m 11 #[rv u0, rv u1, iv 0] [(.ref u0), (.int 0)]) tz
    refine X0.arraylength hx (by rw [e0]; exact Ar3.1) (State.isArrayOf_alike hZ.alike Ar3.2.1) (g := (mkF m 11 #[rv u0, rv u1, iv 0] [(.ref u0), (.int 0)])) rfl rfl (hb hby own_d8_11) _ ?_
    rw [len_of S3 M3]
    show sT p e below s₁ (mkF m 12 #[rv u0, rv u1, iv 0] [(.int 0), (.int 0)]) tz
    refine XS.icmpYes X0.here hx rfl (pc0 := 12) (pc' := 32) rfl (hb hby own_d8_12) rfl (flt Int32.lt_irrefl).2.1 (by decide) (by decide) ?_
    show sT p e below s₁ (mkF m 32 #[rv u0, rv u1, iv 0] []) tz
    refine XS.iconst X0.here hx rfl (hb hby own_d8_32) ?_
    exact kz
  obtain ⟨fs, hr, hrun, hended, hW, hsame⟩ := X0.leave (v := some (.int (1 : Int32))) (fun h => by rw [Bd.returns] at h; cases h)
  refine own_of ⟨_, _, ?_, hrun, hended, _, _, rfl, ?_, ⟨_, rfl⟩, hW, hsame.mono (by decide) (by decide)⟩
  · show sT p e below s₁ (mkF m 33 #[rv u0, rv u1, iv 0] [(.int 1)]) _
    exact own_retN X0 hx (t := .boolean) Bd.returns (by simp) (by first | rfl | (split <;> first | rfl | (split <;> first | rfl | (split <;> rfl)))) (hb hby own_d8_33) hr
  · show Q8z Z u0 u1 k1 k2 h0 n0 _ s₁.heap _
    rw [e0]
    exact ⟨rfl, N0, rfl⟩
theorem own_ef_8a (m : MethodId) (x0 : Addr) (x1 : Addr) : entryFrame m #[(.ref x0), (.ref x1)] 3 = mkF m 0 #[rv x0, rv x1, .unset] [] := by first | (simp [entryFrame, mkF, argsToLocals, Value.category]; done) | rfl
def Q8a (Z : State) (u0 : Addr) (u1 : Addr) (k1 : ClassId) (k2 : ClassId) (y0 : Int32) (h0 : Heap) (n0 : Nat) (v : Option Value) (h : Heap) (L : List Loc) : Prop := v = some (.int (1 : Int32)) ∧ Fr n0 L ∧ h = h0
theorem own_d8_15 : decode jdk_43_method_13_code 15 = .ok (.aload_n 0, 1) := by decide +kernel
theorem own_d8_16 : decode jdk_43_method_13_code 16 = .ok (.iload_n 2, 1) := by decide +kernel
theorem own_d8_17 : decode jdk_43_method_13_code 17 = .ok (.baload, 1) := by decide +kernel
theorem own_d8_18 : decode jdk_43_method_13_code 18 = .ok (.aload_n 1, 1) := by decide +kernel
theorem own_d8_19 : decode jdk_43_method_13_code 19 = .ok (.iload_n 2, 1) := by decide +kernel
theorem own_d8_20 : decode jdk_43_method_13_code 20 = .ok (.baload, 1) := by decide +kernel
theorem own_d8_21 : decode jdk_43_method_13_code 21 = .ok (.if_icmp .eq 5, 3) := by decide +kernel
theorem own_d8_26 : decode jdk_43_method_13_code 26 = .ok (.iinc 2 1, 3) := by decide +kernel
theorem own_d8_29 : decode jdk_43_method_13_code 29 = .ok (.goto (-20), 3) := by decide +kernel
set_option maxRecDepth 65536 in
set_option maxHeartbeats 40000000 in
theorem rm8a (l : Launch) (Z : State) (a0 : Array Value) (hw : ∀ d ∈ tables_1, d.before a0 Z = true) (ws : List Jvm.Cond) (u0 : Addr) (u1 : Addr) (k1 : ClassId) (k2 : ClassId) (y0 : Int32) (h0 : Heap) (n0 : Nat) (O0 : Old Z n0 h0) (V1 : Arv Z h0 u0 k1 .byte (1 : Int32) [(.int y0)] (.int 0)) (V2 : Arv Z h0 u1 k2 .byte (1 : Int32) [(.int y0)] (.int 0)) :
    MetFree l (⟨"java/lang/StringLatin1", "equals", "([B[B)Z"⟩ : MethodName) (head1 (Jvm.Cond.code (⟨"java/lang/StringLatin1", "equals", "([B[B)Z"⟩ : MethodName) jdk_43_method_13_code 3 (some .boolean) :: ws) ({ frames := 0, cells := 0, slots := 0, locals := 0 } : Room)) (fun a U => a = #[(.ref u0), (.ref u1)] ∧ Z.Warmed39 U.vm ∧ U.heap = h0) (fun _ _ _ _ _ => True) (fun _ U o U' => ∃ v L, o = .returned v ∧ Q8a Z u0 u1 k1 k2 y0 h0 n0 v U'.heap L ∧ FrameEnd U o U' L ({ frames := 0, cells := 0, slots := 0, locals := 0 } : Room).cells ({ frames := 0, cells := 0, slots := 0, locals := 0 } : Room).slots) := by
  refine MetFree.of_bodySF (plainFor_of_name own_pn_java_lang_StringLatin1) hisR ?_
  intro p e s m args below meth c s₁ Bd hml0 hP hK
  obtain ⟨rfl, hZ, hh⟩ := hP
  have hx := Bd.exec
  have hby := Bd.bytes
  have hml : c.maxLocals = 3 := hml0
  have hown : s.vm.findClass "java/lang/StringLatin1" = some m.cls := findClass_of_methodNamed Bd.named
  have hnm := (name_of_methodNamed Bd.named Bd.method).1
  have X0 : Stand p l e ({ frames := 0, cells := 0, slots := 0, locals := 0 } : Room) s m #[(.ref u0), (.ref u1)] below meth c s₁ [] 0 0 := Stand.of_body Bd
  have e0 : s₁.heap = h0 := by rw [← hh, Bd.state]; rfl
  have N0 := Fr.nil n0
  change Go p.tables e below _ _
  refine own_on (B := s₁.setTop (mkF m 0 #[rv u0, rv u1, un] [])) (fun tz kz => castTop (own_ef_8a m u0 u1) kz) ?_
  refine own_on (B := s₁.setTop (mkF m 1 #[rv u0, rv u1, un] [(.ref u0)])) (fun tz kz => ?_) ?_
  · show sT p e below s₁ (mkF m 0 #[rv u0, rv u1, un] []) tz
    refine XS.aloadN X0.here hx rfl (hb hby own_d8_0) rfl rfl ?_
    exact kz
  obtain ⟨cl1, Ar1, q1, S1, M1, H1, G1⟩ := id V1
  refine own_on (B := s₁.setTop (mkF m 3 #[rv u0, rv u1, un] [(.ref u1), (.int 1)])) (fun tz kz => ?_) ?_
  · show sT p e below s₁ (mkF m 1 #[rv u0, rv u1, un] [(.ref u0)]) tz
    refine X0.arraylength hx (by rw [e0]; exact Ar1.1) (State.isArrayOf_alike hZ.alike Ar1.2.1) (g := (mkF m 1 #[rv u0, rv u1, un] [(.ref u0)])) rfl rfl (hb hby own_d8_1) _ ?_
    rw [len_of S1 M1]
    show sT p e below s₁ (mkF m 2 #[rv u0, rv u1, un] [(.int 1)]) tz
    refine XS.aloadN X0.here hx rfl (hb hby own_d8_2) rfl rfl ?_
    exact kz
  obtain ⟨cl2, Ar2, q2, S2, M2, H2, G2⟩ := id V2
  refine own_on (B := s₁.setTop (mkF m 11 #[rv u0, rv u1, iv 0] [(.ref u0), (.int 0)])) (fun tz kz => ?_) ?_
  · show sT p e below s₁ (mkF m 3 #[rv u0, rv u1, un] [(.ref u1), (.int 1)]) tz
    refine X0.arraylength hx (by rw [e0]; exact Ar2.1) (State.isArrayOf_alike hZ.alike Ar2.2.1) (g := (mkF m 3 #[rv u0, rv u1, un] [(.ref u1), (.int 1)])) rfl rfl (hb hby own_d8_3) _ ?_
    rw [len_of S2 M2]
    show sT p e below s₁ (mkF m 4 #[rv u0, rv u1, un] [(.int 1), (.int 1)]) tz
    refine XS.icmpNo X0.here hx rfl (hb hby own_d8_4) rfl (teq rfl).2 ?_
    show sT p e below s₁ (mkF m 7 #[rv u0, rv u1, un] []) tz
    refine XS.iconst X0.here hx rfl (hb hby own_d8_7) ?_
    show sT p e below s₁ (mkF m 8 #[rv u0, rv u1, un] [(.int 0)]) tz
    refine XS.istoreN X0.here hx rfl (hb hby own_d8_8) rfl (l' := #[rv u0, rv u1, iv 0]) rfl ?_
    show sT p e below s₁ (mkF m 9 #[rv u0, rv u1, iv 0] []) tz
    refine XS.iloadN X0.here hx rfl (hb hby own_d8_9) rfl ?_
    show sT p e below s₁ (mkF m 10 #[rv u0, rv u1, iv 0] [(.int 0)]) tz
    refine XS.aloadN X0.here hx rfl (hb hby own_d8_10) rfl rfl ?_
    exact kz
  obtain ⟨cl3, Ar3, q3, S3, M3, H3, G3⟩ := id V1
  refine own_on (B := s₁.setTop (mkF m 17 #[rv u0, rv u1, iv 0] [(.int 0), (.ref u0)])) (fun tz kz => ?_) ?_
  · show sT p e below s₁ (mkF m 11 #[rv u0, rv u1, iv 0] [(.ref u0), (.int 0)]) tz
    refine X0.arraylength hx (by rw [e0]; exact Ar3.1) (State.isArrayOf_alike hZ.alike Ar3.2.1) (g := (mkF m 11 #[rv u0, rv u1, iv 0] [(.ref u0), (.int 0)])) rfl rfl (hb hby own_d8_11) _ ?_
    rw [len_of S3 M3]
    show sT p e below s₁ (mkF m 12 #[rv u0, rv u1, iv 0] [(.int 1), (.int 0)]) tz
    refine XS.icmpNo X0.here hx rfl (hb hby own_d8_12) rfl (tlt (by decide : (0 : Int32) < (1 : Int32))).2.1 ?_
    show sT p e below s₁ (mkF m 15 #[rv u0, rv u1, iv 0] []) tz
    refine XS.aloadN X0.here hx rfl (hb hby own_d8_15) rfl rfl ?_
    show sT p e below s₁ (mkF m 16 #[rv u0, rv u1, iv 0] [(.ref u0)]) tz
    refine XS.iloadN X0.here hx rfl (hb hby own_d8_16) rfl ?_
    exact kz
  obtain ⟨cl4, Ar4, q4, S4, M4, H4, G4⟩ := id V1
  have hin5 : ¬ ((0 : Int32) < 0 ∨ cl4.slots.size ≤ ((0 : Int32)).toNatClampNeg) := inb_of S4 ⟨by decide, by decide⟩
  have hat5 : cl4.slots[((0 : Int32)).toNatClampNeg]? = some (.int y0) := Has.at H4 hin5 rfl
  refine own_on (B := s₁.setTop (mkF m 20 #[rv u0, rv u1, iv 0] [(.int 0), (.ref u1), (.int y0)])) (fun tz kz => ?_) ?_
  · show sT p e below s₁ (mkF m 17 #[rv u0, rv u1, iv 0] [(.int 0), (.ref u0)]) tz
    refine X0.baloadBytes hx (j := (0 : Int32)) (v := (.int y0)) (by rw [e0]; exact Ar4.1) (State.isArrayOf_alike hZ.alike Ar4.2.1) Ar4.2.2 hin5 hat5 (g := (mkF m 17 #[rv u0, rv u1, iv 0] [(.int 0), (.ref u0)])) rfl rfl (hb hby own_d8_17) _ ?_
    show sT p e below s₁ (mkF m 18 #[rv u0, rv u1, iv 0] [(.int y0)]) tz
    refine XS.aloadN X0.here hx rfl (hb hby own_d8_18) rfl rfl ?_
    show sT p e below s₁ (mkF m 19 #[rv u0, rv u1, iv 0] [(.ref u1), (.int y0)]) tz
    refine XS.iloadN X0.here hx rfl (hb hby own_d8_19) rfl ?_
    exact kz
  obtain ⟨cl6, Ar6, q6, S6, M6, H6, G6⟩ := id V2
  have hin7 : ¬ ((0 : Int32) < 0 ∨ cl6.slots.size ≤ ((0 : Int32)).toNatClampNeg) := inb_of S6 ⟨by decide, by decide⟩
  have hat7 : cl6.slots[((0 : Int32)).toNatClampNeg]? = some (.int y0) := Has.at H6 hin7 rfl
  refine own_on (B := s₁.setTop (mkF m 11 #[rv u0, rv u1, iv 1] [(.ref u0), (.int 1)])) (fun tz kz => ?_) ?_
  · show sT p e below s₁ (mkF m 20 #[rv u0, rv u1, iv 0] [(.int 0), (.ref u1), (.int y0)]) tz
    refine X0.baloadBytes hx (j := (0 : Int32)) (v := (.int y0)) (by rw [e0]; exact Ar6.1) (State.isArrayOf_alike hZ.alike Ar6.2.1) Ar6.2.2 hin7 hat7 (g := (mkF m 20 #[rv u0, rv u1, iv 0] [(.int 0), (.ref u1), (.int y0)])) rfl rfl (hb hby own_d8_20) _ ?_
    show sT p e below s₁ (mkF m 21 #[rv u0, rv u1, iv 0] [(.int y0), (.int y0)]) tz
    refine XS.icmpYes X0.here hx rfl (pc0 := 21) (pc' := 26) rfl (hb hby own_d8_21) rfl (teq rfl).1 (by decide) (by decide) ?_
    show sT p e below s₁ (mkF m 26 #[rv u0, rv u1, iv 0] []) tz
    refine XS.iinc X0.here hx rfl (hb hby own_d8_26) rfl (l' := #[rv u0, rv u1, iv 1]) rfl ?_
    show sT p e below s₁ (mkF m 29 #[rv u0, rv u1, iv 1] []) tz
    refine XS.goto X0.here hx rfl (pc0 := 29) (pc' := 9) rfl (hb hby own_d8_29) (by decide) (by decide) ?_
    show sT p e below s₁ (mkF m 9 #[rv u0, rv u1, iv 1] []) tz
    refine XS.iloadN X0.here hx rfl (hb hby own_d8_9) rfl ?_
    show sT p e below s₁ (mkF m 10 #[rv u0, rv u1, iv 1] [(.int 1)]) tz
    refine XS.aloadN X0.here hx rfl (hb hby own_d8_10) rfl rfl ?_
    exact kz
  obtain ⟨cl8, Ar8, q8, S8, M8, H8, G8⟩ := id V1
  refine own_on (B := s₁.setTop (mkF m 33 #[rv u0, rv u1, iv 1] [(.int 1)])) (fun tz kz => ?_) ?_
  · show sT p e below s₁ (mkF m 11 #[rv u0, rv u1, iv 1] [(.ref u0), (.int 1)]) tz
    refine X0.arraylength hx (by rw [e0]; exact Ar8.1) (State.isArrayOf_alike hZ.alike Ar8.2.1) (g := (mkF m 11 #[rv u0, rv u1, iv 1] [(.ref u0), (.int 1)])) rfl rfl (hb hby own_d8_11) _ ?_
    rw [len_of S8 M8]
    show sT p e below s₁ (mkF m 12 #[rv u0, rv u1, iv 1] [(.int 1), (.int 1)]) tz
    refine XS.icmpYes X0.here hx rfl (pc0 := 12) (pc' := 32) rfl (hb hby own_d8_12) rfl (flt Int32.lt_irrefl).2.1 (by decide) (by decide) ?_
    show sT p e below s₁ (mkF m 32 #[rv u0, rv u1, iv 1] []) tz
    refine XS.iconst X0.here hx rfl (hb hby own_d8_32) ?_
    exact kz
  obtain ⟨fs, hr, hrun, hended, hW, hsame⟩ := X0.leave (v := some (.int (1 : Int32))) (fun h => by rw [Bd.returns] at h; cases h)
  refine own_of ⟨_, _, ?_, hrun, hended, _, _, rfl, ?_, ⟨_, rfl⟩, hW, hsame.mono (by decide) (by decide)⟩
  · show sT p e below s₁ (mkF m 33 #[rv u0, rv u1, iv 1] [(.int 1)]) _
    exact own_retN X0 hx (t := .boolean) Bd.returns (by simp) (by first | rfl | (split <;> first | rfl | (split <;> first | rfl | (split <;> rfl)))) (hb hby own_d8_33) hr
  · show Q8a Z u0 u1 k1 k2 y0 h0 n0 _ s₁.heap _
    rw [e0]
    exact ⟨rfl, N0, rfl⟩
theorem own_ef_8b (m : MethodId) (x0 : Addr) (x1 : Addr) : entryFrame m #[(.ref x0), (.ref x1)] 3 = mkF m 0 #[rv x0, rv x1, .unset] [] := by first | (simp [entryFrame, mkF, argsToLocals, Value.category]; done) | rfl
def Q8b (Z : State) (u0 : Addr) (u1 : Addr) (k1 : ClassId) (k2 : ClassId) (y0 : Int32) (y1 : Int32) (h0 : Heap) (n0 : Nat) (v : Option Value) (h : Heap) (L : List Loc) : Prop := v = some (.int (1 : Int32)) ∧ Fr n0 L ∧ h = h0
set_option maxRecDepth 65536 in
set_option maxHeartbeats 40000000 in
theorem rm8b (l : Launch) (Z : State) (a0 : Array Value) (hw : ∀ d ∈ tables_1, d.before a0 Z = true) (ws : List Jvm.Cond) (u0 : Addr) (u1 : Addr) (k1 : ClassId) (k2 : ClassId) (y0 : Int32) (y1 : Int32) (h0 : Heap) (n0 : Nat) (O0 : Old Z n0 h0) (V1 : Arv Z h0 u0 k1 .byte (2 : Int32) [(.int y0), (.int y1)] (.int 0)) (V2 : Arv Z h0 u1 k2 .byte (2 : Int32) [(.int y0), (.int y1)] (.int 0)) :
    MetFree l (⟨"java/lang/StringLatin1", "equals", "([B[B)Z"⟩ : MethodName) (head1 (Jvm.Cond.code (⟨"java/lang/StringLatin1", "equals", "([B[B)Z"⟩ : MethodName) jdk_43_method_13_code 3 (some .boolean) :: ws) ({ frames := 0, cells := 0, slots := 0, locals := 0 } : Room)) (fun a U => a = #[(.ref u0), (.ref u1)] ∧ Z.Warmed39 U.vm ∧ U.heap = h0) (fun _ _ _ _ _ => True) (fun _ U o U' => ∃ v L, o = .returned v ∧ Q8b Z u0 u1 k1 k2 y0 y1 h0 n0 v U'.heap L ∧ FrameEnd U o U' L ({ frames := 0, cells := 0, slots := 0, locals := 0 } : Room).cells ({ frames := 0, cells := 0, slots := 0, locals := 0 } : Room).slots) := by
  refine MetFree.of_bodySF (plainFor_of_name own_pn_java_lang_StringLatin1) hisR ?_
  intro p e s m args below meth c s₁ Bd hml0 hP hK
  obtain ⟨rfl, hZ, hh⟩ := hP
  have hx := Bd.exec
  have hby := Bd.bytes
  have hml : c.maxLocals = 3 := hml0
  have hown : s.vm.findClass "java/lang/StringLatin1" = some m.cls := findClass_of_methodNamed Bd.named
  have hnm := (name_of_methodNamed Bd.named Bd.method).1
  have X0 : Stand p l e ({ frames := 0, cells := 0, slots := 0, locals := 0 } : Room) s m #[(.ref u0), (.ref u1)] below meth c s₁ [] 0 0 := Stand.of_body Bd
  have e0 : s₁.heap = h0 := by rw [← hh, Bd.state]; rfl
  have N0 := Fr.nil n0
  change Go p.tables e below _ _
  refine own_on (B := s₁.setTop (mkF m 0 #[rv u0, rv u1, un] [])) (fun tz kz => castTop (own_ef_8b m u0 u1) kz) ?_
  refine own_on (B := s₁.setTop (mkF m 1 #[rv u0, rv u1, un] [(.ref u0)])) (fun tz kz => ?_) ?_
  · show sT p e below s₁ (mkF m 0 #[rv u0, rv u1, un] []) tz
    refine XS.aloadN X0.here hx rfl (hb hby own_d8_0) rfl rfl ?_
    exact kz
  obtain ⟨cl1, Ar1, q1, S1, M1, H1, G1⟩ := id V1
  refine own_on (B := s₁.setTop (mkF m 3 #[rv u0, rv u1, un] [(.ref u1), (.int 2)])) (fun tz kz => ?_) ?_
  · show sT p e below s₁ (mkF m 1 #[rv u0, rv u1, un] [(.ref u0)]) tz
    refine X0.arraylength hx (by rw [e0]; exact Ar1.1) (State.isArrayOf_alike hZ.alike Ar1.2.1) (g := (mkF m 1 #[rv u0, rv u1, un] [(.ref u0)])) rfl rfl (hb hby own_d8_1) _ ?_
    rw [len_of S1 M1]
    show sT p e below s₁ (mkF m 2 #[rv u0, rv u1, un] [(.int 2)]) tz
    refine XS.aloadN X0.here hx rfl (hb hby own_d8_2) rfl rfl ?_
    exact kz
  obtain ⟨cl2, Ar2, q2, S2, M2, H2, G2⟩ := id V2
  refine own_on (B := s₁.setTop (mkF m 11 #[rv u0, rv u1, iv 0] [(.ref u0), (.int 0)])) (fun tz kz => ?_) ?_
  · show sT p e below s₁ (mkF m 3 #[rv u0, rv u1, un] [(.ref u1), (.int 2)]) tz
    refine X0.arraylength hx (by rw [e0]; exact Ar2.1) (State.isArrayOf_alike hZ.alike Ar2.2.1) (g := (mkF m 3 #[rv u0, rv u1, un] [(.ref u1), (.int 2)])) rfl rfl (hb hby own_d8_3) _ ?_
    rw [len_of S2 M2]
    show sT p e below s₁ (mkF m 4 #[rv u0, rv u1, un] [(.int 2), (.int 2)]) tz
    refine XS.icmpNo X0.here hx rfl (hb hby own_d8_4) rfl (teq rfl).2 ?_
    show sT p e below s₁ (mkF m 7 #[rv u0, rv u1, un] []) tz
    refine XS.iconst X0.here hx rfl (hb hby own_d8_7) ?_
    show sT p e below s₁ (mkF m 8 #[rv u0, rv u1, un] [(.int 0)]) tz
    refine XS.istoreN X0.here hx rfl (hb hby own_d8_8) rfl (l' := #[rv u0, rv u1, iv 0]) rfl ?_
    show sT p e below s₁ (mkF m 9 #[rv u0, rv u1, iv 0] []) tz
    refine XS.iloadN X0.here hx rfl (hb hby own_d8_9) rfl ?_
    show sT p e below s₁ (mkF m 10 #[rv u0, rv u1, iv 0] [(.int 0)]) tz
    refine XS.aloadN X0.here hx rfl (hb hby own_d8_10) rfl rfl ?_
    exact kz
  obtain ⟨cl3, Ar3, q3, S3, M3, H3, G3⟩ := id V1
  refine own_on (B := s₁.setTop (mkF m 17 #[rv u0, rv u1, iv 0] [(.int 0), (.ref u0)])) (fun tz kz => ?_) ?_
  · show sT p e below s₁ (mkF m 11 #[rv u0, rv u1, iv 0] [(.ref u0), (.int 0)]) tz
    refine X0.arraylength hx (by rw [e0]; exact Ar3.1) (State.isArrayOf_alike hZ.alike Ar3.2.1) (g := (mkF m 11 #[rv u0, rv u1, iv 0] [(.ref u0), (.int 0)])) rfl rfl (hb hby own_d8_11) _ ?_
    rw [len_of S3 M3]
    show sT p e below s₁ (mkF m 12 #[rv u0, rv u1, iv 0] [(.int 2), (.int 0)]) tz
    refine XS.icmpNo X0.here hx rfl (hb hby own_d8_12) rfl (tlt (by decide : (0 : Int32) < (2 : Int32))).2.1 ?_
    show sT p e below s₁ (mkF m 15 #[rv u0, rv u1, iv 0] []) tz
    refine XS.aloadN X0.here hx rfl (hb hby own_d8_15) rfl rfl ?_
    show sT p e below s₁ (mkF m 16 #[rv u0, rv u1, iv 0] [(.ref u0)]) tz
    refine XS.iloadN X0.here hx rfl (hb hby own_d8_16) rfl ?_
    exact kz
  obtain ⟨cl4, Ar4, q4, S4, M4, H4, G4⟩ := id V1
  have hin5 : ¬ ((0 : Int32) < 0 ∨ cl4.slots.size ≤ ((0 : Int32)).toNatClampNeg) := inb_of S4 ⟨by decide, by decide⟩
  have hat5 : cl4.slots[((0 : Int32)).toNatClampNeg]? = some (.int y0) := Has.at H4 hin5 rfl
  refine own_on (B := s₁.setTop (mkF m 20 #[rv u0, rv u1, iv 0] [(.int 0), (.ref u1), (.int y0)])) (fun tz kz => ?_) ?_
  · show sT p e below s₁ (mkF m 17 #[rv u0, rv u1, iv 0] [(.int 0), (.ref u0)]) tz
    refine X0.baloadBytes hx (j := (0 : Int32)) (v := (.int y0)) (by rw [e0]; exact Ar4.1) (State.isArrayOf_alike hZ.alike Ar4.2.1) Ar4.2.2 hin5 hat5 (g := (mkF m 17 #[rv u0, rv u1, iv 0] [(.int 0), (.ref u0)])) rfl rfl (hb hby own_d8_17) _ ?_
    show sT p e below s₁ (mkF m 18 #[rv u0, rv u1, iv 0] [(.int y0)]) tz
    refine XS.aloadN X0.here hx rfl (hb hby own_d8_18) rfl rfl ?_
    show sT p e below s₁ (mkF m 19 #[rv u0, rv u1, iv 0] [(.ref u1), (.int y0)]) tz
    refine XS.iloadN X0.here hx rfl (hb hby own_d8_19) rfl ?_
    exact kz
  obtain ⟨cl6, Ar6, q6, S6, M6, H6, G6⟩ := id V2
  have hin7 : ¬ ((0 : Int32) < 0 ∨ cl6.slots.size ≤ ((0 : Int32)).toNatClampNeg) := inb_of S6 ⟨by decide, by decide⟩
  have hat7 : cl6.slots[((0 : Int32)).toNatClampNeg]? = some (.int y0) := Has.at H6 hin7 rfl
  refine own_on (B := s₁.setTop (mkF m 11 #[rv u0, rv u1, iv 1] [(.ref u0), (.int 1)])) (fun tz kz => ?_) ?_
  · show sT p e below s₁ (mkF m 20 #[rv u0, rv u1, iv 0] [(.int 0), (.ref u1), (.int y0)]) tz
    refine X0.baloadBytes hx (j := (0 : Int32)) (v := (.int y0)) (by rw [e0]; exact Ar6.1) (State.isArrayOf_alike hZ.alike Ar6.2.1) Ar6.2.2 hin7 hat7 (g := (mkF m 20 #[rv u0, rv u1, iv 0] [(.int 0), (.ref u1), (.int y0)])) rfl rfl (hb hby own_d8_20) _ ?_
    show sT p e below s₁ (mkF m 21 #[rv u0, rv u1, iv 0] [(.int y0), (.int y0)]) tz
    refine XS.icmpYes X0.here hx rfl (pc0 := 21) (pc' := 26) rfl (hb hby own_d8_21) rfl (teq rfl).1 (by decide) (by decide) ?_
    show sT p e below s₁ (mkF m 26 #[rv u0, rv u1, iv 0] []) tz
    refine XS.iinc X0.here hx rfl (hb hby own_d8_26) rfl (l' := #[rv u0, rv u1, iv 1]) rfl ?_
    show sT p e below s₁ (mkF m 29 #[rv u0, rv u1, iv 1] []) tz
    refine XS.goto X0.here hx rfl (pc0 := 29) (pc' := 9) rfl (hb hby own_d8_29) (by decide) (by decide) ?_
    show sT p e below s₁ (mkF m 9 #[rv u0, rv u1, iv 1] []) tz
    refine XS.iloadN X0.here hx rfl (hb hby own_d8_9) rfl ?_
    show sT p e below s₁ (mkF m 10 #[rv u0, rv u1, iv 1] [(.int 1)]) tz
    refine XS.aloadN X0.here hx rfl (hb hby own_d8_10) rfl rfl ?_
    exact kz
  obtain ⟨cl8, Ar8, q8, S8, M8, H8, G8⟩ := id V1
  refine own_on (B := s₁.setTop (mkF m 17 #[rv u0, rv u1, iv 1] [(.int 1), (.ref u0)])) (fun tz kz => ?_) ?_
  · show sT p e below s₁ (mkF m 11 #[rv u0, rv u1, iv 1] [(.ref u0), (.int 1)]) tz
    refine X0.arraylength hx (by rw [e0]; exact Ar8.1) (State.isArrayOf_alike hZ.alike Ar8.2.1) (g := (mkF m 11 #[rv u0, rv u1, iv 1] [(.ref u0), (.int 1)])) rfl rfl (hb hby own_d8_11) _ ?_
    rw [len_of S8 M8]
    show sT p e below s₁ (mkF m 12 #[rv u0, rv u1, iv 1] [(.int 2), (.int 1)]) tz
    refine XS.icmpNo X0.here hx rfl (hb hby own_d8_12) rfl (tlt (by decide : (1 : Int32) < (2 : Int32))).2.1 ?_
    show sT p e below s₁ (mkF m 15 #[rv u0, rv u1, iv 1] []) tz
    refine XS.aloadN X0.here hx rfl (hb hby own_d8_15) rfl rfl ?_
    show sT p e below s₁ (mkF m 16 #[rv u0, rv u1, iv 1] [(.ref u0)]) tz
    refine XS.iloadN X0.here hx rfl (hb hby own_d8_16) rfl ?_
    exact kz
  obtain ⟨cl9, Ar9, q9, S9, M9, H9, G9⟩ := id V1
  have hin10 : ¬ ((1 : Int32) < 0 ∨ cl9.slots.size ≤ ((1 : Int32)).toNatClampNeg) := inb_of S9 ⟨by decide, by decide⟩
  have hat10 : cl9.slots[((1 : Int32)).toNatClampNeg]? = some (.int y1) := Has.at H9 hin10 rfl
  refine own_on (B := s₁.setTop (mkF m 20 #[rv u0, rv u1, iv 1] [(.int 1), (.ref u1), (.int y1)])) (fun tz kz => ?_) ?_
  · show sT p e below s₁ (mkF m 17 #[rv u0, rv u1, iv 1] [(.int 1), (.ref u0)]) tz
    refine X0.baloadBytes hx (j := (1 : Int32)) (v := (.int y1)) (by rw [e0]; exact Ar9.1) (State.isArrayOf_alike hZ.alike Ar9.2.1) Ar9.2.2 hin10 hat10 (g := (mkF m 17 #[rv u0, rv u1, iv 1] [(.int 1), (.ref u0)])) rfl rfl (hb hby own_d8_17) _ ?_
    show sT p e below s₁ (mkF m 18 #[rv u0, rv u1, iv 1] [(.int y1)]) tz
    refine XS.aloadN X0.here hx rfl (hb hby own_d8_18) rfl rfl ?_
    show sT p e below s₁ (mkF m 19 #[rv u0, rv u1, iv 1] [(.ref u1), (.int y1)]) tz
    refine XS.iloadN X0.here hx rfl (hb hby own_d8_19) rfl ?_
    exact kz
  obtain ⟨cl11, Ar11, q11, S11, M11, H11, G11⟩ := id V2
  have hin12 : ¬ ((1 : Int32) < 0 ∨ cl11.slots.size ≤ ((1 : Int32)).toNatClampNeg) := inb_of S11 ⟨by decide, by decide⟩
  have hat12 : cl11.slots[((1 : Int32)).toNatClampNeg]? = some (.int y1) := Has.at H11 hin12 rfl
  refine own_on (B := s₁.setTop (mkF m 11 #[rv u0, rv u1, iv 2] [(.ref u0), (.int 2)])) (fun tz kz => ?_) ?_
  · show sT p e below s₁ (mkF m 20 #[rv u0, rv u1, iv 1] [(.int 1), (.ref u1), (.int y1)]) tz
    refine X0.baloadBytes hx (j := (1 : Int32)) (v := (.int y1)) (by rw [e0]; exact Ar11.1) (State.isArrayOf_alike hZ.alike Ar11.2.1) Ar11.2.2 hin12 hat12 (g := (mkF m 20 #[rv u0, rv u1, iv 1] [(.int 1), (.ref u1), (.int y1)])) rfl rfl (hb hby own_d8_20) _ ?_
    show sT p e below s₁ (mkF m 21 #[rv u0, rv u1, iv 1] [(.int y1), (.int y1)]) tz
    refine XS.icmpYes X0.here hx rfl (pc0 := 21) (pc' := 26) rfl (hb hby own_d8_21) rfl (teq rfl).1 (by decide) (by decide) ?_
    show sT p e below s₁ (mkF m 26 #[rv u0, rv u1, iv 1] []) tz
    refine XS.iinc X0.here hx rfl (hb hby own_d8_26) rfl (l' := #[rv u0, rv u1, iv 2]) rfl ?_
    show sT p e below s₁ (mkF m 29 #[rv u0, rv u1, iv 2] []) tz
    refine XS.goto X0.here hx rfl (pc0 := 29) (pc' := 9) rfl (hb hby own_d8_29) (by decide) (by decide) ?_
    show sT p e below s₁ (mkF m 9 #[rv u0, rv u1, iv 2] []) tz
    refine XS.iloadN X0.here hx rfl (hb hby own_d8_9) rfl ?_
    show sT p e below s₁ (mkF m 10 #[rv u0, rv u1, iv 2] [(.int 2)]) tz
    refine XS.aloadN X0.here hx rfl (hb hby own_d8_10) rfl rfl ?_
    exact kz
  obtain ⟨cl13, Ar13, q13, S13, M13, H13, G13⟩ := id V1
  refine own_on (B := s₁.setTop (mkF m 33 #[rv u0, rv u1, iv 2] [(.int 1)])) (fun tz kz => ?_) ?_
  · show sT p e below s₁ (mkF m 11 #[rv u0, rv u1, iv 2] [(.ref u0), (.int 2)]) tz
    refine X0.arraylength hx (by rw [e0]; exact Ar13.1) (State.isArrayOf_alike hZ.alike Ar13.2.1) (g := (mkF m 11 #[rv u0, rv u1, iv 2] [(.ref u0), (.int 2)])) rfl rfl (hb hby own_d8_11) _ ?_
    rw [len_of S13 M13]
    show sT p e below s₁ (mkF m 12 #[rv u0, rv u1, iv 2] [(.int 2), (.int 2)]) tz
    refine XS.icmpYes X0.here hx rfl (pc0 := 12) (pc' := 32) rfl (hb hby own_d8_12) rfl (flt Int32.lt_irrefl).2.1 (by decide) (by decide) ?_
    show sT p e below s₁ (mkF m 32 #[rv u0, rv u1, iv 2] []) tz
    refine XS.iconst X0.here hx rfl (hb hby own_d8_32) ?_
    exact kz
  obtain ⟨fs, hr, hrun, hended, hW, hsame⟩ := X0.leave (v := some (.int (1 : Int32))) (fun h => by rw [Bd.returns] at h; cases h)
  refine own_of ⟨_, _, ?_, hrun, hended, _, _, rfl, ?_, ⟨_, rfl⟩, hW, hsame.mono (by decide) (by decide)⟩
  · show sT p e below s₁ (mkF m 33 #[rv u0, rv u1, iv 2] [(.int 1)]) _
    exact own_retN X0 hx (t := .boolean) Bd.returns (by simp) (by first | rfl | (split <;> first | rfl | (split <;> first | rfl | (split <;> rfl)))) (hb hby own_d8_33) hr
  · show Q8b Z u0 u1 k1 k2 y0 y1 h0 n0 _ s₁.heap _
    rw [e0]
    exact ⟨rfl, N0, rfl⟩
theorem own_ef_8m (m : MethodId) (x0 : Addr) (x1 : Addr) : entryFrame m #[(.ref x0), (.ref x1)] 3 = mkF m 0 #[rv x0, rv x1, .unset] [] := by first | (simp [entryFrame, mkF, argsToLocals, Value.category]; done) | rfl
def Q8m (Z : State) (u0 : Addr) (u1 : Addr) (k1 : ClassId) (k2 : ClassId) (y0 : Int32) (z0 : Int32) (h0 : Heap) (n0 : Nat) (v : Option Value) (h : Heap) (L : List Loc) : Prop := v = some (.int (0 : Int32)) ∧ Fr n0 L ∧ h = h0
theorem own_d8_24 : decode jdk_43_method_13_code 24 = .ok (.iconst 0, 1) := by decide +kernel
theorem own_d8_25 : decode jdk_43_method_13_code 25 = .ok (.ireturn, 1) := by decide +kernel
set_option maxRecDepth 65536 in
set_option maxHeartbeats 40000000 in
theorem rm8m (l : Launch) (Z : State) (a0 : Array Value) (hw : ∀ d ∈ tables_1, d.before a0 Z = true) (ws : List Jvm.Cond) (u0 : Addr) (u1 : Addr) (k1 : ClassId) (k2 : ClassId) (y0 : Int32) (z0 : Int32) (h0 : Heap) (n0 : Nat) (O0 : Old Z n0 h0) (V1 : Arv Z h0 u0 k1 .byte (1 : Int32) [(.int y0)] (.int 0)) (V2 : Arv Z h0 u1 k2 .byte (1 : Int32) [(.int z0)] (.int 0)) (hun : ¬ (y0 = z0)) :
    MetFree l (⟨"java/lang/StringLatin1", "equals", "([B[B)Z"⟩ : MethodName) (head1 (Jvm.Cond.code (⟨"java/lang/StringLatin1", "equals", "([B[B)Z"⟩ : MethodName) jdk_43_method_13_code 3 (some .boolean) :: ws) ({ frames := 0, cells := 0, slots := 0, locals := 0 } : Room)) (fun a U => a = #[(.ref u0), (.ref u1)] ∧ Z.Warmed39 U.vm ∧ U.heap = h0) (fun _ _ _ _ _ => True) (fun _ U o U' => ∃ v L, o = .returned v ∧ Q8m Z u0 u1 k1 k2 y0 z0 h0 n0 v U'.heap L ∧ FrameEnd U o U' L ({ frames := 0, cells := 0, slots := 0, locals := 0 } : Room).cells ({ frames := 0, cells := 0, slots := 0, locals := 0 } : Room).slots) := by
  refine MetFree.of_bodySF (plainFor_of_name own_pn_java_lang_StringLatin1) hisR ?_
  intro p e s m args below meth c s₁ Bd hml0 hP hK
  obtain ⟨rfl, hZ, hh⟩ := hP
  have hx := Bd.exec
  have hby := Bd.bytes
  have hml : c.maxLocals = 3 := hml0
  have hown : s.vm.findClass "java/lang/StringLatin1" = some m.cls := findClass_of_methodNamed Bd.named
  have hnm := (name_of_methodNamed Bd.named Bd.method).1
  have X0 : Stand p l e ({ frames := 0, cells := 0, slots := 0, locals := 0 } : Room) s m #[(.ref u0), (.ref u1)] below meth c s₁ [] 0 0 := Stand.of_body Bd
  have e0 : s₁.heap = h0 := by rw [← hh, Bd.state]; rfl
  have N0 := Fr.nil n0
  change Go p.tables e below _ _
  refine own_on (B := s₁.setTop (mkF m 0 #[rv u0, rv u1, un] [])) (fun tz kz => castTop (own_ef_8m m u0 u1) kz) ?_
  refine own_on (B := s₁.setTop (mkF m 1 #[rv u0, rv u1, un] [(.ref u0)])) (fun tz kz => ?_) ?_
  · show sT p e below s₁ (mkF m 0 #[rv u0, rv u1, un] []) tz
    refine XS.aloadN X0.here hx rfl (hb hby own_d8_0) rfl rfl ?_
    exact kz
  obtain ⟨cl1, Ar1, q1, S1, M1, H1, G1⟩ := id V1
  refine own_on (B := s₁.setTop (mkF m 3 #[rv u0, rv u1, un] [(.ref u1), (.int 1)])) (fun tz kz => ?_) ?_
  · show sT p e below s₁ (mkF m 1 #[rv u0, rv u1, un] [(.ref u0)]) tz
    refine X0.arraylength hx (by rw [e0]; exact Ar1.1) (State.isArrayOf_alike hZ.alike Ar1.2.1) (g := (mkF m 1 #[rv u0, rv u1, un] [(.ref u0)])) rfl rfl (hb hby own_d8_1) _ ?_
    rw [len_of S1 M1]
    show sT p e below s₁ (mkF m 2 #[rv u0, rv u1, un] [(.int 1)]) tz
    refine XS.aloadN X0.here hx rfl (hb hby own_d8_2) rfl rfl ?_
    exact kz
  obtain ⟨cl2, Ar2, q2, S2, M2, H2, G2⟩ := id V2
  refine own_on (B := s₁.setTop (mkF m 11 #[rv u0, rv u1, iv 0] [(.ref u0), (.int 0)])) (fun tz kz => ?_) ?_
  · show sT p e below s₁ (mkF m 3 #[rv u0, rv u1, un] [(.ref u1), (.int 1)]) tz
    refine X0.arraylength hx (by rw [e0]; exact Ar2.1) (State.isArrayOf_alike hZ.alike Ar2.2.1) (g := (mkF m 3 #[rv u0, rv u1, un] [(.ref u1), (.int 1)])) rfl rfl (hb hby own_d8_3) _ ?_
    rw [len_of S2 M2]
    show sT p e below s₁ (mkF m 4 #[rv u0, rv u1, un] [(.int 1), (.int 1)]) tz
    refine XS.icmpNo X0.here hx rfl (hb hby own_d8_4) rfl (teq rfl).2 ?_
    show sT p e below s₁ (mkF m 7 #[rv u0, rv u1, un] []) tz
    refine XS.iconst X0.here hx rfl (hb hby own_d8_7) ?_
    show sT p e below s₁ (mkF m 8 #[rv u0, rv u1, un] [(.int 0)]) tz
    refine XS.istoreN X0.here hx rfl (hb hby own_d8_8) rfl (l' := #[rv u0, rv u1, iv 0]) rfl ?_
    show sT p e below s₁ (mkF m 9 #[rv u0, rv u1, iv 0] []) tz
    refine XS.iloadN X0.here hx rfl (hb hby own_d8_9) rfl ?_
    show sT p e below s₁ (mkF m 10 #[rv u0, rv u1, iv 0] [(.int 0)]) tz
    refine XS.aloadN X0.here hx rfl (hb hby own_d8_10) rfl rfl ?_
    exact kz
  obtain ⟨cl3, Ar3, q3, S3, M3, H3, G3⟩ := id V1
  refine own_on (B := s₁.setTop (mkF m 17 #[rv u0, rv u1, iv 0] [(.int 0), (.ref u0)])) (fun tz kz => ?_) ?_
  · show sT p e below s₁ (mkF m 11 #[rv u0, rv u1, iv 0] [(.ref u0), (.int 0)]) tz
    refine X0.arraylength hx (by rw [e0]; exact Ar3.1) (State.isArrayOf_alike hZ.alike Ar3.2.1) (g := (mkF m 11 #[rv u0, rv u1, iv 0] [(.ref u0), (.int 0)])) rfl rfl (hb hby own_d8_11) _ ?_
    rw [len_of S3 M3]
    show sT p e below s₁ (mkF m 12 #[rv u0, rv u1, iv 0] [(.int 1), (.int 0)]) tz
    refine XS.icmpNo X0.here hx rfl (hb hby own_d8_12) rfl (tlt (by decide : (0 : Int32) < (1 : Int32))).2.1 ?_
    show sT p e below s₁ (mkF m 15 #[rv u0, rv u1, iv 0] []) tz
    refine XS.aloadN X0.here hx rfl (hb hby own_d8_15) rfl rfl ?_
    show sT p e below s₁ (mkF m 16 #[rv u0, rv u1, iv 0] [(.ref u0)]) tz
    refine XS.iloadN X0.here hx rfl (hb hby own_d8_16) rfl ?_
    exact kz
  obtain ⟨cl4, Ar4, q4, S4, M4, H4, G4⟩ := id V1
  have hin5 : ¬ ((0 : Int32) < 0 ∨ cl4.slots.size ≤ ((0 : Int32)).toNatClampNeg) := inb_of S4 ⟨by decide, by decide⟩
  have hat5 : cl4.slots[((0 : Int32)).toNatClampNeg]? = some (.int y0) := Has.at H4 hin5 rfl
  refine own_on (B := s₁.setTop (mkF m 20 #[rv u0, rv u1, iv 0] [(.int 0), (.ref u1), (.int y0)])) (fun tz kz => ?_) ?_
  · show sT p e below s₁ (mkF m 17 #[rv u0, rv u1, iv 0] [(.int 0), (.ref u0)]) tz
    refine X0.baloadBytes hx (j := (0 : Int32)) (v := (.int y0)) (by rw [e0]; exact Ar4.1) (State.isArrayOf_alike hZ.alike Ar4.2.1) Ar4.2.2 hin5 hat5 (g := (mkF m 17 #[rv u0, rv u1, iv 0] [(.int 0), (.ref u0)])) rfl rfl (hb hby own_d8_17) _ ?_
    show sT p e below s₁ (mkF m 18 #[rv u0, rv u1, iv 0] [(.int y0)]) tz
    refine XS.aloadN X0.here hx rfl (hb hby own_d8_18) rfl rfl ?_
    show sT p e below s₁ (mkF m 19 #[rv u0, rv u1, iv 0] [(.ref u1), (.int y0)]) tz
    refine XS.iloadN X0.here hx rfl (hb hby own_d8_19) rfl ?_
    exact kz
  obtain ⟨cl6, Ar6, q6, S6, M6, H6, G6⟩ := id V2
  have hin7 : ¬ ((0 : Int32) < 0 ∨ cl6.slots.size ≤ ((0 : Int32)).toNatClampNeg) := inb_of S6 ⟨by decide, by decide⟩
  have hat7 : cl6.slots[((0 : Int32)).toNatClampNeg]? = some (.int z0) := Has.at H6 hin7 rfl
  refine own_on (B := s₁.setTop (mkF m 25 #[rv u0, rv u1, iv 0] [(.int 0)])) (fun tz kz => ?_) ?_
  · show sT p e below s₁ (mkF m 20 #[rv u0, rv u1, iv 0] [(.int 0), (.ref u1), (.int y0)]) tz
    refine X0.baloadBytes hx (j := (0 : Int32)) (v := (.int z0)) (by rw [e0]; exact Ar6.1) (State.isArrayOf_alike hZ.alike Ar6.2.1) Ar6.2.2 hin7 hat7 (g := (mkF m 20 #[rv u0, rv u1, iv 0] [(.int 0), (.ref u1), (.int y0)])) rfl rfl (hb hby own_d8_20) _ ?_
    show sT p e below s₁ (mkF m 21 #[rv u0, rv u1, iv 0] [(.int z0), (.int y0)]) tz
    refine XS.icmpNo X0.here hx rfl (hb hby own_d8_21) rfl (feq hun).1 ?_
    show sT p e below s₁ (mkF m 24 #[rv u0, rv u1, iv 0] []) tz
    refine XS.iconst X0.here hx rfl (hb hby own_d8_24) ?_
    exact kz
  obtain ⟨fs, hr, hrun, hended, hW, hsame⟩ := X0.leave (v := some (.int (0 : Int32))) (fun h => by rw [Bd.returns] at h; cases h)
  refine own_of ⟨_, _, ?_, hrun, hended, _, _, rfl, ?_, ⟨_, rfl⟩, hW, hsame.mono (by decide) (by decide)⟩
  · show sT p e below s₁ (mkF m 25 #[rv u0, rv u1, iv 0] [(.int 0)]) _
    exact own_retN X0 hx (t := .boolean) Bd.returns (by simp) (by first | rfl | (split <;> first | rfl | (split <;> first | rfl | (split <;> rfl)))) (hb hby own_d8_25) hr
  · show Q8m Z u0 u1 k1 k2 y0 z0 h0 n0 _ s₁.heap _
    rw [e0]
    exact ⟨rfl, N0, rfl⟩
theorem own_ef_8n (m : MethodId) (x0 : Addr) (x1 : Addr) : entryFrame m #[(.ref x0), (.ref x1)] 3 = mkF m 0 #[rv x0, rv x1, .unset] [] := by first | (simp [entryFrame, mkF, argsToLocals, Value.category]; done) | rfl
def Q8n (Z : State) (u0 : Addr) (u1 : Addr) (k1 : ClassId) (k2 : ClassId) (y0 : Int32) (y1 : Int32) (z0 : Int32) (z1 : Int32) (h0 : Heap) (n0 : Nat) (v : Option Value) (h : Heap) (L : List Loc) : Prop := v = some (.int (0 : Int32)) ∧ Fr n0 L ∧ h = h0
set_option maxRecDepth 65536 in
set_option maxHeartbeats 40000000 in
theorem rm8n (l : Launch) (Z : State) (a0 : Array Value) (hw : ∀ d ∈ tables_1, d.before a0 Z = true) (ws : List Jvm.Cond) (u0 : Addr) (u1 : Addr) (k1 : ClassId) (k2 : ClassId) (y0 : Int32) (y1 : Int32) (z0 : Int32) (z1 : Int32) (h0 : Heap) (n0 : Nat) (O0 : Old Z n0 h0) (V1 : Arv Z h0 u0 k1 .byte (2 : Int32) [(.int y0), (.int y1)] (.int 0)) (V2 : Arv Z h0 u1 k2 .byte (2 : Int32) [(.int z0), (.int z1)] (.int 0)) (hun : ¬ (y0 = z0)) :
    MetFree l (⟨"java/lang/StringLatin1", "equals", "([B[B)Z"⟩ : MethodName) (head1 (Jvm.Cond.code (⟨"java/lang/StringLatin1", "equals", "([B[B)Z"⟩ : MethodName) jdk_43_method_13_code 3 (some .boolean) :: ws) ({ frames := 0, cells := 0, slots := 0, locals := 0 } : Room)) (fun a U => a = #[(.ref u0), (.ref u1)] ∧ Z.Warmed39 U.vm ∧ U.heap = h0) (fun _ _ _ _ _ => True) (fun _ U o U' => ∃ v L, o = .returned v ∧ Q8n Z u0 u1 k1 k2 y0 y1 z0 z1 h0 n0 v U'.heap L ∧ FrameEnd U o U' L ({ frames := 0, cells := 0, slots := 0, locals := 0 } : Room).cells ({ frames := 0, cells := 0, slots := 0, locals := 0 } : Room).slots) := by
  refine MetFree.of_bodySF (plainFor_of_name own_pn_java_lang_StringLatin1) hisR ?_
  intro p e s m args below meth c s₁ Bd hml0 hP hK
  obtain ⟨rfl, hZ, hh⟩ := hP
  have hx := Bd.exec
  have hby := Bd.bytes
  have hml : c.maxLocals = 3 := hml0
  have hown : s.vm.findClass "java/lang/StringLatin1" = some m.cls := findClass_of_methodNamed Bd.named
  have hnm := (name_of_methodNamed Bd.named Bd.method).1
  have X0 : Stand p l e ({ frames := 0, cells := 0, slots := 0, locals := 0 } : Room) s m #[(.ref u0), (.ref u1)] below meth c s₁ [] 0 0 := Stand.of_body Bd
  have e0 : s₁.heap = h0 := by rw [← hh, Bd.state]; rfl
  have N0 := Fr.nil n0
  change Go p.tables e below _ _
  refine own_on (B := s₁.setTop (mkF m 0 #[rv u0, rv u1, un] [])) (fun tz kz => castTop (own_ef_8n m u0 u1) kz) ?_
  refine own_on (B := s₁.setTop (mkF m 1 #[rv u0, rv u1, un] [(.ref u0)])) (fun tz kz => ?_) ?_
  · show sT p e below s₁ (mkF m 0 #[rv u0, rv u1, un] []) tz
    refine XS.aloadN X0.here hx rfl (hb hby own_d8_0) rfl rfl ?_
    exact kz
  obtain ⟨cl1, Ar1, q1, S1, M1, H1, G1⟩ := id V1
  refine own_on (B := s₁.setTop (mkF m 3 #[rv u0, rv u1, un] [(.ref u1), (.int 2)])) (fun tz kz => ?_) ?_
  · show sT p e below s₁ (mkF m 1 #[rv u0, rv u1, un] [(.ref u0)]) tz
    refine X0.arraylength hx (by rw [e0]; exact Ar1.1) (State.isArrayOf_alike hZ.alike Ar1.2.1) (g := (mkF m 1 #[rv u0, rv u1, un] [(.ref u0)])) rfl rfl (hb hby own_d8_1) _ ?_
    rw [len_of S1 M1]
    show sT p e below s₁ (mkF m 2 #[rv u0, rv u1, un] [(.int 2)]) tz
    refine XS.aloadN X0.here hx rfl (hb hby own_d8_2) rfl rfl ?_
    exact kz
  obtain ⟨cl2, Ar2, q2, S2, M2, H2, G2⟩ := id V2
  refine own_on (B := s₁.setTop (mkF m 11 #[rv u0, rv u1, iv 0] [(.ref u0), (.int 0)])) (fun tz kz => ?_) ?_
  · show sT p e below s₁ (mkF m 3 #[rv u0, rv u1, un] [(.ref u1), (.int 2)]) tz
    refine X0.arraylength hx (by rw [e0]; exact Ar2.1) (State.isArrayOf_alike hZ.alike Ar2.2.1) (g := (mkF m 3 #[rv u0, rv u1, un] [(.ref u1), (.int 2)])) rfl rfl (hb hby own_d8_3) _ ?_
    rw [len_of S2 M2]
    show sT p e below s₁ (mkF m 4 #[rv u0, rv u1, un] [(.int 2), (.int 2)]) tz
    refine XS.icmpNo X0.here hx rfl (hb hby own_d8_4) rfl (teq rfl).2 ?_
    show sT p e below s₁ (mkF m 7 #[rv u0, rv u1, un] []) tz
    refine XS.iconst X0.here hx rfl (hb hby own_d8_7) ?_
    show sT p e below s₁ (mkF m 8 #[rv u0, rv u1, un] [(.int 0)]) tz
    refine XS.istoreN X0.here hx rfl (hb hby own_d8_8) rfl (l' := #[rv u0, rv u1, iv 0]) rfl ?_
    show sT p e below s₁ (mkF m 9 #[rv u0, rv u1, iv 0] []) tz
    refine XS.iloadN X0.here hx rfl (hb hby own_d8_9) rfl ?_
    show sT p e below s₁ (mkF m 10 #[rv u0, rv u1, iv 0] [(.int 0)]) tz
    refine XS.aloadN X0.here hx rfl (hb hby own_d8_10) rfl rfl ?_
    exact kz
  obtain ⟨cl3, Ar3, q3, S3, M3, H3, G3⟩ := id V1
  refine own_on (B := s₁.setTop (mkF m 17 #[rv u0, rv u1, iv 0] [(.int 0), (.ref u0)])) (fun tz kz => ?_) ?_
  · show sT p e below s₁ (mkF m 11 #[rv u0, rv u1, iv 0] [(.ref u0), (.int 0)]) tz
    refine X0.arraylength hx (by rw [e0]; exact Ar3.1) (State.isArrayOf_alike hZ.alike Ar3.2.1) (g := (mkF m 11 #[rv u0, rv u1, iv 0] [(.ref u0), (.int 0)])) rfl rfl (hb hby own_d8_11) _ ?_
    rw [len_of S3 M3]
    show sT p e below s₁ (mkF m 12 #[rv u0, rv u1, iv 0] [(.int 2), (.int 0)]) tz
    refine XS.icmpNo X0.here hx rfl (hb hby own_d8_12) rfl (tlt (by decide : (0 : Int32) < (2 : Int32))).2.1 ?_
    show sT p e below s₁ (mkF m 15 #[rv u0, rv u1, iv 0] []) tz
    refine XS.aloadN X0.here hx rfl (hb hby own_d8_15) rfl rfl ?_
    show sT p e below s₁ (mkF m 16 #[rv u0, rv u1, iv 0] [(.ref u0)]) tz
    refine XS.iloadN X0.here hx rfl (hb hby own_d8_16) rfl ?_
    exact kz
  obtain ⟨cl4, Ar4, q4, S4, M4, H4, G4⟩ := id V1
  have hin5 : ¬ ((0 : Int32) < 0 ∨ cl4.slots.size ≤ ((0 : Int32)).toNatClampNeg) := inb_of S4 ⟨by decide, by decide⟩
  have hat5 : cl4.slots[((0 : Int32)).toNatClampNeg]? = some (.int y0) := Has.at H4 hin5 rfl
  refine own_on (B := s₁.setTop (mkF m 20 #[rv u0, rv u1, iv 0] [(.int 0), (.ref u1), (.int y0)])) (fun tz kz => ?_) ?_
  · show sT p e below s₁ (mkF m 17 #[rv u0, rv u1, iv 0] [(.int 0), (.ref u0)]) tz
    refine X0.baloadBytes hx (j := (0 : Int32)) (v := (.int y0)) (by rw [e0]; exact Ar4.1) (State.isArrayOf_alike hZ.alike Ar4.2.1) Ar4.2.2 hin5 hat5 (g := (mkF m 17 #[rv u0, rv u1, iv 0] [(.int 0), (.ref u0)])) rfl rfl (hb hby own_d8_17) _ ?_
    show sT p e below s₁ (mkF m 18 #[rv u0, rv u1, iv 0] [(.int y0)]) tz
    refine XS.aloadN X0.here hx rfl (hb hby own_d8_18) rfl rfl ?_
    show sT p e below s₁ (mkF m 19 #[rv u0, rv u1, iv 0] [(.ref u1), (.int y0)]) tz
    refine XS.iloadN X0.here hx rfl (hb hby own_d8_19) rfl ?_
    exact kz
  obtain ⟨cl6, Ar6, q6, S6, M6, H6, G6⟩ := id V2
  have hin7 : ¬ ((0 : Int32) < 0 ∨ cl6.slots.size ≤ ((0 : Int32)).toNatClampNeg) := inb_of S6 ⟨by decide, by decide⟩
  have hat7 : cl6.slots[((0 : Int32)).toNatClampNeg]? = some (.int z0) := Has.at H6 hin7 rfl
  refine own_on (B := s₁.setTop (mkF m 25 #[rv u0, rv u1, iv 0] [(.int 0)])) (fun tz kz => ?_) ?_
  · show sT p e below s₁ (mkF m 20 #[rv u0, rv u1, iv 0] [(.int 0), (.ref u1), (.int y0)]) tz
    refine X0.baloadBytes hx (j := (0 : Int32)) (v := (.int z0)) (by rw [e0]; exact Ar6.1) (State.isArrayOf_alike hZ.alike Ar6.2.1) Ar6.2.2 hin7 hat7 (g := (mkF m 20 #[rv u0, rv u1, iv 0] [(.int 0), (.ref u1), (.int y0)])) rfl rfl (hb hby own_d8_20) _ ?_
    show sT p e below s₁ (mkF m 21 #[rv u0, rv u1, iv 0] [(.int z0), (.int y0)]) tz
    refine XS.icmpNo X0.here hx rfl (hb hby own_d8_21) rfl (feq hun).1 ?_
    show sT p e below s₁ (mkF m 24 #[rv u0, rv u1, iv 0] []) tz
    refine XS.iconst X0.here hx rfl (hb hby own_d8_24) ?_
    exact kz
  obtain ⟨fs, hr, hrun, hended, hW, hsame⟩ := X0.leave (v := some (.int (0 : Int32))) (fun h => by rw [Bd.returns] at h; cases h)
  refine own_of ⟨_, _, ?_, hrun, hended, _, _, rfl, ?_, ⟨_, rfl⟩, hW, hsame.mono (by decide) (by decide)⟩
  · show sT p e below s₁ (mkF m 25 #[rv u0, rv u1, iv 0] [(.int 0)]) _
    exact own_retN X0 hx (t := .boolean) Bd.returns (by simp) (by first | rfl | (split <;> first | rfl | (split <;> first | rfl | (split <;> rfl)))) (hb hby own_d8_25) hr
  · show Q8n Z u0 u1 k1 k2 y0 y1 z0 z1 h0 n0 _ s₁.heap _
    rw [e0]
    exact ⟨rfl, N0, rfl⟩
theorem own_ef_8o (m : MethodId) (x0 : Addr) (x1 : Addr) : entryFrame m #[(.ref x0), (.ref x1)] 3 = mkF m 0 #[rv x0, rv x1, .unset] [] := by first | (simp [entryFrame, mkF, argsToLocals, Value.category]; done) | rfl
def Q8o (Z : State) (u0 : Addr) (u1 : Addr) (k1 : ClassId) (k2 : ClassId) (y0 : Int32) (y1 : Int32) (z1 : Int32) (h0 : Heap) (n0 : Nat) (v : Option Value) (h : Heap) (L : List Loc) : Prop := v = some (.int (0 : Int32)) ∧ Fr n0 L ∧ h = h0
set_option maxRecDepth 65536 in
set_option maxHeartbeats 40000000 in
theorem rm8o (l : Launch) (Z : State) (a0 : Array Value) (hw : ∀ d ∈ tables_1, d.before a0 Z = true) (ws : List Jvm.Cond) (u0 : Addr) (u1 : Addr) (k1 : ClassId) (k2 : ClassId) (y0 : Int32) (y1 : Int32) (z1 : Int32) (h0 : Heap) (n0 : Nat) (O0 : Old Z n0 h0) (V1 : Arv Z h0 u0 k1 .byte (2 : Int32) [(.int y0), (.int y1)] (.int 0)) (V2 : Arv Z h0 u1 k2 .byte (2 : Int32) [(.int y0), (.int z1)] (.int 0)) (hun : ¬ (y1 = z1)) :
    MetFree l (⟨"java/lang/StringLatin1", "equals", "([B[B)Z"⟩ : MethodName) (head1 (Jvm.Cond.code (⟨"java/lang/StringLatin1", "equals", "([B[B)Z"⟩ : MethodName) jdk_43_method_13_code 3 (some .boolean) :: ws) ({ frames := 0, cells := 0, slots := 0, locals := 0 } : Room)) (fun a U => a = #[(.ref u0), (.ref u1)] ∧ Z.Warmed39 U.vm ∧ U.heap = h0) (fun _ _ _ _ _ => True) (fun _ U o U' => ∃ v L, o = .returned v ∧ Q8o Z u0 u1 k1 k2 y0 y1 z1 h0 n0 v U'.heap L ∧ FrameEnd U o U' L ({ frames := 0, cells := 0, slots := 0, locals := 0 } : Room).cells ({ frames := 0, cells := 0, slots := 0, locals := 0 } : Room).slots) := by
  refine MetFree.of_bodySF (plainFor_of_name own_pn_java_lang_StringLatin1) hisR ?_
  intro p e s m args below meth c s₁ Bd hml0 hP hK
  obtain ⟨rfl, hZ, hh⟩ := hP
  have hx := Bd.exec
  have hby := Bd.bytes
  have hml : c.maxLocals = 3 := hml0
  have hown : s.vm.findClass "java/lang/StringLatin1" = some m.cls := findClass_of_methodNamed Bd.named
  have hnm := (name_of_methodNamed Bd.named Bd.method).1
  have X0 : Stand p l e ({ frames := 0, cells := 0, slots := 0, locals := 0 } : Room) s m #[(.ref u0), (.ref u1)] below meth c s₁ [] 0 0 := Stand.of_body Bd
  have e0 : s₁.heap = h0 := by rw [← hh, Bd.state]; rfl
  have N0 := Fr.nil n0
  change Go p.tables e below _ _
  refine own_on (B := s₁.setTop (mkF m 0 #[rv u0, rv u1, un] [])) (fun tz kz => castTop (own_ef_8o m u0 u1) kz) ?_
  refine own_on (B := s₁.setTop (mkF m 1 #[rv u0, rv u1, un] [(.ref u0)])) (fun tz kz => ?_) ?_
  · show sT p e below s₁ (mkF m 0 #[rv u0, rv u1, un] []) tz
    refine XS.aloadN X0.here hx rfl (hb hby own_d8_0) rfl rfl ?_
    exact kz
  obtain ⟨cl1, Ar1, q1, S1, M1, H1, G1⟩ := id V1
  refine own_on (B := s₁.setTop (mkF m 3 #[rv u0, rv u1, un] [(.ref u1), (.int 2)])) (fun tz kz => ?_) ?_
  · show sT p e below s₁ (mkF m 1 #[rv u0, rv u1, un] [(.ref u0)]) tz
    refine X0.arraylength hx (by rw [e0]; exact Ar1.1) (State.isArrayOf_alike hZ.alike Ar1.2.1) (g := (mkF m 1 #[rv u0, rv u1, un] [(.ref u0)])) rfl rfl (hb hby own_d8_1) _ ?_
    rw [len_of S1 M1]
    show sT p e below s₁ (mkF m 2 #[rv u0, rv u1, un] [(.int 2)]) tz
    refine XS.aloadN X0.here hx rfl (hb hby own_d8_2) rfl rfl ?_
    exact kz
  obtain ⟨cl2, Ar2, q2, S2, M2, H2, G2⟩ := id V2
  refine own_on (B := s₁.setTop (mkF m 11 #[rv u0, rv u1, iv 0] [(.ref u0), (.int 0)])) (fun tz kz => ?_) ?_
  · show sT p e below s₁ (mkF m 3 #[rv u0, rv u1, un] [(.ref u1), (.int 2)]) tz
    refine X0.arraylength hx (by rw [e0]; exact Ar2.1) (State.isArrayOf_alike hZ.alike Ar2.2.1) (g := (mkF m 3 #[rv u0, rv u1, un] [(.ref u1), (.int 2)])) rfl rfl (hb hby own_d8_3) _ ?_
    rw [len_of S2 M2]
    show sT p e below s₁ (mkF m 4 #[rv u0, rv u1, un] [(.int 2), (.int 2)]) tz
    refine XS.icmpNo X0.here hx rfl (hb hby own_d8_4) rfl (teq rfl).2 ?_
    show sT p e below s₁ (mkF m 7 #[rv u0, rv u1, un] []) tz
    refine XS.iconst X0.here hx rfl (hb hby own_d8_7) ?_
    show sT p e below s₁ (mkF m 8 #[rv u0, rv u1, un] [(.int 0)]) tz
    refine XS.istoreN X0.here hx rfl (hb hby own_d8_8) rfl (l' := #[rv u0, rv u1, iv 0]) rfl ?_
    show sT p e below s₁ (mkF m 9 #[rv u0, rv u1, iv 0] []) tz
    refine XS.iloadN X0.here hx rfl (hb hby own_d8_9) rfl ?_
    show sT p e below s₁ (mkF m 10 #[rv u0, rv u1, iv 0] [(.int 0)]) tz
    refine XS.aloadN X0.here hx rfl (hb hby own_d8_10) rfl rfl ?_
    exact kz
  obtain ⟨cl3, Ar3, q3, S3, M3, H3, G3⟩ := id V1
  refine own_on (B := s₁.setTop (mkF m 17 #[rv u0, rv u1, iv 0] [(.int 0), (.ref u0)])) (fun tz kz => ?_) ?_
  · show sT p e below s₁ (mkF m 11 #[rv u0, rv u1, iv 0] [(.ref u0), (.int 0)]) tz
    refine X0.arraylength hx (by rw [e0]; exact Ar3.1) (State.isArrayOf_alike hZ.alike Ar3.2.1) (g := (mkF m 11 #[rv u0, rv u1, iv 0] [(.ref u0), (.int 0)])) rfl rfl (hb hby own_d8_11) _ ?_
    rw [len_of S3 M3]
    show sT p e below s₁ (mkF m 12 #[rv u0, rv u1, iv 0] [(.int 2), (.int 0)]) tz
    refine XS.icmpNo X0.here hx rfl (hb hby own_d8_12) rfl (tlt (by decide : (0 : Int32) < (2 : Int32))).2.1 ?_
    show sT p e below s₁ (mkF m 15 #[rv u0, rv u1, iv 0] []) tz
    refine XS.aloadN X0.here hx rfl (hb hby own_d8_15) rfl rfl ?_
    show sT p e below s₁ (mkF m 16 #[rv u0, rv u1, iv 0] [(.ref u0)]) tz
    refine XS.iloadN X0.here hx rfl (hb hby own_d8_16) rfl ?_
    exact kz
  obtain ⟨cl4, Ar4, q4, S4, M4, H4, G4⟩ := id V1
  have hin5 : ¬ ((0 : Int32) < 0 ∨ cl4.slots.size ≤ ((0 : Int32)).toNatClampNeg) := inb_of S4 ⟨by decide, by decide⟩
  have hat5 : cl4.slots[((0 : Int32)).toNatClampNeg]? = some (.int y0) := Has.at H4 hin5 rfl
  refine own_on (B := s₁.setTop (mkF m 20 #[rv u0, rv u1, iv 0] [(.int 0), (.ref u1), (.int y0)])) (fun tz kz => ?_) ?_
  · show sT p e below s₁ (mkF m 17 #[rv u0, rv u1, iv 0] [(.int 0), (.ref u0)]) tz
    refine X0.baloadBytes hx (j := (0 : Int32)) (v := (.int y0)) (by rw [e0]; exact Ar4.1) (State.isArrayOf_alike hZ.alike Ar4.2.1) Ar4.2.2 hin5 hat5 (g := (mkF m 17 #[rv u0, rv u1, iv 0] [(.int 0), (.ref u0)])) rfl rfl (hb hby own_d8_17) _ ?_
    show sT p e below s₁ (mkF m 18 #[rv u0, rv u1, iv 0] [(.int y0)]) tz
    refine XS.aloadN X0.here hx rfl (hb hby own_d8_18) rfl rfl ?_
    show sT p e below s₁ (mkF m 19 #[rv u0, rv u1, iv 0] [(.ref u1), (.int y0)]) tz
    refine XS.iloadN X0.here hx rfl (hb hby own_d8_19) rfl ?_
    exact kz
  obtain ⟨cl6, Ar6, q6, S6, M6, H6, G6⟩ := id V2
  have hin7 : ¬ ((0 : Int32) < 0 ∨ cl6.slots.size ≤ ((0 : Int32)).toNatClampNeg) := inb_of S6 ⟨by decide, by decide⟩
  have hat7 : cl6.slots[((0 : Int32)).toNatClampNeg]? = some (.int y0) := Has.at H6 hin7 rfl
  refine own_on (B := s₁.setTop (mkF m 11 #[rv u0, rv u1, iv 1] [(.ref u0), (.int 1)])) (fun tz kz => ?_) ?_
  · show sT p e below s₁ (mkF m 20 #[rv u0, rv u1, iv 0] [(.int 0), (.ref u1), (.int y0)]) tz
    refine X0.baloadBytes hx (j := (0 : Int32)) (v := (.int y0)) (by rw [e0]; exact Ar6.1) (State.isArrayOf_alike hZ.alike Ar6.2.1) Ar6.2.2 hin7 hat7 (g := (mkF m 20 #[rv u0, rv u1, iv 0] [(.int 0), (.ref u1), (.int y0)])) rfl rfl (hb hby own_d8_20) _ ?_
    show sT p e below s₁ (mkF m 21 #[rv u0, rv u1, iv 0] [(.int y0), (.int y0)]) tz
    refine XS.icmpYes X0.here hx rfl (pc0 := 21) (pc' := 26) rfl (hb hby own_d8_21) rfl (teq rfl).1 (by decide) (by decide) ?_
    show sT p e below s₁ (mkF m 26 #[rv u0, rv u1, iv 0] []) tz
    refine XS.iinc X0.here hx rfl (hb hby own_d8_26) rfl (l' := #[rv u0, rv u1, iv 1]) rfl ?_
    show sT p e below s₁ (mkF m 29 #[rv u0, rv u1, iv 1] []) tz
    refine XS.goto X0.here hx rfl (pc0 := 29) (pc' := 9) rfl (hb hby own_d8_29) (by decide) (by decide) ?_
    show sT p e below s₁ (mkF m 9 #[rv u0, rv u1, iv 1] []) tz
    refine XS.iloadN X0.here hx rfl (hb hby own_d8_9) rfl ?_
    show sT p e below s₁ (mkF m 10 #[rv u0, rv u1, iv 1] [(.int 1)]) tz
    refine XS.aloadN X0.here hx rfl (hb hby own_d8_10) rfl rfl ?_
    exact kz
  obtain ⟨cl8, Ar8, q8, S8, M8, H8, G8⟩ := id V1
  refine own_on (B := s₁.setTop (mkF m 17 #[rv u0, rv u1, iv 1] [(.int 1), (.ref u0)])) (fun tz kz => ?_) ?_
  · show sT p e below s₁ (mkF m 11 #[rv u0, rv u1, iv 1] [(.ref u0), (.int 1)]) tz
    refine X0.arraylength hx (by rw [e0]; exact Ar8.1) (State.isArrayOf_alike hZ.alike Ar8.2.1) (g := (mkF m 11 #[rv u0, rv u1, iv 1] [(.ref u0), (.int 1)])) rfl rfl (hb hby own_d8_11) _ ?_
    rw [len_of S8 M8]
    show sT p e below s₁ (mkF m 12 #[rv u0, rv u1, iv 1] [(.int 2), (.int 1)]) tz
    refine XS.icmpNo X0.here hx rfl (hb hby own_d8_12) rfl (tlt (by decide : (1 : Int32) < (2 : Int32))).2.1 ?_
    show sT p e below s₁ (mkF m 15 #[rv u0, rv u1, iv 1] []) tz
    refine XS.aloadN X0.here hx rfl (hb hby own_d8_15) rfl rfl ?_
    show sT p e below s₁ (mkF m 16 #[rv u0, rv u1, iv 1] [(.ref u0)]) tz
    refine XS.iloadN X0.here hx rfl (hb hby own_d8_16) rfl ?_
    exact kz
  obtain ⟨cl9, Ar9, q9, S9, M9, H9, G9⟩ := id V1
  have hin10 : ¬ ((1 : Int32) < 0 ∨ cl9.slots.size ≤ ((1 : Int32)).toNatClampNeg) := inb_of S9 ⟨by decide, by decide⟩
  have hat10 : cl9.slots[((1 : Int32)).toNatClampNeg]? = some (.int y1) := Has.at H9 hin10 rfl
  refine own_on (B := s₁.setTop (mkF m 20 #[rv u0, rv u1, iv 1] [(.int 1), (.ref u1), (.int y1)])) (fun tz kz => ?_) ?_
  · show sT p e below s₁ (mkF m 17 #[rv u0, rv u1, iv 1] [(.int 1), (.ref u0)]) tz
    refine X0.baloadBytes hx (j := (1 : Int32)) (v := (.int y1)) (by rw [e0]; exact Ar9.1) (State.isArrayOf_alike hZ.alike Ar9.2.1) Ar9.2.2 hin10 hat10 (g := (mkF m 17 #[rv u0, rv u1, iv 1] [(.int 1), (.ref u0)])) rfl rfl (hb hby own_d8_17) _ ?_
    show sT p e below s₁ (mkF m 18 #[rv u0, rv u1, iv 1] [(.int y1)]) tz
    refine XS.aloadN X0.here hx rfl (hb hby own_d8_18) rfl rfl ?_
    show sT p e below s₁ (mkF m 19 #[rv u0, rv u1, iv 1] [(.ref u1), (.int y1)]) tz
    refine XS.iloadN X0.here hx rfl (hb hby own_d8_19) rfl ?_
    exact kz
  obtain ⟨cl11, Ar11, q11, S11, M11, H11, G11⟩ := id V2
  have hin12 : ¬ ((1 : Int32) < 0 ∨ cl11.slots.size ≤ ((1 : Int32)).toNatClampNeg) := inb_of S11 ⟨by decide, by decide⟩
  have hat12 : cl11.slots[((1 : Int32)).toNatClampNeg]? = some (.int z1) := Has.at H11 hin12 rfl
  refine own_on (B := s₁.setTop (mkF m 25 #[rv u0, rv u1, iv 1] [(.int 0)])) (fun tz kz => ?_) ?_
  · show sT p e below s₁ (mkF m 20 #[rv u0, rv u1, iv 1] [(.int 1), (.ref u1), (.int y1)]) tz
    refine X0.baloadBytes hx (j := (1 : Int32)) (v := (.int z1)) (by rw [e0]; exact Ar11.1) (State.isArrayOf_alike hZ.alike Ar11.2.1) Ar11.2.2 hin12 hat12 (g := (mkF m 20 #[rv u0, rv u1, iv 1] [(.int 1), (.ref u1), (.int y1)])) rfl rfl (hb hby own_d8_20) _ ?_
    show sT p e below s₁ (mkF m 21 #[rv u0, rv u1, iv 1] [(.int z1), (.int y1)]) tz
    refine XS.icmpNo X0.here hx rfl (hb hby own_d8_21) rfl (feq hun).1 ?_
    show sT p e below s₁ (mkF m 24 #[rv u0, rv u1, iv 1] []) tz
    refine XS.iconst X0.here hx rfl (hb hby own_d8_24) ?_
    exact kz
  obtain ⟨fs, hr, hrun, hended, hW, hsame⟩ := X0.leave (v := some (.int (0 : Int32))) (fun h => by rw [Bd.returns] at h; cases h)
  refine own_of ⟨_, _, ?_, hrun, hended, _, _, rfl, ?_, ⟨_, rfl⟩, hW, hsame.mono (by decide) (by decide)⟩
  · show sT p e below s₁ (mkF m 25 #[rv u0, rv u1, iv 1] [(.int 0)]) _
    exact own_retN X0 hx (t := .boolean) Bd.returns (by simp) (by first | rfl | (split <;> first | rfl | (split <;> first | rfl | (split <;> rfl)))) (hb hby own_d8_25) hr
  · show Q8o Z u0 u1 k1 k2 y0 y1 z1 h0 n0 _ s₁.heap _
    rw [e0]
    exact ⟨rfl, N0, rfl⟩
theorem own_ef_8d (m : MethodId) (x0 : Addr) (x1 : Addr) : entryFrame m #[(.ref x0), (.ref x1)] 3 = mkF m 0 #[rv x0, rv x1, .unset] [] := by first | (simp [entryFrame, mkF, argsToLocals, Value.category]; done) | rfl
def Q8d (Z : State) (u0 : Addr) (u1 : Addr) (l1 : Int32) (l2 : Int32) (h0 : Heap) (n0 : Nat) (v : Option Value) (h : Heap) (L : List Loc) : Prop := v = some (.int (0 : Int32)) ∧ Fr n0 L ∧ h = h0
theorem own_d8_34 : decode jdk_43_method_13_code 34 = .ok (.iconst 0, 1) := by decide +kernel
theorem own_d8_35 : decode jdk_43_method_13_code 35 = .ok (.ireturn, 1) := by decide +kernel
set_option maxRecDepth 65536 in
set_option maxHeartbeats 40000000 in
theorem rm8d (l : Launch) (Z : State) (a0 : Array Value) (hw : ∀ d ∈ tables_1, d.before a0 Z = true) (ws : List Jvm.Cond) (u0 : Addr) (u1 : Addr) (l1 : Int32) (l2 : Int32) (h0 : Heap) (n0 : Nat) (O0 : Old Z n0 h0) (V1 : OwnArz Z h0 u0 .byte l1) (V2 : OwnArz Z h0 u1 .byte l2) (hun : ¬ (l1 = l2)) :
    MetFree l (⟨"java/lang/StringLatin1", "equals", "([B[B)Z"⟩ : MethodName) (head1 (Jvm.Cond.code (⟨"java/lang/StringLatin1", "equals", "([B[B)Z"⟩ : MethodName) jdk_43_method_13_code 3 (some .boolean) :: ws) ({ frames := 0, cells := 0, slots := 0, locals := 0 } : Room)) (fun a U => a = #[(.ref u0), (.ref u1)] ∧ Z.Warmed39 U.vm ∧ U.heap = h0) (fun _ _ _ _ _ => True) (fun _ U o U' => ∃ v L, o = .returned v ∧ Q8d Z u0 u1 l1 l2 h0 n0 v U'.heap L ∧ FrameEnd U o U' L ({ frames := 0, cells := 0, slots := 0, locals := 0 } : Room).cells ({ frames := 0, cells := 0, slots := 0, locals := 0 } : Room).slots) := by
  refine MetFree.of_bodySF (plainFor_of_name own_pn_java_lang_StringLatin1) hisR ?_
  intro p e s m args below meth c s₁ Bd hml0 hP hK
  obtain ⟨rfl, hZ, hh⟩ := hP
  have hx := Bd.exec
  have hby := Bd.bytes
  have hml : c.maxLocals = 3 := hml0
  have hown : s.vm.findClass "java/lang/StringLatin1" = some m.cls := findClass_of_methodNamed Bd.named
  have hnm := (name_of_methodNamed Bd.named Bd.method).1
  have X0 : Stand p l e ({ frames := 0, cells := 0, slots := 0, locals := 0 } : Room) s m #[(.ref u0), (.ref u1)] below meth c s₁ [] 0 0 := Stand.of_body Bd
  have e0 : s₁.heap = h0 := by rw [← hh, Bd.state]; rfl
  have N0 := Fr.nil n0
  change Go p.tables e below _ _
  refine own_on (B := s₁.setTop (mkF m 0 #[rv u0, rv u1, un] [])) (fun tz kz => castTop (own_ef_8d m u0 u1) kz) ?_
  refine own_on (B := s₁.setTop (mkF m 1 #[rv u0, rv u1, un] [(.ref u0)])) (fun tz kz => ?_) ?_
  · show sT p e below s₁ (mkF m 0 #[rv u0, rv u1, un] []) tz
    refine XS.aloadN X0.here hx rfl (hb hby own_d8_0) rfl rfl ?_
    exact kz
  obtain ⟨cl1, Ar1, S1, M1⟩ := id V1
  refine own_on (B := s₁.setTop (mkF m 3 #[rv u0, rv u1, un] [(.ref u1), (.int l1)])) (fun tz kz => ?_) ?_
  · show sT p e below s₁ (mkF m 1 #[rv u0, rv u1, un] [(.ref u0)]) tz
    refine X0.arraylength hx (by rw [e0]; exact Ar1.1) (State.isArrayOf_alike hZ.alike Ar1.2.1) (g := (mkF m 1 #[rv u0, rv u1, un] [(.ref u0)])) rfl rfl (hb hby own_d8_1) _ ?_
    rw [len_of S1 M1]
    show sT p e below s₁ (mkF m 2 #[rv u0, rv u1, un] [(.int l1)]) tz
    refine XS.aloadN X0.here hx rfl (hb hby own_d8_2) rfl rfl ?_
    exact kz
  obtain ⟨cl2, Ar2, S2, M2⟩ := id V2
  refine own_on (B := s₁.setTop (mkF m 35 #[rv u0, rv u1, un] [(.int 0)])) (fun tz kz => ?_) ?_
  · show sT p e below s₁ (mkF m 3 #[rv u0, rv u1, un] [(.ref u1), (.int l1)]) tz
    refine X0.arraylength hx (by rw [e0]; exact Ar2.1) (State.isArrayOf_alike hZ.alike Ar2.2.1) (g := (mkF m 3 #[rv u0, rv u1, un] [(.ref u1), (.int l1)])) rfl rfl (hb hby own_d8_3) _ ?_
    rw [len_of S2 M2]
    show sT p e below s₁ (mkF m 4 #[rv u0, rv u1, un] [(.int l2), (.int l1)]) tz
    refine XS.icmpYes X0.here hx rfl (pc0 := 4) (pc' := 34) rfl (hb hby own_d8_4) rfl (feq hun).2 (by decide) (by decide) ?_
    show sT p e below s₁ (mkF m 34 #[rv u0, rv u1, un] []) tz
    refine XS.iconst X0.here hx rfl (hb hby own_d8_34) ?_
    exact kz
  obtain ⟨fs, hr, hrun, hended, hW, hsame⟩ := X0.leave (v := some (.int (0 : Int32))) (fun h => by rw [Bd.returns] at h; cases h)
  refine own_of ⟨_, _, ?_, hrun, hended, _, _, rfl, ?_, ⟨_, rfl⟩, hW, hsame.mono (by decide) (by decide)⟩
  · show sT p e below s₁ (mkF m 35 #[rv u0, rv u1, un] [(.int 0)]) _
    exact own_retN X0 hx (t := .boolean) Bd.returns (by simp) (by first | rfl | (split <;> first | rfl | (split <;> first | rfl | (split <;> rfl)))) (hb hby own_d8_35) hr
  · show Q8d Z u0 u1 l1 l2 h0 n0 _ s₁.heap _
    rw [e0]
    exact ⟨rfl, N0, rfl⟩
theorem own_ef_7z (m : MethodId) (x0 : Addr) (x1 : Addr) : entryFrame m #[(.ref x0), (.ref x1)] 3 = mkF m 0 #[rv x0, rv x1, .unset] [] := by first | (simp [entryFrame, mkF, argsToLocals, Value.category]; done) | rfl
def Q7z (Z : State) (u0 : Addr) (u1 : Addr) (cS : Int32) (b1 : Addr) (b2 : Addr) (k1 : ClassId) (k2 : ClassId) (h0 : Heap) (n0 : Nat) (v : Option Value) (h : Heap) (L : List Loc) : Prop := v = some (.int (1 : Int32)) ∧ Fr n0 L ∧ h = h0
theorem own_d7_0 : decode jdk_42_method_66_code 0 = .ok (.aload_n 0, 1) := by decide +kernel
theorem own_d7_1 : decode jdk_42_method_66_code 1 = .ok (.aload_n 1, 1) := by decide +kernel
theorem own_d7_2 : decode jdk_42_method_66_code 2 = .ok (.if_acmp .ne 5, 3) := by decide +kernel
theorem own_d7_5 : decode jdk_42_method_66_code 5 = .ok (.iconst 1, 1) := by decide +kernel
theorem own_d7_6 : decode jdk_42_method_66_code 6 = .ok (.ireturn, 1) := by decide +kernel
theorem own_d7_7 : decode jdk_42_method_66_code 7 = .ok (.aload_n 1, 1) := by decide +kernel
theorem own_d7_8 : decode jdk_42_method_66_code 8 = .ok (.instanceof 10, 3) := by decide +kernel
theorem own_d7_11 : decode jdk_42_method_66_code 11 = .ok (.ifCond .eq 43, 3) := by decide +kernel
theorem own_d7_14 : decode jdk_42_method_66_code 14 = .ok (.aload_n 1, 1) := by decide +kernel
theorem own_d7_15 : decode jdk_42_method_66_code 15 = .ok (.checkcast 10, 3) := by decide +kernel
theorem own_d7_18 : decode jdk_42_method_66_code 18 = .ok (.astore_n 2, 1) := by decide +kernel
theorem own_d7_19 : decode jdk_42_method_66_code 19 = .ok (.getstatic 38, 3) := by decide +kernel
theorem own_d7_22 : decode jdk_42_method_66_code 22 = .ok (.ifCond .eq 14, 3) := by decide +kernel
theorem own_d7_25 : decode jdk_42_method_66_code 25 = .ok (.aload_n 0, 1) := by decide +kernel
theorem own_d7_26 : decode jdk_42_method_66_code 26 = .ok (.getfield 15, 3) := by decide +kernel
theorem own_d7_29 : decode jdk_42_method_66_code 29 = .ok (.aload_n 2, 1) := by decide +kernel
theorem own_d7_30 : decode jdk_42_method_66_code 30 = .ok (.getfield 15, 3) := by decide +kernel
theorem own_d7_33 : decode jdk_42_method_66_code 33 = .ok (.if_icmp .ne 21, 3) := by decide +kernel
theorem own_d7_36 : decode jdk_42_method_66_code 36 = .ok (.aload_n 0, 1) := by decide +kernel
theorem own_d7_37 : decode jdk_42_method_66_code 37 = .ok (.getfield 9, 3) := by decide +kernel
theorem own_d7_40 : decode jdk_42_method_66_code 40 = .ok (.aload_n 2, 1) := by decide +kernel
theorem own_d7_41 : decode jdk_42_method_66_code 41 = .ok (.getfield 9, 3) := by decide +kernel
theorem own_pd5 : parseMethodDescriptor "([B[B)Z" = some ⟨[(.array .byte), (.array .byte)], some .boolean⟩ := by decide +kernel
theorem own_d7_44 : decode jdk_42_method_66_code 44 = .ok (.invokestatic 541, 3) := by decide +kernel
theorem own_d7_47 : decode jdk_42_method_66_code 47 = .ok (.ifCond .eq 7, 3) := by decide +kernel
theorem own_d7_50 : decode jdk_42_method_66_code 50 = .ok (.iconst 1, 1) := by decide +kernel
theorem own_d7_51 : decode jdk_42_method_66_code 51 = .ok (.goto 4, 3) := by decide +kernel
theorem own_d7_55 : decode jdk_42_method_66_code 55 = .ok (.ireturn, 1) := by decide +kernel
set_option maxRecDepth 65536 in
set_option maxHeartbeats 40000000 in
theorem rm7z (l : Launch) (Z : State) (a0 : Array Value) (hw : ∀ d ∈ tables_1, d.before a0 Z = true) (ws : List Jvm.Cond) (u0 : Addr) (u1 : Addr) (cS : Int32) (b1 : Addr) (b2 : Addr) (k1 : ClassId) (k2 : ClassId) (h0 : Heap) (n0 : Nat) (O0 : Old Z n0 h0) (S_cs : Sta Z Z.heap "java/lang/String" "COMPACT_STRINGS" "Z" (.int cS)) (hcS : ¬ (cS = (0 : Int32))) (Ex0 : Exa Z h0 u0 "java/lang/String") (Fv0 : Fld Z h0 u0 "java/lang/String" "value" "[B" (.ref b1)) (Fc0 : Fld Z h0 u0 "java/lang/String" "coder" "B" (.int (0 : Int32))) (Ex1 : Exa Z h0 u1 "java/lang/String") (Fv1 : Fld Z h0 u1 "java/lang/String" "value" "[B" (.ref b2)) (Fc1 : Fld Z h0 u1 "java/lang/String" "coder" "B" (.int (0 : Int32))) (V1 : Arv Z h0 b1 k1 .byte (0 : Int32) [] (.int 0)) (V2 : Arv Z h0 b2 k2 .byte (0 : Int32) [] (.int 0)) :
    MetFree l (⟨"java/lang/String", "equals", "(Ljava/lang/Object;)Z"⟩ : MethodName) (head1 (Jvm.Cond.code (⟨"java/lang/String", "equals", "(Ljava/lang/Object;)Z"⟩ : MethodName) jdk_42_method_66_code 3 (some .boolean) :: ws) ({ frames := 1, cells := 0, slots := 0, locals := 16 } : Room)) (fun a U => a = #[(.ref u0), (.ref u1)] ∧ Z.Warmed39 U.vm ∧ U.heap = h0) (fun _ _ _ _ _ => True) (fun _ U o U' => ∃ v L, o = .returned v ∧ Q7z Z u0 u1 cS b1 b2 k1 k2 h0 n0 v U'.heap L ∧ FrameEnd U o U' L ({ frames := 1, cells := 0, slots := 0, locals := 16 } : Room).cells ({ frames := 1, cells := 0, slots := 0, locals := 16 } : Room).slots) := by
  refine MetFree.of_bodySF (plainFor_of_name own_pn_java_lang_String) hisR ?_
  intro p e s m args below meth c s₁ Bd hml0 hP hK
  obtain ⟨rfl, hZ, hh⟩ := hP
  have hx := Bd.exec
  have hby := Bd.bytes
  have hml : c.maxLocals = 3 := hml0
  have hown : s.vm.findClass "java/lang/String" = some m.cls := findClass_of_methodNamed Bd.named
  have hnm := (name_of_methodNamed Bd.named Bd.method).1
  have X0 : Stand p l e ({ frames := 1, cells := 0, slots := 0, locals := 16 } : Room) s m #[(.ref u0), (.ref u1)] below meth c s₁ [] 0 0 := Stand.of_body Bd
  have e0 : s₁.heap = h0 := by rw [← hh, Bd.state]; rfl
  have N0 := Fr.nil n0
  change Go p.tables e below _ _
  refine own_on (B := s₁.setTop (mkF m 0 #[rv u0, rv u1, un] [])) (fun tz kz => castTop (own_ef_7z m u0 u1) kz) ?_
  refine own_on (B := s₁.setTop (mkF m 2 #[rv u0, rv u1, un] [(.ref u1), (.ref u0)])) (fun tz kz => ?_) ?_
  · show sT p e below s₁ (mkF m 0 #[rv u0, rv u1, un] []) tz
    refine XS.aloadN X0.here hx rfl (hb hby own_d7_0) rfl rfl ?_
    show sT p e below s₁ (mkF m 1 #[rv u0, rv u1, un] [(.ref u0)]) tz
    refine XS.aloadN X0.here hx rfl (hb hby own_d7_1) rfl rfl ?_
    exact kz
  by_cases hs : u0 = u1
  · refine own_on (B := s₁.setTop (mkF m 6 #[rv u0, rv u1, un] [(.int 1)])) (fun tz kz => ?_) ?_
    · show sT p e below s₁ (mkF m 2 #[rv u0, rv u1, un] [(.ref u1), (.ref u0)]) tz
      refine Jvm.RoadKit.acmp (g := (mkF m 2 #[rv u0, rv u1, un] [(.ref u1), (.ref u0)])) X0 hx rfl rfl rfl (pc0 := 2) (pc' := 5) (same := true) rfl (hb hby own_d7_2) rfl (decide_eq_true (congrArg Value.ref hs)) (by decide) (by decide) ?_
      show sT p e below s₁ (mkF m 5 #[rv u0, rv u1, un] []) tz
      refine XS.iconst X0.here hx rfl (hb hby own_d7_5) ?_
      exact kz
    obtain ⟨fs, hr, hrun, hended, hW, hsame⟩ := X0.leave (v := some (.int (1 : Int32))) (fun h => by rw [Bd.returns] at h; cases h)
    refine own_of ⟨_, _, ?_, hrun, hended, _, _, rfl, ?_, ⟨_, rfl⟩, hW, hsame.mono (by decide) (by decide)⟩
    · show sT p e below s₁ (mkF m 6 #[rv u0, rv u1, un] [(.int 1)]) _
      exact own_retN X0 hx (t := .boolean) Bd.returns (by simp) (by first | rfl | (split <;> first | rfl | (split <;> first | rfl | (split <;> rfl)))) (hb hby own_d7_6) hr
    · show Q7z Z u0 u1 cS b1 b2 k1 k2 h0 n0 _ s₁.heap _
      rw [e0]
      exact ⟨rfl, N0, rfl⟩
  · refine own_on (B := s₁.setTop (mkF m 8 #[rv u0, rv u1, un] [(.ref u1)])) (fun tz kz => ?_) ?_
    · show sT p e below s₁ (mkF m 2 #[rv u0, rv u1, un] [(.ref u1), (.ref u0)]) tz
      refine Jvm.RoadKit.acmp (g := (mkF m 2 #[rv u0, rv u1, un] [(.ref u1), (.ref u0)])) X0 hx rfl rfl rfl (pc0 := 2) (pc' := 7) (same := false) rfl (hb hby own_d7_2) rfl (decide_eq_false fun qq => hs (Value.ref.inj qq)) (by decide) (by decide) ?_
      show sT p e below s₁ (mkF m 7 #[rv u0, rv u1, un] []) tz
      refine XS.aloadN X0.here hx rfl (hb hby own_d7_7) rfl rfl ?_
      exact kz
    obtain ⟨T1, X1, e1, st1⟩ := instY X0 hx hZ hown (own_w hw 38 rfl) e0 (Ins.self Ex1) (g := (mkF m 8 #[rv u0, rv u1, un] [(.ref u1)])) rfl rfl (hb hby own_d7_8)
    refine own_on (B := T1.setTop (mkF m 11 #[rv u0, rv u1, un] [(.int 1)])) (fun tz kz => st1 _ kz) ?_
    refine own_on (B := T1.setTop (mkF m 15 #[rv u0, rv u1, un] [(.ref u1)])) (fun tz kz => ?_) ?_
    · show sT p e below T1 (mkF m 11 #[rv u0, rv u1, un] [(.int 1)]) tz
      refine XS.ifNo X1.here hx rfl (hb hby own_d7_11) rfl ((if0 _ _).trans (feq (by decide : ¬ ((1 : Int32) = (0 : Int32)))).1) ?_
      show sT p e below T1 (mkF m 14 #[rv u0, rv u1, un] []) tz
      refine XS.aloadN X1.here hx rfl (hb hby own_d7_14) rfl rfl ?_
      exact kz
    obtain ⟨T2, X2, e2, st2⟩ := castY X1 hx hZ hown (own_w hw 38 rfl) e1 (Ins.self Ex1) (g := (mkF m 15 #[rv u0, rv u1, un] [(.ref u1)])) rfl rfl (hb hby own_d7_15)
    refine own_on (B := T2.setTop (mkF m 18 #[rv u0, rv u1, un] [(.ref u1)])) (fun tz kz => st2 _ kz) ?_
    refine own_on (B := T2.setTop (mkF m 19 #[rv u0, rv u1, rv u1] [])) (fun tz kz => ?_) ?_
    · show sT p e below T2 (mkF m 18 #[rv u0, rv u1, un] [(.ref u1)]) tz
      refine XS.astoreN X2.here hx rfl (hb hby own_d7_18) rfl rfl (l' := #[rv u0, rv u1, rv u1]) rfl ?_
      exact kz
    obtain ⟨T3, X3, e3, st3⟩ := getS2 X2 hx hZ hown (host := "") (Or.inl (own_w hw 39 rfl)) Via.refl e2 (S_cs.ext O0.2) (g := (mkF m 19 #[rv u0, rv u1, rv u1] [])) rfl (hb hby own_d7_19)
    refine own_on (B := T3.setTop (mkF m 22 #[rv u0, rv u1, rv u1] [(.int cS)])) (fun tz kz => st3 _ kz) ?_
    refine own_on (B := T3.setTop (mkF m 26 #[rv u0, rv u1, rv u1] [(.ref u0)])) (fun tz kz => ?_) ?_
    · show sT p e below T3 (mkF m 22 #[rv u0, rv u1, rv u1] [(.int cS)]) tz
      refine XS.ifNo X3.here hx rfl (hb hby own_d7_22) rfl ((if0 _ _).trans (feq hcS).1) ?_
      show sT p e below T3 (mkF m 25 #[rv u0, rv u1, rv u1] []) tz
      refine XS.aloadN X3.here hx rfl (hb hby own_d7_25) rfl rfl ?_
      exact kz
    obtain ⟨T4, X4, e4, st4⟩ := getF X3 hx hZ hown (host := "") (Or.inl (own_w hw 28 rfl)) Via.refl e3 Fc0 (g := (mkF m 26 #[rv u0, rv u1, rv u1] [(.ref u0)])) rfl rfl (hb hby own_d7_26)
    refine own_on (B := T4.setTop (mkF m 29 #[rv u0, rv u1, rv u1] [(.int 0)])) (fun tz kz => st4 _ kz) ?_
    refine own_on (B := T4.setTop (mkF m 30 #[rv u0, rv u1, rv u1] [(.ref u1), (.int 0)])) (fun tz kz => ?_) ?_
    · show sT p e below T4 (mkF m 29 #[rv u0, rv u1, rv u1] [(.int 0)]) tz
      refine XS.aloadN X4.here hx rfl (hb hby own_d7_29) rfl rfl ?_
      exact kz
    obtain ⟨T5, X5, e5, st5⟩ := getF X4 hx hZ hown (host := "") (Or.inl (own_w hw 28 rfl)) Via.refl e4 Fc1 (g := (mkF m 30 #[rv u0, rv u1, rv u1] [(.ref u1), (.int 0)])) rfl rfl (hb hby own_d7_30)
    refine own_on (B := T5.setTop (mkF m 33 #[rv u0, rv u1, rv u1] [(.int 0), (.int 0)])) (fun tz kz => st5 _ kz) ?_
    refine own_on (B := T5.setTop (mkF m 37 #[rv u0, rv u1, rv u1] [(.ref u0)])) (fun tz kz => ?_) ?_
    · show sT p e below T5 (mkF m 33 #[rv u0, rv u1, rv u1] [(.int 0), (.int 0)]) tz
      refine XS.icmpNo X5.here hx rfl (hb hby own_d7_33) rfl (teq rfl).2 ?_
      show sT p e below T5 (mkF m 36 #[rv u0, rv u1, rv u1] []) tz
      refine XS.aloadN X5.here hx rfl (hb hby own_d7_36) rfl rfl ?_
      exact kz
    obtain ⟨T6, X6, e6, st6⟩ := getF X5 hx hZ hown (host := "") (Or.inl (own_w hw 27 rfl)) Via.refl e5 Fv0 (g := (mkF m 37 #[rv u0, rv u1, rv u1] [(.ref u0)])) rfl rfl (hb hby own_d7_37)
    refine own_on (B := T6.setTop (mkF m 40 #[rv u0, rv u1, rv u1] [(.ref b1)])) (fun tz kz => st6 _ kz) ?_
    refine own_on (B := T6.setTop (mkF m 41 #[rv u0, rv u1, rv u1] [(.ref u1), (.ref b1)])) (fun tz kz => ?_) ?_
    · show sT p e below T6 (mkF m 40 #[rv u0, rv u1, rv u1] [(.ref b1)]) tz
      refine XS.aloadN X6.here hx rfl (hb hby own_d7_40) rfl rfl ?_
      exact kz
    obtain ⟨T7, X7, e7, st7⟩ := getF X6 hx hZ hown (host := "") (Or.inl (own_w hw 27 rfl)) Via.refl e6 Fv1 (g := (mkF m 41 #[rv u0, rv u1, rv u1] [(.ref u1), (.ref b1)])) rfl rfl (hb hby own_d7_41)
    refine own_on (B := T7.setTop (mkF m 44 #[rv u0, rv u1, rv u1] [(.ref b2), (.ref b1)])) (fun tz kz => st7 _ kz) ?_
    obtain ⟨_, _, ⟨T8, L8, k8, n8⟩, -, X8, ⟨Lc8, hQ8, l8, y8, z8⟩, st8⟩ := Jvm.LawKit.callS X7 hx (y := (⟨"java/lang/StringLatin1", "equals", "([B[B)Z"⟩ : MethodName)) hown (mvT hZ (own_w hw 40 rfl)) (mvT hZ (own_w hw 41 rfl)) (mvT hZ (own_w hw 42 rfl)) (mvT hZ (own_w hw 43 rfl)) (by decide) (backOf (W := 0) (rm8z l Z a0 hw [] b1 b2 k1 k2 h0 n0 O0 V1 V2) hZ (own_w hw 43 rfl) (own_w hw 42 rfl) (by decide) (by decide)) (g := (mkF m 44 #[rv u0, rv u1, rv u1] [(.ref b2), (.ref b1)])) rfl (by rw [hml]; rfl) (argsL := [(.ref b1), (.ref b2)]) (rest := []) (lenOf own_pd5 rfl) rfl (by show 2 * 0 + _ ≤ _; exact Nat.le_of_eq rfl) (hb hby own_d7_44) (fun _ _ => ⟨rfl, e7, (by decide : 0 + 0 ≤ _), (by decide : 0 + 0 ≤ _)⟩)
    dsimp only [Pt.U, Pt.locs, Pt.cells, Pt.slots] at X8 l8 y8 z8 st8 hQ8
    subst l8 y8 z8
    obtain ⟨rfl, Nq8, e8⟩ := hQ8
    have N8 := Fr.app N0 Nq8
    refine own_on (B := T8.setTop (mkF m 47 #[rv u0, rv u1, rv u1] [(.int 1)])) (fun tz kz => st8 _ kz) ?_
    refine own_on (B := T8.setTop (mkF m 55 #[rv u0, rv u1, rv u1] [(.int 1)])) (fun tz kz => ?_) ?_
    · show sT p e below T8 (mkF m 47 #[rv u0, rv u1, rv u1] [(.int 1)]) tz
      refine XS.ifNo X8.here hx rfl (hb hby own_d7_47) rfl ((if0 _ _).trans (feq (by decide : ¬ ((1 : Int32) = (0 : Int32)))).1) ?_
      show sT p e below T8 (mkF m 50 #[rv u0, rv u1, rv u1] []) tz
      refine XS.iconst X8.here hx rfl (hb hby own_d7_50) ?_
      show sT p e below T8 (mkF m 51 #[rv u0, rv u1, rv u1] [(.int 1)]) tz
      refine XS.goto X8.here hx rfl (pc0 := 51) (pc' := 55) rfl (hb hby own_d7_51) (by decide) (by decide) ?_
      exact kz
    obtain ⟨fs, hr, hrun, hended, hW, hsame⟩ := X8.leave (v := some (.int (1 : Int32))) (fun h => by rw [Bd.returns] at h; cases h)
    refine own_of ⟨_, _, ?_, hrun, hended, _, _, rfl, ?_, ⟨_, rfl⟩, hW, hsame.mono (by decide) (by decide)⟩
    · show sT p e below T8 (mkF m 55 #[rv u0, rv u1, rv u1] [(.int 1)]) _
      exact own_retN X8 hx (t := .boolean) Bd.returns (by simp) (by first | rfl | (split <;> first | rfl | (split <;> first | rfl | (split <;> rfl)))) (hb hby own_d7_55) hr
    · show Q7z Z u0 u1 cS b1 b2 k1 k2 h0 n0 _ T8.heap _
      rw [e8]
      exact ⟨rfl, N8, rfl⟩
theorem own_ef_7a (m : MethodId) (x0 : Addr) (x1 : Addr) : entryFrame m #[(.ref x0), (.ref x1)] 3 = mkF m 0 #[rv x0, rv x1, .unset] [] := by first | (simp [entryFrame, mkF, argsToLocals, Value.category]; done) | rfl
def Q7a (Z : State) (u0 : Addr) (u1 : Addr) (cS : Int32) (b1 : Addr) (b2 : Addr) (k1 : ClassId) (k2 : ClassId) (y0 : Int32) (h0 : Heap) (n0 : Nat) (v : Option Value) (h : Heap) (L : List Loc) : Prop := v = some (.int (1 : Int32)) ∧ Fr n0 L ∧ h = h0
set_option maxRecDepth 65536 in
set_option maxHeartbeats 40000000 in
theorem rm7a (l : Launch) (Z : State) (a0 : Array Value) (hw : ∀ d ∈ tables_1, d.before a0 Z = true) (ws : List Jvm.Cond) (u0 : Addr) (u1 : Addr) (cS : Int32) (b1 : Addr) (b2 : Addr) (k1 : ClassId) (k2 : ClassId) (y0 : Int32) (h0 : Heap) (n0 : Nat) (O0 : Old Z n0 h0) (S_cs : Sta Z Z.heap "java/lang/String" "COMPACT_STRINGS" "Z" (.int cS)) (hcS : ¬ (cS = (0 : Int32))) (Ex0 : Exa Z h0 u0 "java/lang/String") (Fv0 : Fld Z h0 u0 "java/lang/String" "value" "[B" (.ref b1)) (Fc0 : Fld Z h0 u0 "java/lang/String" "coder" "B" (.int (0 : Int32))) (Ex1 : Exa Z h0 u1 "java/lang/String") (Fv1 : Fld Z h0 u1 "java/lang/String" "value" "[B" (.ref b2)) (Fc1 : Fld Z h0 u1 "java/lang/String" "coder" "B" (.int (0 : Int32))) (V1 : Arv Z h0 b1 k1 .byte (1 : Int32) [(.int y0)] (.int 0)) (V2 : Arv Z h0 b2 k2 .byte (1 : Int32) [(.int y0)] (.int 0)) :
    MetFree l (⟨"java/lang/String", "equals", "(Ljava/lang/Object;)Z"⟩ : MethodName) (head1 (Jvm.Cond.code (⟨"java/lang/String", "equals", "(Ljava/lang/Object;)Z"⟩ : MethodName) jdk_42_method_66_code 3 (some .boolean) :: ws) ({ frames := 1, cells := 0, slots := 0, locals := 16 } : Room)) (fun a U => a = #[(.ref u0), (.ref u1)] ∧ Z.Warmed39 U.vm ∧ U.heap = h0) (fun _ _ _ _ _ => True) (fun _ U o U' => ∃ v L, o = .returned v ∧ Q7a Z u0 u1 cS b1 b2 k1 k2 y0 h0 n0 v U'.heap L ∧ FrameEnd U o U' L ({ frames := 1, cells := 0, slots := 0, locals := 16 } : Room).cells ({ frames := 1, cells := 0, slots := 0, locals := 16 } : Room).slots) := by
  refine MetFree.of_bodySF (plainFor_of_name own_pn_java_lang_String) hisR ?_
  intro p e s m args below meth c s₁ Bd hml0 hP hK
  obtain ⟨rfl, hZ, hh⟩ := hP
  have hx := Bd.exec
  have hby := Bd.bytes
  have hml : c.maxLocals = 3 := hml0
  have hown : s.vm.findClass "java/lang/String" = some m.cls := findClass_of_methodNamed Bd.named
  have hnm := (name_of_methodNamed Bd.named Bd.method).1
  have X0 : Stand p l e ({ frames := 1, cells := 0, slots := 0, locals := 16 } : Room) s m #[(.ref u0), (.ref u1)] below meth c s₁ [] 0 0 := Stand.of_body Bd
  have e0 : s₁.heap = h0 := by rw [← hh, Bd.state]; rfl
  have N0 := Fr.nil n0
  change Go p.tables e below _ _
  refine own_on (B := s₁.setTop (mkF m 0 #[rv u0, rv u1, un] [])) (fun tz kz => castTop (own_ef_7a m u0 u1) kz) ?_
  refine own_on (B := s₁.setTop (mkF m 2 #[rv u0, rv u1, un] [(.ref u1), (.ref u0)])) (fun tz kz => ?_) ?_
  · show sT p e below s₁ (mkF m 0 #[rv u0, rv u1, un] []) tz
    refine XS.aloadN X0.here hx rfl (hb hby own_d7_0) rfl rfl ?_
    show sT p e below s₁ (mkF m 1 #[rv u0, rv u1, un] [(.ref u0)]) tz
    refine XS.aloadN X0.here hx rfl (hb hby own_d7_1) rfl rfl ?_
    exact kz
  by_cases hs : u0 = u1
  · refine own_on (B := s₁.setTop (mkF m 6 #[rv u0, rv u1, un] [(.int 1)])) (fun tz kz => ?_) ?_
    · show sT p e below s₁ (mkF m 2 #[rv u0, rv u1, un] [(.ref u1), (.ref u0)]) tz
      refine Jvm.RoadKit.acmp (g := (mkF m 2 #[rv u0, rv u1, un] [(.ref u1), (.ref u0)])) X0 hx rfl rfl rfl (pc0 := 2) (pc' := 5) (same := true) rfl (hb hby own_d7_2) rfl (decide_eq_true (congrArg Value.ref hs)) (by decide) (by decide) ?_
      show sT p e below s₁ (mkF m 5 #[rv u0, rv u1, un] []) tz
      refine XS.iconst X0.here hx rfl (hb hby own_d7_5) ?_
      exact kz
    obtain ⟨fs, hr, hrun, hended, hW, hsame⟩ := X0.leave (v := some (.int (1 : Int32))) (fun h => by rw [Bd.returns] at h; cases h)
    refine own_of ⟨_, _, ?_, hrun, hended, _, _, rfl, ?_, ⟨_, rfl⟩, hW, hsame.mono (by decide) (by decide)⟩
    · show sT p e below s₁ (mkF m 6 #[rv u0, rv u1, un] [(.int 1)]) _
      exact own_retN X0 hx (t := .boolean) Bd.returns (by simp) (by first | rfl | (split <;> first | rfl | (split <;> first | rfl | (split <;> rfl)))) (hb hby own_d7_6) hr
    · show Q7a Z u0 u1 cS b1 b2 k1 k2 y0 h0 n0 _ s₁.heap _
      rw [e0]
      exact ⟨rfl, N0, rfl⟩
  · refine own_on (B := s₁.setTop (mkF m 8 #[rv u0, rv u1, un] [(.ref u1)])) (fun tz kz => ?_) ?_
    · show sT p e below s₁ (mkF m 2 #[rv u0, rv u1, un] [(.ref u1), (.ref u0)]) tz
      refine Jvm.RoadKit.acmp (g := (mkF m 2 #[rv u0, rv u1, un] [(.ref u1), (.ref u0)])) X0 hx rfl rfl rfl (pc0 := 2) (pc' := 7) (same := false) rfl (hb hby own_d7_2) rfl (decide_eq_false fun qq => hs (Value.ref.inj qq)) (by decide) (by decide) ?_
      show sT p e below s₁ (mkF m 7 #[rv u0, rv u1, un] []) tz
      refine XS.aloadN X0.here hx rfl (hb hby own_d7_7) rfl rfl ?_
      exact kz
    obtain ⟨T1, X1, e1, st1⟩ := instY X0 hx hZ hown (own_w hw 38 rfl) e0 (Ins.self Ex1) (g := (mkF m 8 #[rv u0, rv u1, un] [(.ref u1)])) rfl rfl (hb hby own_d7_8)
    refine own_on (B := T1.setTop (mkF m 11 #[rv u0, rv u1, un] [(.int 1)])) (fun tz kz => st1 _ kz) ?_
    refine own_on (B := T1.setTop (mkF m 15 #[rv u0, rv u1, un] [(.ref u1)])) (fun tz kz => ?_) ?_
    · show sT p e below T1 (mkF m 11 #[rv u0, rv u1, un] [(.int 1)]) tz
      refine XS.ifNo X1.here hx rfl (hb hby own_d7_11) rfl ((if0 _ _).trans (feq (by decide : ¬ ((1 : Int32) = (0 : Int32)))).1) ?_
      show sT p e below T1 (mkF m 14 #[rv u0, rv u1, un] []) tz
      refine XS.aloadN X1.here hx rfl (hb hby own_d7_14) rfl rfl ?_
      exact kz
    obtain ⟨T2, X2, e2, st2⟩ := castY X1 hx hZ hown (own_w hw 38 rfl) e1 (Ins.self Ex1) (g := (mkF m 15 #[rv u0, rv u1, un] [(.ref u1)])) rfl rfl (hb hby own_d7_15)
    refine own_on (B := T2.setTop (mkF m 18 #[rv u0, rv u1, un] [(.ref u1)])) (fun tz kz => st2 _ kz) ?_
    refine own_on (B := T2.setTop (mkF m 19 #[rv u0, rv u1, rv u1] [])) (fun tz kz => ?_) ?_
    · show sT p e below T2 (mkF m 18 #[rv u0, rv u1, un] [(.ref u1)]) tz
      refine XS.astoreN X2.here hx rfl (hb hby own_d7_18) rfl rfl (l' := #[rv u0, rv u1, rv u1]) rfl ?_
      exact kz
    obtain ⟨T3, X3, e3, st3⟩ := getS2 X2 hx hZ hown (host := "") (Or.inl (own_w hw 39 rfl)) Via.refl e2 (S_cs.ext O0.2) (g := (mkF m 19 #[rv u0, rv u1, rv u1] [])) rfl (hb hby own_d7_19)
    refine own_on (B := T3.setTop (mkF m 22 #[rv u0, rv u1, rv u1] [(.int cS)])) (fun tz kz => st3 _ kz) ?_
    refine own_on (B := T3.setTop (mkF m 26 #[rv u0, rv u1, rv u1] [(.ref u0)])) (fun tz kz => ?_) ?_
    · show sT p e below T3 (mkF m 22 #[rv u0, rv u1, rv u1] [(.int cS)]) tz
      refine XS.ifNo X3.here hx rfl (hb hby own_d7_22) rfl ((if0 _ _).trans (feq hcS).1) ?_
      show sT p e below T3 (mkF m 25 #[rv u0, rv u1, rv u1] []) tz
      refine XS.aloadN X3.here hx rfl (hb hby own_d7_25) rfl rfl ?_
      exact kz
    obtain ⟨T4, X4, e4, st4⟩ := getF X3 hx hZ hown (host := "") (Or.inl (own_w hw 28 rfl)) Via.refl e3 Fc0 (g := (mkF m 26 #[rv u0, rv u1, rv u1] [(.ref u0)])) rfl rfl (hb hby own_d7_26)
    refine own_on (B := T4.setTop (mkF m 29 #[rv u0, rv u1, rv u1] [(.int 0)])) (fun tz kz => st4 _ kz) ?_
    refine own_on (B := T4.setTop (mkF m 30 #[rv u0, rv u1, rv u1] [(.ref u1), (.int 0)])) (fun tz kz => ?_) ?_
    · show sT p e below T4 (mkF m 29 #[rv u0, rv u1, rv u1] [(.int 0)]) tz
      refine XS.aloadN X4.here hx rfl (hb hby own_d7_29) rfl rfl ?_
      exact kz
    obtain ⟨T5, X5, e5, st5⟩ := getF X4 hx hZ hown (host := "") (Or.inl (own_w hw 28 rfl)) Via.refl e4 Fc1 (g := (mkF m 30 #[rv u0, rv u1, rv u1] [(.ref u1), (.int 0)])) rfl rfl (hb hby own_d7_30)
    refine own_on (B := T5.setTop (mkF m 33 #[rv u0, rv u1, rv u1] [(.int 0), (.int 0)])) (fun tz kz => st5 _ kz) ?_
    refine own_on (B := T5.setTop (mkF m 37 #[rv u0, rv u1, rv u1] [(.ref u0)])) (fun tz kz => ?_) ?_
    · show sT p e below T5 (mkF m 33 #[rv u0, rv u1, rv u1] [(.int 0), (.int 0)]) tz
      refine XS.icmpNo X5.here hx rfl (hb hby own_d7_33) rfl (teq rfl).2 ?_
      show sT p e below T5 (mkF m 36 #[rv u0, rv u1, rv u1] []) tz
      refine XS.aloadN X5.here hx rfl (hb hby own_d7_36) rfl rfl ?_
      exact kz
    obtain ⟨T6, X6, e6, st6⟩ := getF X5 hx hZ hown (host := "") (Or.inl (own_w hw 27 rfl)) Via.refl e5 Fv0 (g := (mkF m 37 #[rv u0, rv u1, rv u1] [(.ref u0)])) rfl rfl (hb hby own_d7_37)
    refine own_on (B := T6.setTop (mkF m 40 #[rv u0, rv u1, rv u1] [(.ref b1)])) (fun tz kz => st6 _ kz) ?_
    refine own_on (B := T6.setTop (mkF m 41 #[rv u0, rv u1, rv u1] [(.ref u1), (.ref b1)])) (fun tz kz => ?_) ?_
    · show sT p e below T6 (mkF m 40 #[rv u0, rv u1, rv u1] [(.ref b1)]) tz
      refine XS.aloadN X6.here hx rfl (hb hby own_d7_40) rfl rfl ?_
      exact kz
    obtain ⟨T7, X7, e7, st7⟩ := getF X6 hx hZ hown (host := "") (Or.inl (own_w hw 27 rfl)) Via.refl e6 Fv1 (g := (mkF m 41 #[rv u0, rv u1, rv u1] [(.ref u1), (.ref b1)])) rfl rfl (hb hby own_d7_41)
    refine own_on (B := T7.setTop (mkF m 44 #[rv u0, rv u1, rv u1] [(.ref b2), (.ref b1)])) (fun tz kz => st7 _ kz) ?_
    obtain ⟨_, _, ⟨T8, L8, k8, n8⟩, -, X8, ⟨Lc8, hQ8, l8, y8, z8⟩, st8⟩ := Jvm.LawKit.callS X7 hx (y := (⟨"java/lang/StringLatin1", "equals", "([B[B)Z"⟩ : MethodName)) hown (mvT hZ (own_w hw 40 rfl)) (mvT hZ (own_w hw 41 rfl)) (mvT hZ (own_w hw 42 rfl)) (mvT hZ (own_w hw 43 rfl)) (by decide) (backOf (W := 0) (rm8a l Z a0 hw [] b1 b2 k1 k2 y0 h0 n0 O0 V1 V2) hZ (own_w hw 43 rfl) (own_w hw 42 rfl) (by decide) (by decide)) (g := (mkF m 44 #[rv u0, rv u1, rv u1] [(.ref b2), (.ref b1)])) rfl (by rw [hml]; rfl) (argsL := [(.ref b1), (.ref b2)]) (rest := []) (lenOf own_pd5 rfl) rfl (by show 2 * 0 + _ ≤ _; exact Nat.le_of_eq rfl) (hb hby own_d7_44) (fun _ _ => ⟨rfl, e7, (by decide : 0 + 0 ≤ _), (by decide : 0 + 0 ≤ _)⟩)
    dsimp only [Pt.U, Pt.locs, Pt.cells, Pt.slots] at X8 l8 y8 z8 st8 hQ8
    subst l8 y8 z8
    obtain ⟨rfl, Nq8, e8⟩ := hQ8
    have N8 := Fr.app N0 Nq8
    refine own_on (B := T8.setTop (mkF m 47 #[rv u0, rv u1, rv u1] [(.int 1)])) (fun tz kz => st8 _ kz) ?_
    refine own_on (B := T8.setTop (mkF m 55 #[rv u0, rv u1, rv u1] [(.int 1)])) (fun tz kz => ?_) ?_
    · show sT p e below T8 (mkF m 47 #[rv u0, rv u1, rv u1] [(.int 1)]) tz
      refine XS.ifNo X8.here hx rfl (hb hby own_d7_47) rfl ((if0 _ _).trans (feq (by decide : ¬ ((1 : Int32) = (0 : Int32)))).1) ?_
      show sT p e below T8 (mkF m 50 #[rv u0, rv u1, rv u1] []) tz
      refine XS.iconst X8.here hx rfl (hb hby own_d7_50) ?_
      show sT p e below T8 (mkF m 51 #[rv u0, rv u1, rv u1] [(.int 1)]) tz
      refine XS.goto X8.here hx rfl (pc0 := 51) (pc' := 55) rfl (hb hby own_d7_51) (by decide) (by decide) ?_
      exact kz
    obtain ⟨fs, hr, hrun, hended, hW, hsame⟩ := X8.leave (v := some (.int (1 : Int32))) (fun h => by rw [Bd.returns] at h; cases h)
    refine own_of ⟨_, _, ?_, hrun, hended, _, _, rfl, ?_, ⟨_, rfl⟩, hW, hsame.mono (by decide) (by decide)⟩
    · show sT p e below T8 (mkF m 55 #[rv u0, rv u1, rv u1] [(.int 1)]) _
      exact own_retN X8 hx (t := .boolean) Bd.returns (by simp) (by first | rfl | (split <;> first | rfl | (split <;> first | rfl | (split <;> rfl)))) (hb hby own_d7_55) hr
    · show Q7a Z u0 u1 cS b1 b2 k1 k2 y0 h0 n0 _ T8.heap _
      rw [e8]
      exact ⟨rfl, N8, rfl⟩
theorem own_ef_7b (m : MethodId) (x0 : Addr) (x1 : Addr) : entryFrame m #[(.ref x0), (.ref x1)] 3 = mkF m 0 #[rv x0, rv x1, .unset] [] := by first | (simp [entryFrame, mkF, argsToLocals, Value.category]; done) | rfl
def Q7b (Z : State) (u0 : Addr) (u1 : Addr) (cS : Int32) (b1 : Addr) (b2 : Addr) (k1 : ClassId) (k2 : ClassId) (y0 : Int32) (y1 : Int32) (h0 : Heap) (n0 : Nat) (v : Option Value) (h : Heap) (L : List Loc) : Prop := v = some (.int (1 : Int32)) ∧ Fr n0 L ∧ h = h0
set_option maxRecDepth 65536 in
set_option maxHeartbeats 40000000 in
theorem rm7b (l : Launch) (Z : State) (a0 : Array Value) (hw : ∀ d ∈ tables_1, d.before a0 Z = true) (ws : List Jvm.Cond) (u0 : Addr) (u1 : Addr) (cS : Int32) (b1 : Addr) (b2 : Addr) (k1 : ClassId) (k2 : ClassId) (y0 : Int32) (y1 : Int32) (h0 : Heap) (n0 : Nat) (O0 : Old Z n0 h0) (S_cs : Sta Z Z.heap "java/lang/String" "COMPACT_STRINGS" "Z" (.int cS)) (hcS : ¬ (cS = (0 : Int32))) (Ex0 : Exa Z h0 u0 "java/lang/String") (Fv0 : Fld Z h0 u0 "java/lang/String" "value" "[B" (.ref b1)) (Fc0 : Fld Z h0 u0 "java/lang/String" "coder" "B" (.int (0 : Int32))) (Ex1 : Exa Z h0 u1 "java/lang/String") (Fv1 : Fld Z h0 u1 "java/lang/String" "value" "[B" (.ref b2)) (Fc1 : Fld Z h0 u1 "java/lang/String" "coder" "B" (.int (0 : Int32))) (V1 : Arv Z h0 b1 k1 .byte (2 : Int32) [(.int y0), (.int y1)] (.int 0)) (V2 : Arv Z h0 b2 k2 .byte (2 : Int32) [(.int y0), (.int y1)] (.int 0)) :
    MetFree l (⟨"java/lang/String", "equals", "(Ljava/lang/Object;)Z"⟩ : MethodName) (head1 (Jvm.Cond.code (⟨"java/lang/String", "equals", "(Ljava/lang/Object;)Z"⟩ : MethodName) jdk_42_method_66_code 3 (some .boolean) :: ws) ({ frames := 1, cells := 0, slots := 0, locals := 16 } : Room)) (fun a U => a = #[(.ref u0), (.ref u1)] ∧ Z.Warmed39 U.vm ∧ U.heap = h0) (fun _ _ _ _ _ => True) (fun _ U o U' => ∃ v L, o = .returned v ∧ Q7b Z u0 u1 cS b1 b2 k1 k2 y0 y1 h0 n0 v U'.heap L ∧ FrameEnd U o U' L ({ frames := 1, cells := 0, slots := 0, locals := 16 } : Room).cells ({ frames := 1, cells := 0, slots := 0, locals := 16 } : Room).slots) := by
  refine MetFree.of_bodySF (plainFor_of_name own_pn_java_lang_String) hisR ?_
  intro p e s m args below meth c s₁ Bd hml0 hP hK
  obtain ⟨rfl, hZ, hh⟩ := hP
  have hx := Bd.exec
  have hby := Bd.bytes
  have hml : c.maxLocals = 3 := hml0
  have hown : s.vm.findClass "java/lang/String" = some m.cls := findClass_of_methodNamed Bd.named
  have hnm := (name_of_methodNamed Bd.named Bd.method).1
  have X0 : Stand p l e ({ frames := 1, cells := 0, slots := 0, locals := 16 } : Room) s m #[(.ref u0), (.ref u1)] below meth c s₁ [] 0 0 := Stand.of_body Bd
  have e0 : s₁.heap = h0 := by rw [← hh, Bd.state]; rfl
  have N0 := Fr.nil n0
  change Go p.tables e below _ _
  refine own_on (B := s₁.setTop (mkF m 0 #[rv u0, rv u1, un] [])) (fun tz kz => castTop (own_ef_7b m u0 u1) kz) ?_
  refine own_on (B := s₁.setTop (mkF m 2 #[rv u0, rv u1, un] [(.ref u1), (.ref u0)])) (fun tz kz => ?_) ?_
  · show sT p e below s₁ (mkF m 0 #[rv u0, rv u1, un] []) tz
    refine XS.aloadN X0.here hx rfl (hb hby own_d7_0) rfl rfl ?_
    show sT p e below s₁ (mkF m 1 #[rv u0, rv u1, un] [(.ref u0)]) tz
    refine XS.aloadN X0.here hx rfl (hb hby own_d7_1) rfl rfl ?_
    exact kz
  by_cases hs : u0 = u1
  · refine own_on (B := s₁.setTop (mkF m 6 #[rv u0, rv u1, un] [(.int 1)])) (fun tz kz => ?_) ?_
    · show sT p e below s₁ (mkF m 2 #[rv u0, rv u1, un] [(.ref u1), (.ref u0)]) tz
      refine Jvm.RoadKit.acmp (g := (mkF m 2 #[rv u0, rv u1, un] [(.ref u1), (.ref u0)])) X0 hx rfl rfl rfl (pc0 := 2) (pc' := 5) (same := true) rfl (hb hby own_d7_2) rfl (decide_eq_true (congrArg Value.ref hs)) (by decide) (by decide) ?_
      show sT p e below s₁ (mkF m 5 #[rv u0, rv u1, un] []) tz
      refine XS.iconst X0.here hx rfl (hb hby own_d7_5) ?_
      exact kz
    obtain ⟨fs, hr, hrun, hended, hW, hsame⟩ := X0.leave (v := some (.int (1 : Int32))) (fun h => by rw [Bd.returns] at h; cases h)
    refine own_of ⟨_, _, ?_, hrun, hended, _, _, rfl, ?_, ⟨_, rfl⟩, hW, hsame.mono (by decide) (by decide)⟩
    · show sT p e below s₁ (mkF m 6 #[rv u0, rv u1, un] [(.int 1)]) _
      exact own_retN X0 hx (t := .boolean) Bd.returns (by simp) (by first | rfl | (split <;> first | rfl | (split <;> first | rfl | (split <;> rfl)))) (hb hby own_d7_6) hr
    · show Q7b Z u0 u1 cS b1 b2 k1 k2 y0 y1 h0 n0 _ s₁.heap _
      rw [e0]
      exact ⟨rfl, N0, rfl⟩
  · refine own_on (B := s₁.setTop (mkF m 8 #[rv u0, rv u1, un] [(.ref u1)])) (fun tz kz => ?_) ?_
    · show sT p e below s₁ (mkF m 2 #[rv u0, rv u1, un] [(.ref u1), (.ref u0)]) tz
      refine Jvm.RoadKit.acmp (g := (mkF m 2 #[rv u0, rv u1, un] [(.ref u1), (.ref u0)])) X0 hx rfl rfl rfl (pc0 := 2) (pc' := 7) (same := false) rfl (hb hby own_d7_2) rfl (decide_eq_false fun qq => hs (Value.ref.inj qq)) (by decide) (by decide) ?_
      show sT p e below s₁ (mkF m 7 #[rv u0, rv u1, un] []) tz
      refine XS.aloadN X0.here hx rfl (hb hby own_d7_7) rfl rfl ?_
      exact kz
    obtain ⟨T1, X1, e1, st1⟩ := instY X0 hx hZ hown (own_w hw 38 rfl) e0 (Ins.self Ex1) (g := (mkF m 8 #[rv u0, rv u1, un] [(.ref u1)])) rfl rfl (hb hby own_d7_8)
    refine own_on (B := T1.setTop (mkF m 11 #[rv u0, rv u1, un] [(.int 1)])) (fun tz kz => st1 _ kz) ?_
    refine own_on (B := T1.setTop (mkF m 15 #[rv u0, rv u1, un] [(.ref u1)])) (fun tz kz => ?_) ?_
    · show sT p e below T1 (mkF m 11 #[rv u0, rv u1, un] [(.int 1)]) tz
      refine XS.ifNo X1.here hx rfl (hb hby own_d7_11) rfl ((if0 _ _).trans (feq (by decide : ¬ ((1 : Int32) = (0 : Int32)))).1) ?_
      show sT p e below T1 (mkF m 14 #[rv u0, rv u1, un] []) tz
      refine XS.aloadN X1.here hx rfl (hb hby own_d7_14) rfl rfl ?_
      exact kz
    obtain ⟨T2, X2, e2, st2⟩ := castY X1 hx hZ hown (own_w hw 38 rfl) e1 (Ins.self Ex1) (g := (mkF m 15 #[rv u0, rv u1, un] [(.ref u1)])) rfl rfl (hb hby own_d7_15)
    refine own_on (B := T2.setTop (mkF m 18 #[rv u0, rv u1, un] [(.ref u1)])) (fun tz kz => st2 _ kz) ?_
    refine own_on (B := T2.setTop (mkF m 19 #[rv u0, rv u1, rv u1] [])) (fun tz kz => ?_) ?_
    · show sT p e below T2 (mkF m 18 #[rv u0, rv u1, un] [(.ref u1)]) tz
      refine XS.astoreN X2.here hx rfl (hb hby own_d7_18) rfl rfl (l' := #[rv u0, rv u1, rv u1]) rfl ?_
      exact kz
    obtain ⟨T3, X3, e3, st3⟩ := getS2 X2 hx hZ hown (host := "") (Or.inl (own_w hw 39 rfl)) Via.refl e2 (S_cs.ext O0.2) (g := (mkF m 19 #[rv u0, rv u1, rv u1] [])) rfl (hb hby own_d7_19)
    refine own_on (B := T3.setTop (mkF m 22 #[rv u0, rv u1, rv u1] [(.int cS)])) (fun tz kz => st3 _ kz) ?_
    refine own_on (B := T3.setTop (mkF m 26 #[rv u0, rv u1, rv u1] [(.ref u0)])) (fun tz kz => ?_) ?_
    · show sT p e below T3 (mkF m 22 #[rv u0, rv u1, rv u1] [(.int cS)]) tz
      refine XS.ifNo X3.here hx rfl (hb hby own_d7_22) rfl ((if0 _ _).trans (feq hcS).1) ?_
      show sT p e below T3 (mkF m 25 #[rv u0, rv u1, rv u1] []) tz
      refine XS.aloadN X3.here hx rfl (hb hby own_d7_25) rfl rfl ?_
      exact kz
    obtain ⟨T4, X4, e4, st4⟩ := getF X3 hx hZ hown (host := "") (Or.inl (own_w hw 28 rfl)) Via.refl e3 Fc0 (g := (mkF m 26 #[rv u0, rv u1, rv u1] [(.ref u0)])) rfl rfl (hb hby own_d7_26)
    refine own_on (B := T4.setTop (mkF m 29 #[rv u0, rv u1, rv u1] [(.int 0)])) (fun tz kz => st4 _ kz) ?_
    refine own_on (B := T4.setTop (mkF m 30 #[rv u0, rv u1, rv u1] [(.ref u1), (.int 0)])) (fun tz kz => ?_) ?_
    · show sT p e below T4 (mkF m 29 #[rv u0, rv u1, rv u1] [(.int 0)]) tz
      refine XS.aloadN X4.here hx rfl (hb hby own_d7_29) rfl rfl ?_
      exact kz
    obtain ⟨T5, X5, e5, st5⟩ := getF X4 hx hZ hown (host := "") (Or.inl (own_w hw 28 rfl)) Via.refl e4 Fc1 (g := (mkF m 30 #[rv u0, rv u1, rv u1] [(.ref u1), (.int 0)])) rfl rfl (hb hby own_d7_30)
    refine own_on (B := T5.setTop (mkF m 33 #[rv u0, rv u1, rv u1] [(.int 0), (.int 0)])) (fun tz kz => st5 _ kz) ?_
    refine own_on (B := T5.setTop (mkF m 37 #[rv u0, rv u1, rv u1] [(.ref u0)])) (fun tz kz => ?_) ?_
    · show sT p e below T5 (mkF m 33 #[rv u0, rv u1, rv u1] [(.int 0), (.int 0)]) tz
      refine XS.icmpNo X5.here hx rfl (hb hby own_d7_33) rfl (teq rfl).2 ?_
      show sT p e below T5 (mkF m 36 #[rv u0, rv u1, rv u1] []) tz
      refine XS.aloadN X5.here hx rfl (hb hby own_d7_36) rfl rfl ?_
      exact kz
    obtain ⟨T6, X6, e6, st6⟩ := getF X5 hx hZ hown (host := "") (Or.inl (own_w hw 27 rfl)) Via.refl e5 Fv0 (g := (mkF m 37 #[rv u0, rv u1, rv u1] [(.ref u0)])) rfl rfl (hb hby own_d7_37)
    refine own_on (B := T6.setTop (mkF m 40 #[rv u0, rv u1, rv u1] [(.ref b1)])) (fun tz kz => st6 _ kz) ?_
    refine own_on (B := T6.setTop (mkF m 41 #[rv u0, rv u1, rv u1] [(.ref u1), (.ref b1)])) (fun tz kz => ?_) ?_
    · show sT p e below T6 (mkF m 40 #[rv u0, rv u1, rv u1] [(.ref b1)]) tz
      refine XS.aloadN X6.here hx rfl (hb hby own_d7_40) rfl rfl ?_
      exact kz
    obtain ⟨T7, X7, e7, st7⟩ := getF X6 hx hZ hown (host := "") (Or.inl (own_w hw 27 rfl)) Via.refl e6 Fv1 (g := (mkF m 41 #[rv u0, rv u1, rv u1] [(.ref u1), (.ref b1)])) rfl rfl (hb hby own_d7_41)
    refine own_on (B := T7.setTop (mkF m 44 #[rv u0, rv u1, rv u1] [(.ref b2), (.ref b1)])) (fun tz kz => st7 _ kz) ?_
    obtain ⟨_, _, ⟨T8, L8, k8, n8⟩, -, X8, ⟨Lc8, hQ8, l8, y8, z8⟩, st8⟩ := Jvm.LawKit.callS X7 hx (y := (⟨"java/lang/StringLatin1", "equals", "([B[B)Z"⟩ : MethodName)) hown (mvT hZ (own_w hw 40 rfl)) (mvT hZ (own_w hw 41 rfl)) (mvT hZ (own_w hw 42 rfl)) (mvT hZ (own_w hw 43 rfl)) (by decide) (backOf (W := 0) (rm8b l Z a0 hw [] b1 b2 k1 k2 y0 y1 h0 n0 O0 V1 V2) hZ (own_w hw 43 rfl) (own_w hw 42 rfl) (by decide) (by decide)) (g := (mkF m 44 #[rv u0, rv u1, rv u1] [(.ref b2), (.ref b1)])) rfl (by rw [hml]; rfl) (argsL := [(.ref b1), (.ref b2)]) (rest := []) (lenOf own_pd5 rfl) rfl (by show 2 * 0 + _ ≤ _; exact Nat.le_of_eq rfl) (hb hby own_d7_44) (fun _ _ => ⟨rfl, e7, (by decide : 0 + 0 ≤ _), (by decide : 0 + 0 ≤ _)⟩)
    dsimp only [Pt.U, Pt.locs, Pt.cells, Pt.slots] at X8 l8 y8 z8 st8 hQ8
    subst l8 y8 z8
    obtain ⟨rfl, Nq8, e8⟩ := hQ8
    have N8 := Fr.app N0 Nq8
    refine own_on (B := T8.setTop (mkF m 47 #[rv u0, rv u1, rv u1] [(.int 1)])) (fun tz kz => st8 _ kz) ?_
    refine own_on (B := T8.setTop (mkF m 55 #[rv u0, rv u1, rv u1] [(.int 1)])) (fun tz kz => ?_) ?_
    · show sT p e below T8 (mkF m 47 #[rv u0, rv u1, rv u1] [(.int 1)]) tz
      refine XS.ifNo X8.here hx rfl (hb hby own_d7_47) rfl ((if0 _ _).trans (feq (by decide : ¬ ((1 : Int32) = (0 : Int32)))).1) ?_
      show sT p e below T8 (mkF m 50 #[rv u0, rv u1, rv u1] []) tz
      refine XS.iconst X8.here hx rfl (hb hby own_d7_50) ?_
      show sT p e below T8 (mkF m 51 #[rv u0, rv u1, rv u1] [(.int 1)]) tz
      refine XS.goto X8.here hx rfl (pc0 := 51) (pc' := 55) rfl (hb hby own_d7_51) (by decide) (by decide) ?_
      exact kz
    obtain ⟨fs, hr, hrun, hended, hW, hsame⟩ := X8.leave (v := some (.int (1 : Int32))) (fun h => by rw [Bd.returns] at h; cases h)
    refine own_of ⟨_, _, ?_, hrun, hended, _, _, rfl, ?_, ⟨_, rfl⟩, hW, hsame.mono (by decide) (by decide)⟩
    · show sT p e below T8 (mkF m 55 #[rv u0, rv u1, rv u1] [(.int 1)]) _
      exact own_retN X8 hx (t := .boolean) Bd.returns (by simp) (by first | rfl | (split <;> first | rfl | (split <;> first | rfl | (split <;> rfl)))) (hb hby own_d7_55) hr
    · show Q7b Z u0 u1 cS b1 b2 k1 k2 y0 y1 h0 n0 _ T8.heap _
      rw [e8]
      exact ⟨rfl, N8, rfl⟩
theorem own_ef_7m (m : MethodId) (x0 : Addr) (x1 : Addr) : entryFrame m #[(.ref x0), (.ref x1)] 3 = mkF m 0 #[rv x0, rv x1, .unset] [] := by first | (simp [entryFrame, mkF, argsToLocals, Value.category]; done) | rfl
def Q7m (Z : State) (u0 : Addr) (u1 : Addr) (cS : Int32) (b1 : Addr) (b2 : Addr) (k1 : ClassId) (k2 : ClassId) (y0 : Int32) (z0 : Int32) (h0 : Heap) (n0 : Nat) (v : Option Value) (h : Heap) (L : List Loc) : Prop := v = some (.int (0 : Int32)) ∧ Fr n0 L ∧ h = h0
theorem own_d7_54 : decode jdk_42_method_66_code 54 = .ok (.iconst 0, 1) := by decide +kernel
set_option maxRecDepth 65536 in
set_option maxHeartbeats 40000000 in
theorem rm7m (l : Launch) (Z : State) (a0 : Array Value) (hw : ∀ d ∈ tables_1, d.before a0 Z = true) (ws : List Jvm.Cond) (u0 : Addr) (u1 : Addr) (cS : Int32) (b1 : Addr) (b2 : Addr) (k1 : ClassId) (k2 : ClassId) (y0 : Int32) (z0 : Int32) (h0 : Heap) (n0 : Nat) (O0 : Old Z n0 h0) (S_cs : Sta Z Z.heap "java/lang/String" "COMPACT_STRINGS" "Z" (.int cS)) (hcS : ¬ (cS = (0 : Int32))) (Ex0 : Exa Z h0 u0 "java/lang/String") (Fv0 : Fld Z h0 u0 "java/lang/String" "value" "[B" (.ref b1)) (Fc0 : Fld Z h0 u0 "java/lang/String" "coder" "B" (.int (0 : Int32))) (Ex1 : Exa Z h0 u1 "java/lang/String") (Fv1 : Fld Z h0 u1 "java/lang/String" "value" "[B" (.ref b2)) (Fc1 : Fld Z h0 u1 "java/lang/String" "coder" "B" (.int (0 : Int32))) (V1 : Arv Z h0 b1 k1 .byte (1 : Int32) [(.int y0)] (.int 0)) (V2 : Arv Z h0 b2 k2 .byte (1 : Int32) [(.int z0)] (.int 0)) (hun : ¬ (y0 = z0)) (hne : ¬ (u0 = u1)) :
    MetFree l (⟨"java/lang/String", "equals", "(Ljava/lang/Object;)Z"⟩ : MethodName) (head1 (Jvm.Cond.code (⟨"java/lang/String", "equals", "(Ljava/lang/Object;)Z"⟩ : MethodName) jdk_42_method_66_code 3 (some .boolean) :: ws) ({ frames := 1, cells := 0, slots := 0, locals := 16 } : Room)) (fun a U => a = #[(.ref u0), (.ref u1)] ∧ Z.Warmed39 U.vm ∧ U.heap = h0) (fun _ _ _ _ _ => True) (fun _ U o U' => ∃ v L, o = .returned v ∧ Q7m Z u0 u1 cS b1 b2 k1 k2 y0 z0 h0 n0 v U'.heap L ∧ FrameEnd U o U' L ({ frames := 1, cells := 0, slots := 0, locals := 16 } : Room).cells ({ frames := 1, cells := 0, slots := 0, locals := 16 } : Room).slots) := by
  refine MetFree.of_bodySF (plainFor_of_name own_pn_java_lang_String) hisR ?_
  intro p e s m args below meth c s₁ Bd hml0 hP hK
  obtain ⟨rfl, hZ, hh⟩ := hP
  have hx := Bd.exec
  have hby := Bd.bytes
  have hml : c.maxLocals = 3 := hml0
  have hown : s.vm.findClass "java/lang/String" = some m.cls := findClass_of_methodNamed Bd.named
  have hnm := (name_of_methodNamed Bd.named Bd.method).1
  have X0 : Stand p l e ({ frames := 1, cells := 0, slots := 0, locals := 16 } : Room) s m #[(.ref u0), (.ref u1)] below meth c s₁ [] 0 0 := Stand.of_body Bd
  have e0 : s₁.heap = h0 := by rw [← hh, Bd.state]; rfl
  have N0 := Fr.nil n0
  change Go p.tables e below _ _
  refine own_on (B := s₁.setTop (mkF m 0 #[rv u0, rv u1, un] [])) (fun tz kz => castTop (own_ef_7m m u0 u1) kz) ?_
  refine own_on (B := s₁.setTop (mkF m 8 #[rv u0, rv u1, un] [(.ref u1)])) (fun tz kz => ?_) ?_
  · show sT p e below s₁ (mkF m 0 #[rv u0, rv u1, un] []) tz
    refine XS.aloadN X0.here hx rfl (hb hby own_d7_0) rfl rfl ?_
    show sT p e below s₁ (mkF m 1 #[rv u0, rv u1, un] [(.ref u0)]) tz
    refine XS.aloadN X0.here hx rfl (hb hby own_d7_1) rfl rfl ?_
    show sT p e below s₁ (mkF m 2 #[rv u0, rv u1, un] [(.ref u1), (.ref u0)]) tz
    refine Jvm.RoadKit.acmp (g := (mkF m 2 #[rv u0, rv u1, un] [(.ref u1), (.ref u0)])) X0 hx rfl rfl rfl (pc0 := 2) (pc' := 7) (same := false) rfl (hb hby own_d7_2) rfl (decide_eq_false fun qq => hne (Value.ref.inj qq)) (by decide) (by decide) ?_
    show sT p e below s₁ (mkF m 7 #[rv u0, rv u1, un] []) tz
    refine XS.aloadN X0.here hx rfl (hb hby own_d7_7) rfl rfl ?_
    exact kz
  obtain ⟨T1, X1, e1, st1⟩ := instY X0 hx hZ hown (own_w hw 38 rfl) e0 (Ins.self Ex1) (g := (mkF m 8 #[rv u0, rv u1, un] [(.ref u1)])) rfl rfl (hb hby own_d7_8)
  refine own_on (B := T1.setTop (mkF m 11 #[rv u0, rv u1, un] [(.int 1)])) (fun tz kz => st1 _ kz) ?_
  refine own_on (B := T1.setTop (mkF m 15 #[rv u0, rv u1, un] [(.ref u1)])) (fun tz kz => ?_) ?_
  · show sT p e below T1 (mkF m 11 #[rv u0, rv u1, un] [(.int 1)]) tz
    refine XS.ifNo X1.here hx rfl (hb hby own_d7_11) rfl ((if0 _ _).trans (feq (by decide : ¬ ((1 : Int32) = (0 : Int32)))).1) ?_
    show sT p e below T1 (mkF m 14 #[rv u0, rv u1, un] []) tz
    refine XS.aloadN X1.here hx rfl (hb hby own_d7_14) rfl rfl ?_
    exact kz
  obtain ⟨T2, X2, e2, st2⟩ := castY X1 hx hZ hown (own_w hw 38 rfl) e1 (Ins.self Ex1) (g := (mkF m 15 #[rv u0, rv u1, un] [(.ref u1)])) rfl rfl (hb hby own_d7_15)
  refine own_on (B := T2.setTop (mkF m 18 #[rv u0, rv u1, un] [(.ref u1)])) (fun tz kz => st2 _ kz) ?_
  refine own_on (B := T2.setTop (mkF m 19 #[rv u0, rv u1, rv u1] [])) (fun tz kz => ?_) ?_
  · show sT p e below T2 (mkF m 18 #[rv u0, rv u1, un] [(.ref u1)]) tz
    refine XS.astoreN X2.here hx rfl (hb hby own_d7_18) rfl rfl (l' := #[rv u0, rv u1, rv u1]) rfl ?_
    exact kz
  obtain ⟨T3, X3, e3, st3⟩ := getS2 X2 hx hZ hown (host := "") (Or.inl (own_w hw 39 rfl)) Via.refl e2 (S_cs.ext O0.2) (g := (mkF m 19 #[rv u0, rv u1, rv u1] [])) rfl (hb hby own_d7_19)
  refine own_on (B := T3.setTop (mkF m 22 #[rv u0, rv u1, rv u1] [(.int cS)])) (fun tz kz => st3 _ kz) ?_
  refine own_on (B := T3.setTop (mkF m 26 #[rv u0, rv u1, rv u1] [(.ref u0)])) (fun tz kz => ?_) ?_
  · show sT p e below T3 (mkF m 22 #[rv u0, rv u1, rv u1] [(.int cS)]) tz
    refine XS.ifNo X3.here hx rfl (hb hby own_d7_22) rfl ((if0 _ _).trans (feq hcS).1) ?_
    show sT p e below T3 (mkF m 25 #[rv u0, rv u1, rv u1] []) tz
    refine XS.aloadN X3.here hx rfl (hb hby own_d7_25) rfl rfl ?_
    exact kz
  obtain ⟨T4, X4, e4, st4⟩ := getF X3 hx hZ hown (host := "") (Or.inl (own_w hw 28 rfl)) Via.refl e3 Fc0 (g := (mkF m 26 #[rv u0, rv u1, rv u1] [(.ref u0)])) rfl rfl (hb hby own_d7_26)
  refine own_on (B := T4.setTop (mkF m 29 #[rv u0, rv u1, rv u1] [(.int 0)])) (fun tz kz => st4 _ kz) ?_
  refine own_on (B := T4.setTop (mkF m 30 #[rv u0, rv u1, rv u1] [(.ref u1), (.int 0)])) (fun tz kz => ?_) ?_
  · show sT p e below T4 (mkF m 29 #[rv u0, rv u1, rv u1] [(.int 0)]) tz
    refine XS.aloadN X4.here hx rfl (hb hby own_d7_29) rfl rfl ?_
    exact kz
  obtain ⟨T5, X5, e5, st5⟩ := getF X4 hx hZ hown (host := "") (Or.inl (own_w hw 28 rfl)) Via.refl e4 Fc1 (g := (mkF m 30 #[rv u0, rv u1, rv u1] [(.ref u1), (.int 0)])) rfl rfl (hb hby own_d7_30)
  refine own_on (B := T5.setTop (mkF m 33 #[rv u0, rv u1, rv u1] [(.int 0), (.int 0)])) (fun tz kz => st5 _ kz) ?_
  refine own_on (B := T5.setTop (mkF m 37 #[rv u0, rv u1, rv u1] [(.ref u0)])) (fun tz kz => ?_) ?_
  · show sT p e below T5 (mkF m 33 #[rv u0, rv u1, rv u1] [(.int 0), (.int 0)]) tz
    refine XS.icmpNo X5.here hx rfl (hb hby own_d7_33) rfl (teq rfl).2 ?_
    show sT p e below T5 (mkF m 36 #[rv u0, rv u1, rv u1] []) tz
    refine XS.aloadN X5.here hx rfl (hb hby own_d7_36) rfl rfl ?_
    exact kz
  obtain ⟨T6, X6, e6, st6⟩ := getF X5 hx hZ hown (host := "") (Or.inl (own_w hw 27 rfl)) Via.refl e5 Fv0 (g := (mkF m 37 #[rv u0, rv u1, rv u1] [(.ref u0)])) rfl rfl (hb hby own_d7_37)
  refine own_on (B := T6.setTop (mkF m 40 #[rv u0, rv u1, rv u1] [(.ref b1)])) (fun tz kz => st6 _ kz) ?_
  refine own_on (B := T6.setTop (mkF m 41 #[rv u0, rv u1, rv u1] [(.ref u1), (.ref b1)])) (fun tz kz => ?_) ?_
  · show sT p e below T6 (mkF m 40 #[rv u0, rv u1, rv u1] [(.ref b1)]) tz
    refine XS.aloadN X6.here hx rfl (hb hby own_d7_40) rfl rfl ?_
    exact kz
  obtain ⟨T7, X7, e7, st7⟩ := getF X6 hx hZ hown (host := "") (Or.inl (own_w hw 27 rfl)) Via.refl e6 Fv1 (g := (mkF m 41 #[rv u0, rv u1, rv u1] [(.ref u1), (.ref b1)])) rfl rfl (hb hby own_d7_41)
  refine own_on (B := T7.setTop (mkF m 44 #[rv u0, rv u1, rv u1] [(.ref b2), (.ref b1)])) (fun tz kz => st7 _ kz) ?_
  obtain ⟨_, _, ⟨T8, L8, k8, n8⟩, -, X8, ⟨Lc8, hQ8, l8, y8, z8⟩, st8⟩ := Jvm.LawKit.callS X7 hx (y := (⟨"java/lang/StringLatin1", "equals", "([B[B)Z"⟩ : MethodName)) hown (mvT hZ (own_w hw 40 rfl)) (mvT hZ (own_w hw 41 rfl)) (mvT hZ (own_w hw 42 rfl)) (mvT hZ (own_w hw 43 rfl)) (by decide) (backOf (W := 0) (rm8m l Z a0 hw [] b1 b2 k1 k2 y0 z0 h0 n0 O0 V1 V2 hun) hZ (own_w hw 43 rfl) (own_w hw 42 rfl) (by decide) (by decide)) (g := (mkF m 44 #[rv u0, rv u1, rv u1] [(.ref b2), (.ref b1)])) rfl (by rw [hml]; rfl) (argsL := [(.ref b1), (.ref b2)]) (rest := []) (lenOf own_pd5 rfl) rfl (by show 2 * 0 + _ ≤ _; exact Nat.le_of_eq rfl) (hb hby own_d7_44) (fun _ _ => ⟨rfl, e7, (by decide : 0 + 0 ≤ _), (by decide : 0 + 0 ≤ _)⟩)
  dsimp only [Pt.U, Pt.locs, Pt.cells, Pt.slots] at X8 l8 y8 z8 st8 hQ8
  subst l8 y8 z8
  obtain ⟨rfl, Nq8, e8⟩ := hQ8
  have N8 := Fr.app N0 Nq8
  refine own_on (B := T8.setTop (mkF m 47 #[rv u0, rv u1, rv u1] [(.int 0)])) (fun tz kz => st8 _ kz) ?_
  refine own_on (B := T8.setTop (mkF m 55 #[rv u0, rv u1, rv u1] [(.int 0)])) (fun tz kz => ?_) ?_
  · show sT p e below T8 (mkF m 47 #[rv u0, rv u1, rv u1] [(.int 0)]) tz
    refine XS.ifYes X8.here hx rfl (pc0 := 47) (pc' := 54) rfl (hb hby own_d7_47) rfl ((if0 _ _).trans (teq rfl).1) (by decide) (by decide) ?_
    show sT p e below T8 (mkF m 54 #[rv u0, rv u1, rv u1] []) tz
    refine XS.iconst X8.here hx rfl (hb hby own_d7_54) ?_
    exact kz
  obtain ⟨fs, hr, hrun, hended, hW, hsame⟩ := X8.leave (v := some (.int (0 : Int32))) (fun h => by rw [Bd.returns] at h; cases h)
  refine own_of ⟨_, _, ?_, hrun, hended, _, _, rfl, ?_, ⟨_, rfl⟩, hW, hsame.mono (by decide) (by decide)⟩
  · show sT p e below T8 (mkF m 55 #[rv u0, rv u1, rv u1] [(.int 0)]) _
    exact own_retN X8 hx (t := .boolean) Bd.returns (by simp) (by first | rfl | (split <;> first | rfl | (split <;> first | rfl | (split <;> rfl)))) (hb hby own_d7_55) hr
  · show Q7m Z u0 u1 cS b1 b2 k1 k2 y0 z0 h0 n0 _ T8.heap _
    rw [e8]
    exact ⟨rfl, N8, rfl⟩
theorem own_ef_7n (m : MethodId) (x0 : Addr) (x1 : Addr) : entryFrame m #[(.ref x0), (.ref x1)] 3 = mkF m 0 #[rv x0, rv x1, .unset] [] := by first | (simp [entryFrame, mkF, argsToLocals, Value.category]; done) | rfl
def Q7n (Z : State) (u0 : Addr) (u1 : Addr) (cS : Int32) (b1 : Addr) (b2 : Addr) (k1 : ClassId) (k2 : ClassId) (y0 : Int32) (y1 : Int32) (z0 : Int32) (z1 : Int32) (h0 : Heap) (n0 : Nat) (v : Option Value) (h : Heap) (L : List Loc) : Prop := v = some (.int (0 : Int32)) ∧ Fr n0 L ∧ h = h0
set_option maxRecDepth 65536 in
set_option maxHeartbeats 40000000 in
theorem rm7n (l : Launch) (Z : State) (a0 : Array Value) (hw : ∀ d ∈ tables_1, d.before a0 Z = true) (ws : List Jvm.Cond) (u0 : Addr) (u1 : Addr) (cS : Int32) (b1 : Addr) (b2 : Addr) (k1 : ClassId) (k2 : ClassId) (y0 : Int32) (y1 : Int32) (z0 : Int32) (z1 : Int32) (h0 : Heap) (n0 : Nat) (O0 : Old Z n0 h0) (S_cs : Sta Z Z.heap "java/lang/String" "COMPACT_STRINGS" "Z" (.int cS)) (hcS : ¬ (cS = (0 : Int32))) (Ex0 : Exa Z h0 u0 "java/lang/String") (Fv0 : Fld Z h0 u0 "java/lang/String" "value" "[B" (.ref b1)) (Fc0 : Fld Z h0 u0 "java/lang/String" "coder" "B" (.int (0 : Int32))) (Ex1 : Exa Z h0 u1 "java/lang/String") (Fv1 : Fld Z h0 u1 "java/lang/String" "value" "[B" (.ref b2)) (Fc1 : Fld Z h0 u1 "java/lang/String" "coder" "B" (.int (0 : Int32))) (V1 : Arv Z h0 b1 k1 .byte (2 : Int32) [(.int y0), (.int y1)] (.int 0)) (V2 : Arv Z h0 b2 k2 .byte (2 : Int32) [(.int z0), (.int z1)] (.int 0)) (hun : ¬ (y0 = z0)) (hne : ¬ (u0 = u1)) :
    MetFree l (⟨"java/lang/String", "equals", "(Ljava/lang/Object;)Z"⟩ : MethodName) (head1 (Jvm.Cond.code (⟨"java/lang/String", "equals", "(Ljava/lang/Object;)Z"⟩ : MethodName) jdk_42_method_66_code 3 (some .boolean) :: ws) ({ frames := 1, cells := 0, slots := 0, locals := 16 } : Room)) (fun a U => a = #[(.ref u0), (.ref u1)] ∧ Z.Warmed39 U.vm ∧ U.heap = h0) (fun _ _ _ _ _ => True) (fun _ U o U' => ∃ v L, o = .returned v ∧ Q7n Z u0 u1 cS b1 b2 k1 k2 y0 y1 z0 z1 h0 n0 v U'.heap L ∧ FrameEnd U o U' L ({ frames := 1, cells := 0, slots := 0, locals := 16 } : Room).cells ({ frames := 1, cells := 0, slots := 0, locals := 16 } : Room).slots) := by
  refine MetFree.of_bodySF (plainFor_of_name own_pn_java_lang_String) hisR ?_
  intro p e s m args below meth c s₁ Bd hml0 hP hK
  obtain ⟨rfl, hZ, hh⟩ := hP
  have hx := Bd.exec
  have hby := Bd.bytes
  have hml : c.maxLocals = 3 := hml0
  have hown : s.vm.findClass "java/lang/String" = some m.cls := findClass_of_methodNamed Bd.named
  have hnm := (name_of_methodNamed Bd.named Bd.method).1
  have X0 : Stand p l e ({ frames := 1, cells := 0, slots := 0, locals := 16 } : Room) s m #[(.ref u0), (.ref u1)] below meth c s₁ [] 0 0 := Stand.of_body Bd
  have e0 : s₁.heap = h0 := by rw [← hh, Bd.state]; rfl
  have N0 := Fr.nil n0
  change Go p.tables e below _ _
  refine own_on (B := s₁.setTop (mkF m 0 #[rv u0, rv u1, un] [])) (fun tz kz => castTop (own_ef_7n m u0 u1) kz) ?_
  refine own_on (B := s₁.setTop (mkF m 8 #[rv u0, rv u1, un] [(.ref u1)])) (fun tz kz => ?_) ?_
  · show sT p e below s₁ (mkF m 0 #[rv u0, rv u1, un] []) tz
    refine XS.aloadN X0.here hx rfl (hb hby own_d7_0) rfl rfl ?_
    show sT p e below s₁ (mkF m 1 #[rv u0, rv u1, un] [(.ref u0)]) tz
    refine XS.aloadN X0.here hx rfl (hb hby own_d7_1) rfl rfl ?_
    show sT p e below s₁ (mkF m 2 #[rv u0, rv u1, un] [(.ref u1), (.ref u0)]) tz
    refine Jvm.RoadKit.acmp (g := (mkF m 2 #[rv u0, rv u1, un] [(.ref u1), (.ref u0)])) X0 hx rfl rfl rfl (pc0 := 2) (pc' := 7) (same := false) rfl (hb hby own_d7_2) rfl (decide_eq_false fun qq => hne (Value.ref.inj qq)) (by decide) (by decide) ?_
    show sT p e below s₁ (mkF m 7 #[rv u0, rv u1, un] []) tz
    refine XS.aloadN X0.here hx rfl (hb hby own_d7_7) rfl rfl ?_
    exact kz
  obtain ⟨T1, X1, e1, st1⟩ := instY X0 hx hZ hown (own_w hw 38 rfl) e0 (Ins.self Ex1) (g := (mkF m 8 #[rv u0, rv u1, un] [(.ref u1)])) rfl rfl (hb hby own_d7_8)
  refine own_on (B := T1.setTop (mkF m 11 #[rv u0, rv u1, un] [(.int 1)])) (fun tz kz => st1 _ kz) ?_
  refine own_on (B := T1.setTop (mkF m 15 #[rv u0, rv u1, un] [(.ref u1)])) (fun tz kz => ?_) ?_
  · show sT p e below T1 (mkF m 11 #[rv u0, rv u1, un] [(.int 1)]) tz
    refine XS.ifNo X1.here hx rfl (hb hby own_d7_11) rfl ((if0 _ _).trans (feq (by decide : ¬ ((1 : Int32) = (0 : Int32)))).1) ?_
    show sT p e below T1 (mkF m 14 #[rv u0, rv u1, un] []) tz
    refine XS.aloadN X1.here hx rfl (hb hby own_d7_14) rfl rfl ?_
    exact kz
  obtain ⟨T2, X2, e2, st2⟩ := castY X1 hx hZ hown (own_w hw 38 rfl) e1 (Ins.self Ex1) (g := (mkF m 15 #[rv u0, rv u1, un] [(.ref u1)])) rfl rfl (hb hby own_d7_15)
  refine own_on (B := T2.setTop (mkF m 18 #[rv u0, rv u1, un] [(.ref u1)])) (fun tz kz => st2 _ kz) ?_
  refine own_on (B := T2.setTop (mkF m 19 #[rv u0, rv u1, rv u1] [])) (fun tz kz => ?_) ?_
  · show sT p e below T2 (mkF m 18 #[rv u0, rv u1, un] [(.ref u1)]) tz
    refine XS.astoreN X2.here hx rfl (hb hby own_d7_18) rfl rfl (l' := #[rv u0, rv u1, rv u1]) rfl ?_
    exact kz
  obtain ⟨T3, X3, e3, st3⟩ := getS2 X2 hx hZ hown (host := "") (Or.inl (own_w hw 39 rfl)) Via.refl e2 (S_cs.ext O0.2) (g := (mkF m 19 #[rv u0, rv u1, rv u1] [])) rfl (hb hby own_d7_19)
  refine own_on (B := T3.setTop (mkF m 22 #[rv u0, rv u1, rv u1] [(.int cS)])) (fun tz kz => st3 _ kz) ?_
  refine own_on (B := T3.setTop (mkF m 26 #[rv u0, rv u1, rv u1] [(.ref u0)])) (fun tz kz => ?_) ?_
  · show sT p e below T3 (mkF m 22 #[rv u0, rv u1, rv u1] [(.int cS)]) tz
    refine XS.ifNo X3.here hx rfl (hb hby own_d7_22) rfl ((if0 _ _).trans (feq hcS).1) ?_
    show sT p e below T3 (mkF m 25 #[rv u0, rv u1, rv u1] []) tz
    refine XS.aloadN X3.here hx rfl (hb hby own_d7_25) rfl rfl ?_
    exact kz
  obtain ⟨T4, X4, e4, st4⟩ := getF X3 hx hZ hown (host := "") (Or.inl (own_w hw 28 rfl)) Via.refl e3 Fc0 (g := (mkF m 26 #[rv u0, rv u1, rv u1] [(.ref u0)])) rfl rfl (hb hby own_d7_26)
  refine own_on (B := T4.setTop (mkF m 29 #[rv u0, rv u1, rv u1] [(.int 0)])) (fun tz kz => st4 _ kz) ?_
  refine own_on (B := T4.setTop (mkF m 30 #[rv u0, rv u1, rv u1] [(.ref u1), (.int 0)])) (fun tz kz => ?_) ?_
  · show sT p e below T4 (mkF m 29 #[rv u0, rv u1, rv u1] [(.int 0)]) tz
    refine XS.aloadN X4.here hx rfl (hb hby own_d7_29) rfl rfl ?_
    exact kz
  obtain ⟨T5, X5, e5, st5⟩ := getF X4 hx hZ hown (host := "") (Or.inl (own_w hw 28 rfl)) Via.refl e4 Fc1 (g := (mkF m 30 #[rv u0, rv u1, rv u1] [(.ref u1), (.int 0)])) rfl rfl (hb hby own_d7_30)
  refine own_on (B := T5.setTop (mkF m 33 #[rv u0, rv u1, rv u1] [(.int 0), (.int 0)])) (fun tz kz => st5 _ kz) ?_
  refine own_on (B := T5.setTop (mkF m 37 #[rv u0, rv u1, rv u1] [(.ref u0)])) (fun tz kz => ?_) ?_
  · show sT p e below T5 (mkF m 33 #[rv u0, rv u1, rv u1] [(.int 0), (.int 0)]) tz
    refine XS.icmpNo X5.here hx rfl (hb hby own_d7_33) rfl (teq rfl).2 ?_
    show sT p e below T5 (mkF m 36 #[rv u0, rv u1, rv u1] []) tz
    refine XS.aloadN X5.here hx rfl (hb hby own_d7_36) rfl rfl ?_
    exact kz
  obtain ⟨T6, X6, e6, st6⟩ := getF X5 hx hZ hown (host := "") (Or.inl (own_w hw 27 rfl)) Via.refl e5 Fv0 (g := (mkF m 37 #[rv u0, rv u1, rv u1] [(.ref u0)])) rfl rfl (hb hby own_d7_37)
  refine own_on (B := T6.setTop (mkF m 40 #[rv u0, rv u1, rv u1] [(.ref b1)])) (fun tz kz => st6 _ kz) ?_
  refine own_on (B := T6.setTop (mkF m 41 #[rv u0, rv u1, rv u1] [(.ref u1), (.ref b1)])) (fun tz kz => ?_) ?_
  · show sT p e below T6 (mkF m 40 #[rv u0, rv u1, rv u1] [(.ref b1)]) tz
    refine XS.aloadN X6.here hx rfl (hb hby own_d7_40) rfl rfl ?_
    exact kz
  obtain ⟨T7, X7, e7, st7⟩ := getF X6 hx hZ hown (host := "") (Or.inl (own_w hw 27 rfl)) Via.refl e6 Fv1 (g := (mkF m 41 #[rv u0, rv u1, rv u1] [(.ref u1), (.ref b1)])) rfl rfl (hb hby own_d7_41)
  refine own_on (B := T7.setTop (mkF m 44 #[rv u0, rv u1, rv u1] [(.ref b2), (.ref b1)])) (fun tz kz => st7 _ kz) ?_
  obtain ⟨_, _, ⟨T8, L8, k8, n8⟩, -, X8, ⟨Lc8, hQ8, l8, y8, z8⟩, st8⟩ := Jvm.LawKit.callS X7 hx (y := (⟨"java/lang/StringLatin1", "equals", "([B[B)Z"⟩ : MethodName)) hown (mvT hZ (own_w hw 40 rfl)) (mvT hZ (own_w hw 41 rfl)) (mvT hZ (own_w hw 42 rfl)) (mvT hZ (own_w hw 43 rfl)) (by decide) (backOf (W := 0) (rm8n l Z a0 hw [] b1 b2 k1 k2 y0 y1 z0 z1 h0 n0 O0 V1 V2 hun) hZ (own_w hw 43 rfl) (own_w hw 42 rfl) (by decide) (by decide)) (g := (mkF m 44 #[rv u0, rv u1, rv u1] [(.ref b2), (.ref b1)])) rfl (by rw [hml]; rfl) (argsL := [(.ref b1), (.ref b2)]) (rest := []) (lenOf own_pd5 rfl) rfl (by show 2 * 0 + _ ≤ _; exact Nat.le_of_eq rfl) (hb hby own_d7_44) (fun _ _ => ⟨rfl, e7, (by decide : 0 + 0 ≤ _), (by decide : 0 + 0 ≤ _)⟩)
  dsimp only [Pt.U, Pt.locs, Pt.cells, Pt.slots] at X8 l8 y8 z8 st8 hQ8
  subst l8 y8 z8
  obtain ⟨rfl, Nq8, e8⟩ := hQ8
  have N8 := Fr.app N0 Nq8
  refine own_on (B := T8.setTop (mkF m 47 #[rv u0, rv u1, rv u1] [(.int 0)])) (fun tz kz => st8 _ kz) ?_
  refine own_on (B := T8.setTop (mkF m 55 #[rv u0, rv u1, rv u1] [(.int 0)])) (fun tz kz => ?_) ?_
  · show sT p e below T8 (mkF m 47 #[rv u0, rv u1, rv u1] [(.int 0)]) tz
    refine XS.ifYes X8.here hx rfl (pc0 := 47) (pc' := 54) rfl (hb hby own_d7_47) rfl ((if0 _ _).trans (teq rfl).1) (by decide) (by decide) ?_
    show sT p e below T8 (mkF m 54 #[rv u0, rv u1, rv u1] []) tz
    refine XS.iconst X8.here hx rfl (hb hby own_d7_54) ?_
    exact kz
  obtain ⟨fs, hr, hrun, hended, hW, hsame⟩ := X8.leave (v := some (.int (0 : Int32))) (fun h => by rw [Bd.returns] at h; cases h)
  refine own_of ⟨_, _, ?_, hrun, hended, _, _, rfl, ?_, ⟨_, rfl⟩, hW, hsame.mono (by decide) (by decide)⟩
  · show sT p e below T8 (mkF m 55 #[rv u0, rv u1, rv u1] [(.int 0)]) _
    exact own_retN X8 hx (t := .boolean) Bd.returns (by simp) (by first | rfl | (split <;> first | rfl | (split <;> first | rfl | (split <;> rfl)))) (hb hby own_d7_55) hr
  · show Q7n Z u0 u1 cS b1 b2 k1 k2 y0 y1 z0 z1 h0 n0 _ T8.heap _
    rw [e8]
    exact ⟨rfl, N8, rfl⟩
theorem own_ef_7o (m : MethodId) (x0 : Addr) (x1 : Addr) : entryFrame m #[(.ref x0), (.ref x1)] 3 = mkF m 0 #[rv x0, rv x1, .unset] [] := by first | (simp [entryFrame, mkF, argsToLocals, Value.category]; done) | rfl
def Q7o (Z : State) (u0 : Addr) (u1 : Addr) (cS : Int32) (b1 : Addr) (b2 : Addr) (k1 : ClassId) (k2 : ClassId) (y0 : Int32) (y1 : Int32) (z1 : Int32) (h0 : Heap) (n0 : Nat) (v : Option Value) (h : Heap) (L : List Loc) : Prop := v = some (.int (0 : Int32)) ∧ Fr n0 L ∧ h = h0
set_option maxRecDepth 65536 in
set_option maxHeartbeats 40000000 in
theorem rm7o (l : Launch) (Z : State) (a0 : Array Value) (hw : ∀ d ∈ tables_1, d.before a0 Z = true) (ws : List Jvm.Cond) (u0 : Addr) (u1 : Addr) (cS : Int32) (b1 : Addr) (b2 : Addr) (k1 : ClassId) (k2 : ClassId) (y0 : Int32) (y1 : Int32) (z1 : Int32) (h0 : Heap) (n0 : Nat) (O0 : Old Z n0 h0) (S_cs : Sta Z Z.heap "java/lang/String" "COMPACT_STRINGS" "Z" (.int cS)) (hcS : ¬ (cS = (0 : Int32))) (Ex0 : Exa Z h0 u0 "java/lang/String") (Fv0 : Fld Z h0 u0 "java/lang/String" "value" "[B" (.ref b1)) (Fc0 : Fld Z h0 u0 "java/lang/String" "coder" "B" (.int (0 : Int32))) (Ex1 : Exa Z h0 u1 "java/lang/String") (Fv1 : Fld Z h0 u1 "java/lang/String" "value" "[B" (.ref b2)) (Fc1 : Fld Z h0 u1 "java/lang/String" "coder" "B" (.int (0 : Int32))) (V1 : Arv Z h0 b1 k1 .byte (2 : Int32) [(.int y0), (.int y1)] (.int 0)) (V2 : Arv Z h0 b2 k2 .byte (2 : Int32) [(.int y0), (.int z1)] (.int 0)) (hun : ¬ (y1 = z1)) (hne : ¬ (u0 = u1)) :
    MetFree l (⟨"java/lang/String", "equals", "(Ljava/lang/Object;)Z"⟩ : MethodName) (head1 (Jvm.Cond.code (⟨"java/lang/String", "equals", "(Ljava/lang/Object;)Z"⟩ : MethodName) jdk_42_method_66_code 3 (some .boolean) :: ws) ({ frames := 1, cells := 0, slots := 0, locals := 16 } : Room)) (fun a U => a = #[(.ref u0), (.ref u1)] ∧ Z.Warmed39 U.vm ∧ U.heap = h0) (fun _ _ _ _ _ => True) (fun _ U o U' => ∃ v L, o = .returned v ∧ Q7o Z u0 u1 cS b1 b2 k1 k2 y0 y1 z1 h0 n0 v U'.heap L ∧ FrameEnd U o U' L ({ frames := 1, cells := 0, slots := 0, locals := 16 } : Room).cells ({ frames := 1, cells := 0, slots := 0, locals := 16 } : Room).slots) := by
  refine MetFree.of_bodySF (plainFor_of_name own_pn_java_lang_String) hisR ?_
  intro p e s m args below meth c s₁ Bd hml0 hP hK
  obtain ⟨rfl, hZ, hh⟩ := hP
  have hx := Bd.exec
  have hby := Bd.bytes
  have hml : c.maxLocals = 3 := hml0
  have hown : s.vm.findClass "java/lang/String" = some m.cls := findClass_of_methodNamed Bd.named
  have hnm := (name_of_methodNamed Bd.named Bd.method).1
  have X0 : Stand p l e ({ frames := 1, cells := 0, slots := 0, locals := 16 } : Room) s m #[(.ref u0), (.ref u1)] below meth c s₁ [] 0 0 := Stand.of_body Bd
  have e0 : s₁.heap = h0 := by rw [← hh, Bd.state]; rfl
  have N0 := Fr.nil n0
  change Go p.tables e below _ _
  refine own_on (B := s₁.setTop (mkF m 0 #[rv u0, rv u1, un] [])) (fun tz kz => castTop (own_ef_7o m u0 u1) kz) ?_
  refine own_on (B := s₁.setTop (mkF m 8 #[rv u0, rv u1, un] [(.ref u1)])) (fun tz kz => ?_) ?_
  · show sT p e below s₁ (mkF m 0 #[rv u0, rv u1, un] []) tz
    refine XS.aloadN X0.here hx rfl (hb hby own_d7_0) rfl rfl ?_
    show sT p e below s₁ (mkF m 1 #[rv u0, rv u1, un] [(.ref u0)]) tz
    refine XS.aloadN X0.here hx rfl (hb hby own_d7_1) rfl rfl ?_
    show sT p e below s₁ (mkF m 2 #[rv u0, rv u1, un] [(.ref u1), (.ref u0)]) tz
    refine Jvm.RoadKit.acmp (g := (mkF m 2 #[rv u0, rv u1, un] [(.ref u1), (.ref u0)])) X0 hx rfl rfl rfl (pc0 := 2) (pc' := 7) (same := false) rfl (hb hby own_d7_2) rfl (decide_eq_false fun qq => hne (Value.ref.inj qq)) (by decide) (by decide) ?_
    show sT p e below s₁ (mkF m 7 #[rv u0, rv u1, un] []) tz
    refine XS.aloadN X0.here hx rfl (hb hby own_d7_7) rfl rfl ?_
    exact kz
  obtain ⟨T1, X1, e1, st1⟩ := instY X0 hx hZ hown (own_w hw 38 rfl) e0 (Ins.self Ex1) (g := (mkF m 8 #[rv u0, rv u1, un] [(.ref u1)])) rfl rfl (hb hby own_d7_8)
  refine own_on (B := T1.setTop (mkF m 11 #[rv u0, rv u1, un] [(.int 1)])) (fun tz kz => st1 _ kz) ?_
  refine own_on (B := T1.setTop (mkF m 15 #[rv u0, rv u1, un] [(.ref u1)])) (fun tz kz => ?_) ?_
  · show sT p e below T1 (mkF m 11 #[rv u0, rv u1, un] [(.int 1)]) tz
    refine XS.ifNo X1.here hx rfl (hb hby own_d7_11) rfl ((if0 _ _).trans (feq (by decide : ¬ ((1 : Int32) = (0 : Int32)))).1) ?_
    show sT p e below T1 (mkF m 14 #[rv u0, rv u1, un] []) tz
    refine XS.aloadN X1.here hx rfl (hb hby own_d7_14) rfl rfl ?_
    exact kz
  obtain ⟨T2, X2, e2, st2⟩ := castY X1 hx hZ hown (own_w hw 38 rfl) e1 (Ins.self Ex1) (g := (mkF m 15 #[rv u0, rv u1, un] [(.ref u1)])) rfl rfl (hb hby own_d7_15)
  refine own_on (B := T2.setTop (mkF m 18 #[rv u0, rv u1, un] [(.ref u1)])) (fun tz kz => st2 _ kz) ?_
  refine own_on (B := T2.setTop (mkF m 19 #[rv u0, rv u1, rv u1] [])) (fun tz kz => ?_) ?_
  · show sT p e below T2 (mkF m 18 #[rv u0, rv u1, un] [(.ref u1)]) tz
    refine XS.astoreN X2.here hx rfl (hb hby own_d7_18) rfl rfl (l' := #[rv u0, rv u1, rv u1]) rfl ?_
    exact kz
  obtain ⟨T3, X3, e3, st3⟩ := getS2 X2 hx hZ hown (host := "") (Or.inl (own_w hw 39 rfl)) Via.refl e2 (S_cs.ext O0.2) (g := (mkF m 19 #[rv u0, rv u1, rv u1] [])) rfl (hb hby own_d7_19)
  refine own_on (B := T3.setTop (mkF m 22 #[rv u0, rv u1, rv u1] [(.int cS)])) (fun tz kz => st3 _ kz) ?_
  refine own_on (B := T3.setTop (mkF m 26 #[rv u0, rv u1, rv u1] [(.ref u0)])) (fun tz kz => ?_) ?_
  · show sT p e below T3 (mkF m 22 #[rv u0, rv u1, rv u1] [(.int cS)]) tz
    refine XS.ifNo X3.here hx rfl (hb hby own_d7_22) rfl ((if0 _ _).trans (feq hcS).1) ?_
    show sT p e below T3 (mkF m 25 #[rv u0, rv u1, rv u1] []) tz
    refine XS.aloadN X3.here hx rfl (hb hby own_d7_25) rfl rfl ?_
    exact kz
  obtain ⟨T4, X4, e4, st4⟩ := getF X3 hx hZ hown (host := "") (Or.inl (own_w hw 28 rfl)) Via.refl e3 Fc0 (g := (mkF m 26 #[rv u0, rv u1, rv u1] [(.ref u0)])) rfl rfl (hb hby own_d7_26)
  refine own_on (B := T4.setTop (mkF m 29 #[rv u0, rv u1, rv u1] [(.int 0)])) (fun tz kz => st4 _ kz) ?_
  refine own_on (B := T4.setTop (mkF m 30 #[rv u0, rv u1, rv u1] [(.ref u1), (.int 0)])) (fun tz kz => ?_) ?_
  · show sT p e below T4 (mkF m 29 #[rv u0, rv u1, rv u1] [(.int 0)]) tz
    refine XS.aloadN X4.here hx rfl (hb hby own_d7_29) rfl rfl ?_
    exact kz
  obtain ⟨T5, X5, e5, st5⟩ := getF X4 hx hZ hown (host := "") (Or.inl (own_w hw 28 rfl)) Via.refl e4 Fc1 (g := (mkF m 30 #[rv u0, rv u1, rv u1] [(.ref u1), (.int 0)])) rfl rfl (hb hby own_d7_30)
  refine own_on (B := T5.setTop (mkF m 33 #[rv u0, rv u1, rv u1] [(.int 0), (.int 0)])) (fun tz kz => st5 _ kz) ?_
  refine own_on (B := T5.setTop (mkF m 37 #[rv u0, rv u1, rv u1] [(.ref u0)])) (fun tz kz => ?_) ?_
  · show sT p e below T5 (mkF m 33 #[rv u0, rv u1, rv u1] [(.int 0), (.int 0)]) tz
    refine XS.icmpNo X5.here hx rfl (hb hby own_d7_33) rfl (teq rfl).2 ?_
    show sT p e below T5 (mkF m 36 #[rv u0, rv u1, rv u1] []) tz
    refine XS.aloadN X5.here hx rfl (hb hby own_d7_36) rfl rfl ?_
    exact kz
  obtain ⟨T6, X6, e6, st6⟩ := getF X5 hx hZ hown (host := "") (Or.inl (own_w hw 27 rfl)) Via.refl e5 Fv0 (g := (mkF m 37 #[rv u0, rv u1, rv u1] [(.ref u0)])) rfl rfl (hb hby own_d7_37)
  refine own_on (B := T6.setTop (mkF m 40 #[rv u0, rv u1, rv u1] [(.ref b1)])) (fun tz kz => st6 _ kz) ?_
  refine own_on (B := T6.setTop (mkF m 41 #[rv u0, rv u1, rv u1] [(.ref u1), (.ref b1)])) (fun tz kz => ?_) ?_
  · show sT p e below T6 (mkF m 40 #[rv u0, rv u1, rv u1] [(.ref b1)]) tz
    refine XS.aloadN X6.here hx rfl (hb hby own_d7_40) rfl rfl ?_
    exact kz
  obtain ⟨T7, X7, e7, st7⟩ := getF X6 hx hZ hown (host := "") (Or.inl (own_w hw 27 rfl)) Via.refl e6 Fv1 (g := (mkF m 41 #[rv u0, rv u1, rv u1] [(.ref u1), (.ref b1)])) rfl rfl (hb hby own_d7_41)
  refine own_on (B := T7.setTop (mkF m 44 #[rv u0, rv u1, rv u1] [(.ref b2), (.ref b1)])) (fun tz kz => st7 _ kz) ?_
  obtain ⟨_, _, ⟨T8, L8, k8, n8⟩, -, X8, ⟨Lc8, hQ8, l8, y8, z8⟩, st8⟩ := Jvm.LawKit.callS X7 hx (y := (⟨"java/lang/StringLatin1", "equals", "([B[B)Z"⟩ : MethodName)) hown (mvT hZ (own_w hw 40 rfl)) (mvT hZ (own_w hw 41 rfl)) (mvT hZ (own_w hw 42 rfl)) (mvT hZ (own_w hw 43 rfl)) (by decide) (backOf (W := 0) (rm8o l Z a0 hw [] b1 b2 k1 k2 y0 y1 z1 h0 n0 O0 V1 V2 hun) hZ (own_w hw 43 rfl) (own_w hw 42 rfl) (by decide) (by decide)) (g := (mkF m 44 #[rv u0, rv u1, rv u1] [(.ref b2), (.ref b1)])) rfl (by rw [hml]; rfl) (argsL := [(.ref b1), (.ref b2)]) (rest := []) (lenOf own_pd5 rfl) rfl (by show 2 * 0 + _ ≤ _; exact Nat.le_of_eq rfl) (hb hby own_d7_44) (fun _ _ => ⟨rfl, e7, (by decide : 0 + 0 ≤ _), (by decide : 0 + 0 ≤ _)⟩)
  dsimp only [Pt.U, Pt.locs, Pt.cells, Pt.slots] at X8 l8 y8 z8 st8 hQ8
  subst l8 y8 z8
  obtain ⟨rfl, Nq8, e8⟩ := hQ8
  have N8 := Fr.app N0 Nq8
  refine own_on (B := T8.setTop (mkF m 47 #[rv u0, rv u1, rv u1] [(.int 0)])) (fun tz kz => st8 _ kz) ?_
  refine own_on (B := T8.setTop (mkF m 55 #[rv u0, rv u1, rv u1] [(.int 0)])) (fun tz kz => ?_) ?_
  · show sT p e below T8 (mkF m 47 #[rv u0, rv u1, rv u1] [(.int 0)]) tz
    refine XS.ifYes X8.here hx rfl (pc0 := 47) (pc' := 54) rfl (hb hby own_d7_47) rfl ((if0 _ _).trans (teq rfl).1) (by decide) (by decide) ?_
    show sT p e below T8 (mkF m 54 #[rv u0, rv u1, rv u1] []) tz
    refine XS.iconst X8.here hx rfl (hb hby own_d7_54) ?_
    exact kz
  obtain ⟨fs, hr, hrun, hended, hW, hsame⟩ := X8.leave (v := some (.int (0 : Int32))) (fun h => by rw [Bd.returns] at h; cases h)
  refine own_of ⟨_, _, ?_, hrun, hended, _, _, rfl, ?_, ⟨_, rfl⟩, hW, hsame.mono (by decide) (by decide)⟩
  · show sT p e below T8 (mkF m 55 #[rv u0, rv u1, rv u1] [(.int 0)]) _
    exact own_retN X8 hx (t := .boolean) Bd.returns (by simp) (by first | rfl | (split <;> first | rfl | (split <;> first | rfl | (split <;> rfl)))) (hb hby own_d7_55) hr
  · show Q7o Z u0 u1 cS b1 b2 k1 k2 y0 y1 z1 h0 n0 _ T8.heap _
    rw [e8]
    exact ⟨rfl, N8, rfl⟩
theorem own_ef_7d (m : MethodId) (x0 : Addr) (x1 : Addr) : entryFrame m #[(.ref x0), (.ref x1)] 3 = mkF m 0 #[rv x0, rv x1, .unset] [] := by first | (simp [entryFrame, mkF, argsToLocals, Value.category]; done) | rfl
def Q7d (Z : State) (u0 : Addr) (u1 : Addr) (cS : Int32) (b1 : Addr) (b2 : Addr) (l1 : Int32) (l2 : Int32) (h0 : Heap) (n0 : Nat) (v : Option Value) (h : Heap) (L : List Loc) : Prop := v = some (.int (0 : Int32)) ∧ Fr n0 L ∧ h = h0
set_option maxRecDepth 65536 in
set_option maxHeartbeats 40000000 in
theorem rm7d (l : Launch) (Z : State) (a0 : Array Value) (hw : ∀ d ∈ tables_1, d.before a0 Z = true) (ws : List Jvm.Cond) (u0 : Addr) (u1 : Addr) (cS : Int32) (b1 : Addr) (b2 : Addr) (l1 : Int32) (l2 : Int32) (h0 : Heap) (n0 : Nat) (O0 : Old Z n0 h0) (S_cs : Sta Z Z.heap "java/lang/String" "COMPACT_STRINGS" "Z" (.int cS)) (hcS : ¬ (cS = (0 : Int32))) (Ex0 : Exa Z h0 u0 "java/lang/String") (Fv0 : Fld Z h0 u0 "java/lang/String" "value" "[B" (.ref b1)) (Fc0 : Fld Z h0 u0 "java/lang/String" "coder" "B" (.int (0 : Int32))) (Ex1 : Exa Z h0 u1 "java/lang/String") (Fv1 : Fld Z h0 u1 "java/lang/String" "value" "[B" (.ref b2)) (Fc1 : Fld Z h0 u1 "java/lang/String" "coder" "B" (.int (0 : Int32))) (V1 : OwnArz Z h0 b1 .byte l1) (V2 : OwnArz Z h0 b2 .byte l2) (hun : ¬ (l1 = l2)) (hne : ¬ (u0 = u1)) :
    MetFree l (⟨"java/lang/String", "equals", "(Ljava/lang/Object;)Z"⟩ : MethodName) (head1 (Jvm.Cond.code (⟨"java/lang/String", "equals", "(Ljava/lang/Object;)Z"⟩ : MethodName) jdk_42_method_66_code 3 (some .boolean) :: ws) ({ frames := 1, cells := 0, slots := 0, locals := 16 } : Room)) (fun a U => a = #[(.ref u0), (.ref u1)] ∧ Z.Warmed39 U.vm ∧ U.heap = h0) (fun _ _ _ _ _ => True) (fun _ U o U' => ∃ v L, o = .returned v ∧ Q7d Z u0 u1 cS b1 b2 l1 l2 h0 n0 v U'.heap L ∧ FrameEnd U o U' L ({ frames := 1, cells := 0, slots := 0, locals := 16 } : Room).cells ({ frames := 1, cells := 0, slots := 0, locals := 16 } : Room).slots) := by
  refine MetFree.of_bodySF (plainFor_of_name own_pn_java_lang_String) hisR ?_
  intro p e s m args below meth c s₁ Bd hml0 hP hK
  obtain ⟨rfl, hZ, hh⟩ := hP
  have hx := Bd.exec
  have hby := Bd.bytes
  have hml : c.maxLocals = 3 := hml0
  have hown : s.vm.findClass "java/lang/String" = some m.cls := findClass_of_methodNamed Bd.named
  have hnm := (name_of_methodNamed Bd.named Bd.method).1
  have X0 : Stand p l e ({ frames := 1, cells := 0, slots := 0, locals := 16 } : Room) s m #[(.ref u0), (.ref u1)] below meth c s₁ [] 0 0 := Stand.of_body Bd
  have e0 : s₁.heap = h0 := by rw [← hh, Bd.state]; rfl
  have N0 := Fr.nil n0
  change Go p.tables e below _ _
  refine own_on (B := s₁.setTop (mkF m 0 #[rv u0, rv u1, un] [])) (fun tz kz => castTop (own_ef_7d m u0 u1) kz) ?_
  refine own_on (B := s₁.setTop (mkF m 8 #[rv u0, rv u1, un] [(.ref u1)])) (fun tz kz => ?_) ?_
  · show sT p e below s₁ (mkF m 0 #[rv u0, rv u1, un] []) tz
    refine XS.aloadN X0.here hx rfl (hb hby own_d7_0) rfl rfl ?_
    show sT p e below s₁ (mkF m 1 #[rv u0, rv u1, un] [(.ref u0)]) tz
    refine XS.aloadN X0.here hx rfl (hb hby own_d7_1) rfl rfl ?_
    show sT p e below s₁ (mkF m 2 #[rv u0, rv u1, un] [(.ref u1), (.ref u0)]) tz
    refine Jvm.RoadKit.acmp (g := (mkF m 2 #[rv u0, rv u1, un] [(.ref u1), (.ref u0)])) X0 hx rfl rfl rfl (pc0 := 2) (pc' := 7) (same := false) rfl (hb hby own_d7_2) rfl (decide_eq_false fun qq => hne (Value.ref.inj qq)) (by decide) (by decide) ?_
    show sT p e below s₁ (mkF m 7 #[rv u0, rv u1, un] []) tz
    refine XS.aloadN X0.here hx rfl (hb hby own_d7_7) rfl rfl ?_
    exact kz
  obtain ⟨T1, X1, e1, st1⟩ := instY X0 hx hZ hown (own_w hw 38 rfl) e0 (Ins.self Ex1) (g := (mkF m 8 #[rv u0, rv u1, un] [(.ref u1)])) rfl rfl (hb hby own_d7_8)
  refine own_on (B := T1.setTop (mkF m 11 #[rv u0, rv u1, un] [(.int 1)])) (fun tz kz => st1 _ kz) ?_
  refine own_on (B := T1.setTop (mkF m 15 #[rv u0, rv u1, un] [(.ref u1)])) (fun tz kz => ?_) ?_
  · show sT p e below T1 (mkF m 11 #[rv u0, rv u1, un] [(.int 1)]) tz
    refine XS.ifNo X1.here hx rfl (hb hby own_d7_11) rfl ((if0 _ _).trans (feq (by decide : ¬ ((1 : Int32) = (0 : Int32)))).1) ?_
    show sT p e below T1 (mkF m 14 #[rv u0, rv u1, un] []) tz
    refine XS.aloadN X1.here hx rfl (hb hby own_d7_14) rfl rfl ?_
    exact kz
  obtain ⟨T2, X2, e2, st2⟩ := castY X1 hx hZ hown (own_w hw 38 rfl) e1 (Ins.self Ex1) (g := (mkF m 15 #[rv u0, rv u1, un] [(.ref u1)])) rfl rfl (hb hby own_d7_15)
  refine own_on (B := T2.setTop (mkF m 18 #[rv u0, rv u1, un] [(.ref u1)])) (fun tz kz => st2 _ kz) ?_
  refine own_on (B := T2.setTop (mkF m 19 #[rv u0, rv u1, rv u1] [])) (fun tz kz => ?_) ?_
  · show sT p e below T2 (mkF m 18 #[rv u0, rv u1, un] [(.ref u1)]) tz
    refine XS.astoreN X2.here hx rfl (hb hby own_d7_18) rfl rfl (l' := #[rv u0, rv u1, rv u1]) rfl ?_
    exact kz
  obtain ⟨T3, X3, e3, st3⟩ := getS2 X2 hx hZ hown (host := "") (Or.inl (own_w hw 39 rfl)) Via.refl e2 (S_cs.ext O0.2) (g := (mkF m 19 #[rv u0, rv u1, rv u1] [])) rfl (hb hby own_d7_19)
  refine own_on (B := T3.setTop (mkF m 22 #[rv u0, rv u1, rv u1] [(.int cS)])) (fun tz kz => st3 _ kz) ?_
  refine own_on (B := T3.setTop (mkF m 26 #[rv u0, rv u1, rv u1] [(.ref u0)])) (fun tz kz => ?_) ?_
  · show sT p e below T3 (mkF m 22 #[rv u0, rv u1, rv u1] [(.int cS)]) tz
    refine XS.ifNo X3.here hx rfl (hb hby own_d7_22) rfl ((if0 _ _).trans (feq hcS).1) ?_
    show sT p e below T3 (mkF m 25 #[rv u0, rv u1, rv u1] []) tz
    refine XS.aloadN X3.here hx rfl (hb hby own_d7_25) rfl rfl ?_
    exact kz
  obtain ⟨T4, X4, e4, st4⟩ := getF X3 hx hZ hown (host := "") (Or.inl (own_w hw 28 rfl)) Via.refl e3 Fc0 (g := (mkF m 26 #[rv u0, rv u1, rv u1] [(.ref u0)])) rfl rfl (hb hby own_d7_26)
  refine own_on (B := T4.setTop (mkF m 29 #[rv u0, rv u1, rv u1] [(.int 0)])) (fun tz kz => st4 _ kz) ?_
  refine own_on (B := T4.setTop (mkF m 30 #[rv u0, rv u1, rv u1] [(.ref u1), (.int 0)])) (fun tz kz => ?_) ?_
  · show sT p e below T4 (mkF m 29 #[rv u0, rv u1, rv u1] [(.int 0)]) tz
    refine XS.aloadN X4.here hx rfl (hb hby own_d7_29) rfl rfl ?_
    exact kz
  obtain ⟨T5, X5, e5, st5⟩ := getF X4 hx hZ hown (host := "") (Or.inl (own_w hw 28 rfl)) Via.refl e4 Fc1 (g := (mkF m 30 #[rv u0, rv u1, rv u1] [(.ref u1), (.int 0)])) rfl rfl (hb hby own_d7_30)
  refine own_on (B := T5.setTop (mkF m 33 #[rv u0, rv u1, rv u1] [(.int 0), (.int 0)])) (fun tz kz => st5 _ kz) ?_
  refine own_on (B := T5.setTop (mkF m 37 #[rv u0, rv u1, rv u1] [(.ref u0)])) (fun tz kz => ?_) ?_
  · show sT p e below T5 (mkF m 33 #[rv u0, rv u1, rv u1] [(.int 0), (.int 0)]) tz
    refine XS.icmpNo X5.here hx rfl (hb hby own_d7_33) rfl (teq rfl).2 ?_
    show sT p e below T5 (mkF m 36 #[rv u0, rv u1, rv u1] []) tz
    refine XS.aloadN X5.here hx rfl (hb hby own_d7_36) rfl rfl ?_
    exact kz
  obtain ⟨T6, X6, e6, st6⟩ := getF X5 hx hZ hown (host := "") (Or.inl (own_w hw 27 rfl)) Via.refl e5 Fv0 (g := (mkF m 37 #[rv u0, rv u1, rv u1] [(.ref u0)])) rfl rfl (hb hby own_d7_37)
  refine own_on (B := T6.setTop (mkF m 40 #[rv u0, rv u1, rv u1] [(.ref b1)])) (fun tz kz => st6 _ kz) ?_
  refine own_on (B := T6.setTop (mkF m 41 #[rv u0, rv u1, rv u1] [(.ref u1), (.ref b1)])) (fun tz kz => ?_) ?_
  · show sT p e below T6 (mkF m 40 #[rv u0, rv u1, rv u1] [(.ref b1)]) tz
    refine XS.aloadN X6.here hx rfl (hb hby own_d7_40) rfl rfl ?_
    exact kz
  obtain ⟨T7, X7, e7, st7⟩ := getF X6 hx hZ hown (host := "") (Or.inl (own_w hw 27 rfl)) Via.refl e6 Fv1 (g := (mkF m 41 #[rv u0, rv u1, rv u1] [(.ref u1), (.ref b1)])) rfl rfl (hb hby own_d7_41)
  refine own_on (B := T7.setTop (mkF m 44 #[rv u0, rv u1, rv u1] [(.ref b2), (.ref b1)])) (fun tz kz => st7 _ kz) ?_
  obtain ⟨_, _, ⟨T8, L8, k8, n8⟩, -, X8, ⟨Lc8, hQ8, l8, y8, z8⟩, st8⟩ := Jvm.LawKit.callS X7 hx (y := (⟨"java/lang/StringLatin1", "equals", "([B[B)Z"⟩ : MethodName)) hown (mvT hZ (own_w hw 40 rfl)) (mvT hZ (own_w hw 41 rfl)) (mvT hZ (own_w hw 42 rfl)) (mvT hZ (own_w hw 43 rfl)) (by decide) (backOf (W := 0) (rm8d l Z a0 hw [] b1 b2 l1 l2 h0 n0 O0 V1 V2 hun) hZ (own_w hw 43 rfl) (own_w hw 42 rfl) (by decide) (by decide)) (g := (mkF m 44 #[rv u0, rv u1, rv u1] [(.ref b2), (.ref b1)])) rfl (by rw [hml]; rfl) (argsL := [(.ref b1), (.ref b2)]) (rest := []) (lenOf own_pd5 rfl) rfl (by show 2 * 0 + _ ≤ _; exact Nat.le_of_eq rfl) (hb hby own_d7_44) (fun _ _ => ⟨rfl, e7, (by decide : 0 + 0 ≤ _), (by decide : 0 + 0 ≤ _)⟩)
  dsimp only [Pt.U, Pt.locs, Pt.cells, Pt.slots] at X8 l8 y8 z8 st8 hQ8
  subst l8 y8 z8
  obtain ⟨rfl, Nq8, e8⟩ := hQ8
  have N8 := Fr.app N0 Nq8
  refine own_on (B := T8.setTop (mkF m 47 #[rv u0, rv u1, rv u1] [(.int 0)])) (fun tz kz => st8 _ kz) ?_
  refine own_on (B := T8.setTop (mkF m 55 #[rv u0, rv u1, rv u1] [(.int 0)])) (fun tz kz => ?_) ?_
  · show sT p e below T8 (mkF m 47 #[rv u0, rv u1, rv u1] [(.int 0)]) tz
    refine XS.ifYes X8.here hx rfl (pc0 := 47) (pc' := 54) rfl (hb hby own_d7_47) rfl ((if0 _ _).trans (teq rfl).1) (by decide) (by decide) ?_
    show sT p e below T8 (mkF m 54 #[rv u0, rv u1, rv u1] []) tz
    refine XS.iconst X8.here hx rfl (hb hby own_d7_54) ?_
    exact kz
  obtain ⟨fs, hr, hrun, hended, hW, hsame⟩ := X8.leave (v := some (.int (0 : Int32))) (fun h => by rw [Bd.returns] at h; cases h)
  refine own_of ⟨_, _, ?_, hrun, hended, _, _, rfl, ?_, ⟨_, rfl⟩, hW, hsame.mono (by decide) (by decide)⟩
  · show sT p e below T8 (mkF m 55 #[rv u0, rv u1, rv u1] [(.int 0)]) _
    exact own_retN X8 hx (t := .boolean) Bd.returns (by simp) (by first | rfl | (split <;> first | rfl | (split <;> first | rfl | (split <;> rfl)))) (hb hby own_d7_55) hr
  · show Q7d Z u0 u1 cS b1 b2 l1 l2 h0 n0 _ T8.heap _
    rw [e8]
    exact ⟨rfl, N8, rfl⟩
theorem own_pn_jdk_internal_util_ArraysSupport : plainName "jdk/internal/util/ArraysSupport" = true := by first | (simp [plainName, overriddenIn]; done) | decide +kernel
theorem own_ef_16 (m : MethodId) (x0 : Int32) (x1 : Addr) (x2 : Int32) (x3 : Int32) : entryFrame m #[(.int x0), (.ref x1), (.int x2), (.int x3)] 6 = mkF m 0 #[iv x0, rv x1, iv x2, iv x3, .unset, .unset] [] := by first | (simp [entryFrame, mkF, argsToLocals, Value.category]; done) | rfl
def Q16 (Z : State) (u1 : Addr) (kb : ClassId) (y0 : Int32) (y1 : Int32) (h0 : Heap) (n0 : Nat) (v : Option Value) (h : Heap) (L : List Loc) : Prop := v = some (.int (((31 : Int32) * ((0 : Int32) + (y0 &&& (255 : Int32)))) + (y1 &&& (255 : Int32)))) ∧ Fr n0 L ∧ h = h0
theorem own_d16_0 : decode jdk_48_method_5_code 0 = .ok (.iload_n 2, 1) := by decide +kernel
theorem own_d16_1 : decode jdk_48_method_5_code 1 = .ok (.iload_n 3, 1) := by decide +kernel
theorem own_d16_2 : decode jdk_48_method_5_code 2 = .ok (.iadd, 1) := by decide +kernel
theorem own_d16_3 : decode jdk_48_method_5_code 3 = .ok (.istore 4, 2) := by decide +kernel
theorem own_d16_5 : decode jdk_48_method_5_code 5 = .ok (.iload_n 2, 1) := by decide +kernel
theorem own_d16_6 : decode jdk_48_method_5_code 6 = .ok (.istore 5, 2) := by decide +kernel
theorem own_d16_8 : decode jdk_48_method_5_code 8 = .ok (.iload 5, 2) := by decide +kernel
theorem own_d16_10 : decode jdk_48_method_5_code 10 = .ok (.iload 4, 2) := by decide +kernel
theorem own_d16_12 : decode jdk_48_method_5_code 12 = .ok (.if_icmp .ge 23, 3) := by decide +kernel
theorem own_d16_15 : decode jdk_48_method_5_code 15 = .ok (.bipush 31, 2) := by decide +kernel
theorem own_d16_17 : decode jdk_48_method_5_code 17 = .ok (.iload_n 0, 1) := by decide +kernel
theorem own_d16_18 : decode jdk_48_method_5_code 18 = .ok (.imul, 1) := by decide +kernel
theorem own_d16_19 : decode jdk_48_method_5_code 19 = .ok (.aload_n 1, 1) := by decide +kernel
theorem own_d16_20 : decode jdk_48_method_5_code 20 = .ok (.iload 5, 2) := by decide +kernel
theorem own_d16_22 : decode jdk_48_method_5_code 22 = .ok (.baload, 1) := by decide +kernel
theorem own_d16_23 : decode jdk_48_method_5_code 23 = .ok (.sipush 255, 3) := by decide +kernel
theorem own_d16_26 : decode jdk_48_method_5_code 26 = .ok (.iand, 1) := by decide +kernel
theorem own_d16_27 : decode jdk_48_method_5_code 27 = .ok (.iadd, 1) := by decide +kernel
theorem own_d16_28 : decode jdk_48_method_5_code 28 = .ok (.istore_n 0, 1) := by decide +kernel
theorem own_d16_29 : decode jdk_48_method_5_code 29 = .ok (.iinc 5 1, 3) := by decide +kernel
theorem own_d16_32 : decode jdk_48_method_5_code 32 = .ok (.goto (-24), 3) := by decide +kernel
theorem own_d16_35 : decode jdk_48_method_5_code 35 = .ok (.iload_n 0, 1) := by decide +kernel
theorem own_d16_36 : decode jdk_48_method_5_code 36 = .ok (.ireturn, 1) := by decide +kernel
set_option maxRecDepth 65536 in
set_option maxHeartbeats 40000000 in
theorem rm16 (l : Launch) (Z : State) (a0 : Array Value) (hw : ∀ d ∈ tables_1, d.before a0 Z = true) (ws : List Jvm.Cond) (u1 : Addr) (kb : ClassId) (y0 : Int32) (y1 : Int32) (h0 : Heap) (n0 : Nat) (O0 : Old Z n0 h0) (Vb : Arv Z h0 u1 kb .byte (2 : Int32) [(.int y0), (.int y1)] (.int 0)) :
    MetFree l (⟨"jdk/internal/util/ArraysSupport", "signedHashCode", "(I[BII)I"⟩ : MethodName) (head1 (Jvm.Cond.code (⟨"jdk/internal/util/ArraysSupport", "signedHashCode", "(I[BII)I"⟩ : MethodName) jdk_48_method_5_code 6 (some .int) :: ws) ({ frames := 0, cells := 0, slots := 0, locals := 0 } : Room)) (fun a U => a = #[(.int (0 : Int32)), (.ref u1), (.int (0 : Int32)), (.int (2 : Int32))] ∧ Z.Warmed39 U.vm ∧ U.heap = h0) (fun _ _ _ _ _ => True) (fun _ U o U' => ∃ v L, o = .returned v ∧ Q16 Z u1 kb y0 y1 h0 n0 v U'.heap L ∧ FrameEnd U o U' L ({ frames := 0, cells := 0, slots := 0, locals := 0 } : Room).cells ({ frames := 0, cells := 0, slots := 0, locals := 0 } : Room).slots) := by
  refine MetFree.of_bodySF (plainFor_of_name own_pn_jdk_internal_util_ArraysSupport) hisR ?_
  intro p e s m args below meth c s₁ Bd hml0 hP hK
  obtain ⟨rfl, hZ, hh⟩ := hP
  have hx := Bd.exec
  have hby := Bd.bytes
  have hml : c.maxLocals = 6 := hml0
  have hown : s.vm.findClass "jdk/internal/util/ArraysSupport" = some m.cls := findClass_of_methodNamed Bd.named
  have hnm := (name_of_methodNamed Bd.named Bd.method).1
  have X0 : Stand p l e ({ frames := 0, cells := 0, slots := 0, locals := 0 } : Room) s m #[(.int (0 : Int32)), (.ref u1), (.int (0 : Int32)), (.int (2 : Int32))] below meth c s₁ [] 0 0 := Stand.of_body Bd
  have e0 : s₁.heap = h0 := by rw [← hh, Bd.state]; rfl
  have N0 := Fr.nil n0
  change Go p.tables e below _ _
  refine own_on (B := s₁.setTop (mkF m 0 #[iv 0, rv u1, iv 0, iv 2, un, un] [])) (fun tz kz => castTop (own_ef_16 m (0 : Int32) u1 (0 : Int32) (2 : Int32)) kz) ?_
  refine own_on (B := s₁.setTop (mkF m 22 #[iv 0, rv u1, iv 0, iv 2, iv 2, iv 0] [(.int 0), (.ref u1), (.int 0)])) (fun tz kz => ?_) ?_
  · show sT p e below s₁ (mkF m 0 #[iv 0, rv u1, iv 0, iv 2, un, un] []) tz
    refine XS.iloadN X0.here hx rfl (hb hby own_d16_0) rfl ?_
    show sT p e below s₁ (mkF m 1 #[iv 0, rv u1, iv 0, iv 2, un, un] [(.int 0)]) tz
    refine XS.iloadN X0.here hx rfl (hb hby own_d16_1) rfl ?_
    show sT p e below s₁ (mkF m 2 #[iv 0, rv u1, iv 0, iv 2, un, un] [(.int 2), (.int 0)]) tz
    refine XS.iadd X0.here hx rfl (hb hby own_d16_2) rfl ?_
    show sT p e below s₁ (mkF m 3 #[iv 0, rv u1, iv 0, iv 2, un, un] [(.int 2)]) tz
    refine XS.istore X0.here hx rfl (hb hby own_d16_3) rfl (l' := #[iv 0, rv u1, iv 0, iv 2, iv 2, un]) rfl ?_
    show sT p e below s₁ (mkF m 5 #[iv 0, rv u1, iv 0, iv 2, iv 2, un] []) tz
    refine XS.iloadN X0.here hx rfl (hb hby own_d16_5) rfl ?_
    show sT p e below s₁ (mkF m 6 #[iv 0, rv u1, iv 0, iv 2, iv 2, un] [(.int 0)]) tz
    refine XS.istore X0.here hx rfl (hb hby own_d16_6) rfl (l' := #[iv 0, rv u1, iv 0, iv 2, iv 2, iv 0]) rfl ?_
    show sT p e below s₁ (mkF m 8 #[iv 0, rv u1, iv 0, iv 2, iv 2, iv 0] []) tz
    refine XS.iload X0.here hx rfl (hb hby own_d16_8) rfl ?_
    show sT p e below s₁ (mkF m 10 #[iv 0, rv u1, iv 0, iv 2, iv 2, iv 0] [(.int 0)]) tz
    refine XS.iload X0.here hx rfl (hb hby own_d16_10) rfl ?_
    show sT p e below s₁ (mkF m 12 #[iv 0, rv u1, iv 0, iv 2, iv 2, iv 0] [(.int 2), (.int 0)]) tz
    refine XS.icmpNo X0.here hx rfl (hb hby own_d16_12) rfl (tlt (by decide : (0 : Int32) < (2 : Int32))).2.1 ?_
    show sT p e below s₁ (mkF m 15 #[iv 0, rv u1, iv 0, iv 2, iv 2, iv 0] []) tz
    refine XS.bipush X0.here hx rfl (hb hby own_d16_15) ?_
    show sT p e below s₁ (mkF m 17 #[iv 0, rv u1, iv 0, iv 2, iv 2, iv 0] [(.int 31)]) tz
    refine XS.iloadN X0.here hx rfl (hb hby own_d16_17) rfl ?_
    show sT p e below s₁ (mkF m 18 #[iv 0, rv u1, iv 0, iv 2, iv 2, iv 0] [(.int 0), (.int 31)]) tz
    refine XS.imul X0.here hx rfl (hb hby own_d16_18) rfl ?_
    show sT p e below s₁ (mkF m 19 #[iv 0, rv u1, iv 0, iv 2, iv 2, iv 0] [(.int 0)]) tz
    refine XS.aloadN X0.here hx rfl (hb hby own_d16_19) rfl rfl ?_
    show sT p e below s₁ (mkF m 20 #[iv 0, rv u1, iv 0, iv 2, iv 2, iv 0] [(.ref u1), (.int 0)]) tz
    refine XS.iload X0.here hx rfl (hb hby own_d16_20) rfl ?_
    exact kz
  obtain ⟨cl1, Ar1, q1, S1, M1, H1, G1⟩ := id Vb
  have hin2 : ¬ ((0 : Int32) < 0 ∨ cl1.slots.size ≤ ((0 : Int32)).toNatClampNeg) := inb_of S1 ⟨by decide, by decide⟩
  have hat2 : cl1.slots[((0 : Int32)).toNatClampNeg]? = some (.int y0) := Has.at H1 hin2 rfl
  refine own_on (B := s₁.setTop (mkF m 22 #[iv ((0 : Int32) + (y0 &&& (255 : Int32))), rv u1, iv 0, iv 2, iv 2, iv 1] [(.int 1), (.ref u1), (.int ((31 : Int32) * ((0 : Int32) + (y0 &&& (255 : Int32)))))])) (fun tz kz => ?_) ?_
  · show sT p e below s₁ (mkF m 22 #[iv 0, rv u1, iv 0, iv 2, iv 2, iv 0] [(.int 0), (.ref u1), (.int 0)]) tz
    refine X0.baloadBytes hx (j := (0 : Int32)) (v := (.int y0)) (by rw [e0]; exact Ar1.1) (State.isArrayOf_alike hZ.alike Ar1.2.1) Ar1.2.2 hin2 hat2 (g := (mkF m 22 #[iv 0, rv u1, iv 0, iv 2, iv 2, iv 0] [(.int 0), (.ref u1), (.int 0)])) rfl rfl (hb hby own_d16_22) _ ?_
    show sT p e below s₁ (mkF m 23 #[iv 0, rv u1, iv 0, iv 2, iv 2, iv 0] [(.int y0), (.int 0)]) tz
    refine XS.sipush X0.here hx rfl (hb hby own_d16_23) ?_
    show sT p e below s₁ (mkF m 26 #[iv 0, rv u1, iv 0, iv 2, iv 2, iv 0] [(.int 255), (.int y0), (.int 0)]) tz
    refine XS.iand X0.here hx rfl (hb hby own_d16_26) rfl ?_
    show sT p e below s₁ (mkF m 27 #[iv 0, rv u1, iv 0, iv 2, iv 2, iv 0] [(.int (y0 &&& (255 : Int32))), (.int 0)]) tz
    refine XS.iadd X0.here hx rfl (hb hby own_d16_27) rfl ?_
    show sT p e below s₁ (mkF m 28 #[iv 0, rv u1, iv 0, iv 2, iv 2, iv 0] [(.int ((0 : Int32) + (y0 &&& (255 : Int32))))]) tz
    refine XS.istoreN X0.here hx rfl (hb hby own_d16_28) rfl (l' := #[iv ((0 : Int32) + (y0 &&& (255 : Int32))), rv u1, iv 0, iv 2, iv 2, iv 0]) rfl ?_
    show sT p e below s₁ (mkF m 29 #[iv ((0 : Int32) + (y0 &&& (255 : Int32))), rv u1, iv 0, iv 2, iv 2, iv 0] []) tz
    refine XS.iinc X0.here hx rfl (hb hby own_d16_29) rfl (l' := #[iv ((0 : Int32) + (y0 &&& (255 : Int32))), rv u1, iv 0, iv 2, iv 2, iv 1]) rfl ?_
    show sT p e below s₁ (mkF m 32 #[iv ((0 : Int32) + (y0 &&& (255 : Int32))), rv u1, iv 0, iv 2, iv 2, iv 1] []) tz
    refine XS.goto X0.here hx rfl (pc0 := 32) (pc' := 8) rfl (hb hby own_d16_32) (by decide) (by decide) ?_
    show sT p e below s₁ (mkF m 8 #[iv ((0 : Int32) + (y0 &&& (255 : Int32))), rv u1, iv 0, iv 2, iv 2, iv 1] []) tz
    refine XS.iload X0.here hx rfl (hb hby own_d16_8) rfl ?_
    show sT p e below s₁ (mkF m 10 #[iv ((0 : Int32) + (y0 &&& (255 : Int32))), rv u1, iv 0, iv 2, iv 2, iv 1] [(.int 1)]) tz
    refine XS.iload X0.here hx rfl (hb hby own_d16_10) rfl ?_
    show sT p e below s₁ (mkF m 12 #[iv ((0 : Int32) + (y0 &&& (255 : Int32))), rv u1, iv 0, iv 2, iv 2, iv 1] [(.int 2), (.int 1)]) tz
    refine XS.icmpNo X0.here hx rfl (hb hby own_d16_12) rfl (tlt (by decide : (1 : Int32) < (2 : Int32))).2.1 ?_
    show sT p e below s₁ (mkF m 15 #[iv ((0 : Int32) + (y0 &&& (255 : Int32))), rv u1, iv 0, iv 2, iv 2, iv 1] []) tz
    refine XS.bipush X0.here hx rfl (hb hby own_d16_15) ?_
    show sT p e below s₁ (mkF m 17 #[iv ((0 : Int32) + (y0 &&& (255 : Int32))), rv u1, iv 0, iv 2, iv 2, iv 1] [(.int 31)]) tz
    refine XS.iloadN X0.here hx rfl (hb hby own_d16_17) rfl ?_
    show sT p e below s₁ (mkF m 18 #[iv ((0 : Int32) + (y0 &&& (255 : Int32))), rv u1, iv 0, iv 2, iv 2, iv 1] [(.int ((0 : Int32) + (y0 &&& (255 : Int32)))), (.int 31)]) tz
    refine XS.imul X0.here hx rfl (hb hby own_d16_18) rfl ?_
    show sT p e below s₁ (mkF m 19 #[iv ((0 : Int32) + (y0 &&& (255 : Int32))), rv u1, iv 0, iv 2, iv 2, iv 1] [(.int ((31 : Int32) * ((0 : Int32) + (y0 &&& (255 : Int32)))))]) tz
    refine XS.aloadN X0.here hx rfl (hb hby own_d16_19) rfl rfl ?_
    show sT p e below s₁ (mkF m 20 #[iv ((0 : Int32) + (y0 &&& (255 : Int32))), rv u1, iv 0, iv 2, iv 2, iv 1] [(.ref u1), (.int ((31 : Int32) * ((0 : Int32) + (y0 &&& (255 : Int32)))))]) tz
    refine XS.iload X0.here hx rfl (hb hby own_d16_20) rfl ?_
    exact kz
  obtain ⟨cl3, Ar3, q3, S3, M3, H3, G3⟩ := id Vb
  have hin4 : ¬ ((1 : Int32) < 0 ∨ cl3.slots.size ≤ ((1 : Int32)).toNatClampNeg) := inb_of S3 ⟨by decide, by decide⟩
  have hat4 : cl3.slots[((1 : Int32)).toNatClampNeg]? = some (.int y1) := Has.at H3 hin4 rfl
  refine own_on (B := s₁.setTop (mkF m 36 #[iv (((31 : Int32) * ((0 : Int32) + (y0 &&& (255 : Int32)))) + (y1 &&& (255 : Int32))), rv u1, iv 0, iv 2, iv 2, iv 2] [(.int (((31 : Int32) * ((0 : Int32) + (y0 &&& (255 : Int32)))) + (y1 &&& (255 : Int32))))])) (fun tz kz => ?_) ?_
  · show sT p e below s₁ (mkF m 22 #[iv ((0 : Int32) + (y0 &&& (255 : Int32))), rv u1, iv 0, iv 2, iv 2, iv 1] [(.int 1), (.ref u1), (.int ((31 : Int32) * ((0 : Int32) + (y0 &&& (255 : Int32)))))]) tz
    refine X0.baloadBytes hx (j := (1 : Int32)) (v := (.int y1)) (by rw [e0]; exact Ar3.1) (State.isArrayOf_alike hZ.alike Ar3.2.1) Ar3.2.2 hin4 hat4 (g := (mkF m 22 #[iv ((0 : Int32) + (y0 &&& (255 : Int32))), rv u1, iv 0, iv 2, iv 2, iv 1] [(.int 1), (.ref u1), (.int ((31 : Int32) * ((0 : Int32) + (y0 &&& (255 : Int32)))))])) rfl rfl (hb hby own_d16_22) _ ?_
    show sT p e below s₁ (mkF m 23 #[iv ((0 : Int32) + (y0 &&& (255 : Int32))), rv u1, iv 0, iv 2, iv 2, iv 1] [(.int y1), (.int ((31 : Int32) * ((0 : Int32) + (y0 &&& (255 : Int32)))))]) tz
    refine XS.sipush X0.here hx rfl (hb hby own_d16_23) ?_
    show sT p e below s₁ (mkF m 26 #[iv ((0 : Int32) + (y0 &&& (255 : Int32))), rv u1, iv 0, iv 2, iv 2, iv 1] [(.int 255), (.int y1), (.int ((31 : Int32) * ((0 : Int32) + (y0 &&& (255 : Int32)))))]) tz
    refine XS.iand X0.here hx rfl (hb hby own_d16_26) rfl ?_
    show sT p e below s₁ (mkF m 27 #[iv ((0 : Int32) + (y0 &&& (255 : Int32))), rv u1, iv 0, iv 2, iv 2, iv 1] [(.int (y1 &&& (255 : Int32))), (.int ((31 : Int32) * ((0 : Int32) + (y0 &&& (255 : Int32)))))]) tz
    refine XS.iadd X0.here hx rfl (hb hby own_d16_27) rfl ?_
    show sT p e below s₁ (mkF m 28 #[iv ((0 : Int32) + (y0 &&& (255 : Int32))), rv u1, iv 0, iv 2, iv 2, iv 1] [(.int (((31 : Int32) * ((0 : Int32) + (y0 &&& (255 : Int32)))) + (y1 &&& (255 : Int32))))]) tz
    refine XS.istoreN X0.here hx rfl (hb hby own_d16_28) rfl (l' := #[iv (((31 : Int32) * ((0 : Int32) + (y0 &&& (255 : Int32)))) + (y1 &&& (255 : Int32))), rv u1, iv 0, iv 2, iv 2, iv 1]) rfl ?_
    show sT p e below s₁ (mkF m 29 #[iv (((31 : Int32) * ((0 : Int32) + (y0 &&& (255 : Int32)))) + (y1 &&& (255 : Int32))), rv u1, iv 0, iv 2, iv 2, iv 1] []) tz
    refine XS.iinc X0.here hx rfl (hb hby own_d16_29) rfl (l' := #[iv (((31 : Int32) * ((0 : Int32) + (y0 &&& (255 : Int32)))) + (y1 &&& (255 : Int32))), rv u1, iv 0, iv 2, iv 2, iv 2]) rfl ?_
    show sT p e below s₁ (mkF m 32 #[iv (((31 : Int32) * ((0 : Int32) + (y0 &&& (255 : Int32)))) + (y1 &&& (255 : Int32))), rv u1, iv 0, iv 2, iv 2, iv 2] []) tz
    refine XS.goto X0.here hx rfl (pc0 := 32) (pc' := 8) rfl (hb hby own_d16_32) (by decide) (by decide) ?_
    show sT p e below s₁ (mkF m 8 #[iv (((31 : Int32) * ((0 : Int32) + (y0 &&& (255 : Int32)))) + (y1 &&& (255 : Int32))), rv u1, iv 0, iv 2, iv 2, iv 2] []) tz
    refine XS.iload X0.here hx rfl (hb hby own_d16_8) rfl ?_
    show sT p e below s₁ (mkF m 10 #[iv (((31 : Int32) * ((0 : Int32) + (y0 &&& (255 : Int32)))) + (y1 &&& (255 : Int32))), rv u1, iv 0, iv 2, iv 2, iv 2] [(.int 2)]) tz
    refine XS.iload X0.here hx rfl (hb hby own_d16_10) rfl ?_
    show sT p e below s₁ (mkF m 12 #[iv (((31 : Int32) * ((0 : Int32) + (y0 &&& (255 : Int32)))) + (y1 &&& (255 : Int32))), rv u1, iv 0, iv 2, iv 2, iv 2] [(.int 2), (.int 2)]) tz
    refine XS.icmpYes X0.here hx rfl (pc0 := 12) (pc' := 35) rfl (hb hby own_d16_12) rfl (flt Int32.lt_irrefl).2.1 (by decide) (by decide) ?_
    show sT p e below s₁ (mkF m 35 #[iv (((31 : Int32) * ((0 : Int32) + (y0 &&& (255 : Int32)))) + (y1 &&& (255 : Int32))), rv u1, iv 0, iv 2, iv 2, iv 2] []) tz
    refine XS.iloadN X0.here hx rfl (hb hby own_d16_35) rfl ?_
    exact kz
  obtain ⟨fs, hr, hrun, hended, hW, hsame⟩ := X0.leave (v := some (.int (((31 : Int32) * ((0 : Int32) + (y0 &&& (255 : Int32)))) + (y1 &&& (255 : Int32))))) (fun h => by rw [Bd.returns] at h; cases h)
  refine own_of ⟨_, _, ?_, hrun, hended, _, _, rfl, ?_, ⟨_, rfl⟩, hW, hsame.mono (by decide) (by decide)⟩
  · show sT p e below s₁ (mkF m 36 #[iv (((31 : Int32) * ((0 : Int32) + (y0 &&& (255 : Int32)))) + (y1 &&& (255 : Int32))), rv u1, iv 0, iv 2, iv 2, iv 2] [(.int (((31 : Int32) * ((0 : Int32) + (y0 &&& (255 : Int32)))) + (y1 &&& (255 : Int32))))]) _
    exact own_retI X0 hx Bd.returns (hb hby own_d16_36) hr
  · show Q16 Z u1 kb y0 y1 h0 n0 _ s₁.heap _
    rw [e0]
    exact ⟨rfl, N0, rfl⟩
theorem own_ef_15 (m : MethodId) (x0 : Addr) (x1 : Int32) (x2 : Int32) (x3 : Int32) (x4 : Int32) : entryFrame m #[(.ref x0), (.int x1), (.int x2), (.int x3), (.int x4)] 5 = mkF m 0 #[rv x0, iv x1, iv x2, iv x3, iv x4] [] := by first | (simp [entryFrame, mkF, argsToLocals, Value.category]; done) | rfl
def Q15 (Z : State) (u0 : Addr) (kb : ClassId) (y0 : Int32) (y1 : Int32) (h0 : Heap) (n0 : Nat) (v : Option Value) (h : Heap) (L : List Loc) : Prop := v = some (.int (((31 : Int32) * ((0 : Int32) + (y0 &&& (255 : Int32)))) + (y1 &&& (255 : Int32)))) ∧ Fr n0 L ∧ h = h0
theorem own_d15_0 : decode jdk_48_method_4_code 0 = .ok (.iload 4, 2) := by decide +kernel
theorem own_d15_2 : decode jdk_48_method_4_code 2 = .ok (.tableswitch 127 4 10 #[42, 55, 127, 127, 88, 101, 114], 42) := by decide +kernel
theorem own_d15_44 : decode jdk_48_method_4_code 44 = .ok (.iload_n 3, 1) := by decide +kernel
theorem own_d15_45 : decode jdk_48_method_4_code 45 = .ok (.aload_n 0, 1) := by decide +kernel
theorem own_d15_46 : decode jdk_48_method_4_code 46 = .ok (.checkcast 60, 3) := by decide +kernel
theorem own_d15_49 : decode jdk_48_method_4_code 49 = .ok (.iload_n 1, 1) := by decide +kernel
theorem own_d15_50 : decode jdk_48_method_4_code 50 = .ok (.iload_n 2, 1) := by decide +kernel
theorem own_pd6 : parseMethodDescriptor "(I[BII)I" = some ⟨[.int, (.array .byte), .int, .int], some .int⟩ := by decide +kernel
theorem own_d15_51 : decode jdk_48_method_4_code 51 = .ok (.invokestatic 62, 3) := by decide +kernel
theorem own_d15_54 : decode jdk_48_method_4_code 54 = .ok (.goto 103, 3) := by decide +kernel
theorem own_d15_157 : decode jdk_48_method_4_code 157 = .ok (.ireturn, 1) := by decide +kernel
set_option maxRecDepth 65536 in
set_option maxHeartbeats 40000000 in
theorem rm15 (l : Launch) (Z : State) (a0 : Array Value) (hw : ∀ d ∈ tables_1, d.before a0 Z = true) (ws : List Jvm.Cond) (u0 : Addr) (kb : ClassId) (y0 : Int32) (y1 : Int32) (h0 : Heap) (n0 : Nat) (O0 : Old Z n0 h0) (Eb : Exa Z h0 u0 "[B") (Vb : Arv Z h0 u0 kb .byte (2 : Int32) [(.int y0), (.int y1)] (.int 0)) :
    MetFree l (⟨"jdk/internal/util/ArraysSupport", "vectorizedHashCode", "(Ljava/lang/Object;IIII)I"⟩ : MethodName) (head1 (Jvm.Cond.code (⟨"jdk/internal/util/ArraysSupport", "vectorizedHashCode", "(Ljava/lang/Object;IIII)I"⟩ : MethodName) jdk_48_method_4_code 5 (some .int) :: ws) ({ frames := 1, cells := 0, slots := 0, locals := 20 } : Room)) (fun a U => a = #[(.ref u0), (.int (0 : Int32)), (.int (2 : Int32)), (.int (0 : Int32)), (.int (4 : Int32))] ∧ Z.Warmed39 U.vm ∧ U.heap = h0) (fun _ _ _ _ _ => True) (fun _ U o U' => ∃ v L, o = .returned v ∧ Q15 Z u0 kb y0 y1 h0 n0 v U'.heap L ∧ FrameEnd U o U' L ({ frames := 1, cells := 0, slots := 0, locals := 20 } : Room).cells ({ frames := 1, cells := 0, slots := 0, locals := 20 } : Room).slots) := by
  refine MetFree.of_bodySF (plainFor_of_name own_pn_jdk_internal_util_ArraysSupport) hisR ?_
  intro p e s m args below meth c s₁ Bd hml0 hP hK
  obtain ⟨rfl, hZ, hh⟩ := hP
  have hx := Bd.exec
  have hby := Bd.bytes
  have hml : c.maxLocals = 5 := hml0
  have hown : s.vm.findClass "jdk/internal/util/ArraysSupport" = some m.cls := findClass_of_methodNamed Bd.named
  have hnm := (name_of_methodNamed Bd.named Bd.method).1
  have X0 : Stand p l e ({ frames := 1, cells := 0, slots := 0, locals := 20 } : Room) s m #[(.ref u0), (.int (0 : Int32)), (.int (2 : Int32)), (.int (0 : Int32)), (.int (4 : Int32))] below meth c s₁ [] 0 0 := Stand.of_body Bd
  have e0 : s₁.heap = h0 := by rw [← hh, Bd.state]; rfl
  have N0 := Fr.nil n0
  change Go p.tables e below _ _
  refine own_on (B := s₁.setTop (mkF m 0 #[rv u0, iv 0, iv 2, iv 0, iv 4] [])) (fun tz kz => castTop (own_ef_15 m u0 (0 : Int32) (2 : Int32) (0 : Int32) (4 : Int32)) kz) ?_
  refine own_on (B := s₁.setTop (mkF m 46 #[rv u0, iv 0, iv 2, iv 0, iv 4] [(.ref u0), (.int 0)])) (fun tz kz => ?_) ?_
  · show sT p e below s₁ (mkF m 0 #[rv u0, iv 0, iv 2, iv 0, iv 4] []) tz
    refine XS.iload X0.here hx rfl (hb hby own_d15_0) rfl ?_
    show sT p e below s₁ (mkF m 2 #[rv u0, iv 0, iv 2, iv 0, iv 4] [(.int 4)]) tz
    refine XS.tswIn X0.here hx rfl (pc0 := 2) (pc' := 44) (o := 42) rfl (hb hby own_d15_2) rfl (by decide) rfl (by decide) (by decide) ?_
    show sT p e below s₁ (mkF m 44 #[rv u0, iv 0, iv 2, iv 0, iv 4] []) tz
    refine XS.iloadN X0.here hx rfl (hb hby own_d15_44) rfl ?_
    show sT p e below s₁ (mkF m 45 #[rv u0, iv 0, iv 2, iv 0, iv 4] [(.int 0)]) tz
    refine XS.aloadN X0.here hx rfl (hb hby own_d15_45) rfl rfl ?_
    exact kz
  obtain ⟨T1, X1, e1, st1⟩ := castY X0 hx hZ hown (own_w hw 78 rfl) e0 (Ins.self Eb) (g := (mkF m 46 #[rv u0, iv 0, iv 2, iv 0, iv 4] [(.ref u0), (.int 0)])) rfl rfl (hb hby own_d15_46)
  refine own_on (B := T1.setTop (mkF m 49 #[rv u0, iv 0, iv 2, iv 0, iv 4] [(.ref u0), (.int 0)])) (fun tz kz => st1 _ kz) ?_
  refine own_on (B := T1.setTop (mkF m 51 #[rv u0, iv 0, iv 2, iv 0, iv 4] [(.int 2), (.int 0), (.ref u0), (.int 0)])) (fun tz kz => ?_) ?_
  · show sT p e below T1 (mkF m 49 #[rv u0, iv 0, iv 2, iv 0, iv 4] [(.ref u0), (.int 0)]) tz
    refine XS.iloadN X1.here hx rfl (hb hby own_d15_49) rfl ?_
    show sT p e below T1 (mkF m 50 #[rv u0, iv 0, iv 2, iv 0, iv 4] [(.int 0), (.ref u0), (.int 0)]) tz
    refine XS.iloadN X1.here hx rfl (hb hby own_d15_50) rfl ?_
    exact kz
  obtain ⟨_, _, ⟨T2, L2, k2, n2⟩, -, X2, ⟨Lc2, hQ2, l2, y2, z2⟩, st2⟩ := Jvm.LawKit.callS X1 hx (y := (⟨"jdk/internal/util/ArraysSupport", "signedHashCode", "(I[BII)I"⟩ : MethodName)) hown (mvT hZ (own_w hw 80 rfl)) (mvT hZ (own_w hw 81 rfl)) (mvT hZ (own_w hw 76 rfl)) (mvT hZ (own_w hw 82 rfl)) (by decide) (backOf (W := 0) (rm16 l Z a0 hw [] u0 kb y0 y1 h0 n0 O0 Vb) hZ (own_w hw 82 rfl) (own_w hw 76 rfl) (by decide) (by decide)) (g := (mkF m 51 #[rv u0, iv 0, iv 2, iv 0, iv 4] [(.int 2), (.int 0), (.ref u0), (.int 0)])) rfl (by rw [hml]; rfl) (argsL := [(.int (0 : Int32)), (.ref u0), (.int (0 : Int32)), (.int (2 : Int32))]) (rest := []) (lenOf own_pd6 rfl) rfl (by show 2 * 0 + _ ≤ _; exact Nat.le_of_eq rfl) (hb hby own_d15_51) (fun _ _ => ⟨rfl, e1, (by decide : 0 + 0 ≤ _), (by decide : 0 + 0 ≤ _)⟩)
  dsimp only [Pt.U, Pt.locs, Pt.cells, Pt.slots] at X2 l2 y2 z2 st2 hQ2
  subst l2 y2 z2
  obtain ⟨rfl, Nq2, e2⟩ := hQ2
  have N2 := Fr.app N0 Nq2
  refine own_on (B := T2.setTop (mkF m 54 #[rv u0, iv 0, iv 2, iv 0, iv 4] [(.int (((31 : Int32) * ((0 : Int32) + (y0 &&& (255 : Int32)))) + (y1 &&& (255 : Int32))))])) (fun tz kz => st2 _ kz) ?_
  refine own_on (B := T2.setTop (mkF m 157 #[rv u0, iv 0, iv 2, iv 0, iv 4] [(.int (((31 : Int32) * ((0 : Int32) + (y0 &&& (255 : Int32)))) + (y1 &&& (255 : Int32))))])) (fun tz kz => ?_) ?_
  · show sT p e below T2 (mkF m 54 #[rv u0, iv 0, iv 2, iv 0, iv 4] [(.int (((31 : Int32) * ((0 : Int32) + (y0 &&& (255 : Int32)))) + (y1 &&& (255 : Int32))))]) tz
    refine XS.goto X2.here hx rfl (pc0 := 54) (pc' := 157) rfl (hb hby own_d15_54) (by decide) (by decide) ?_
    exact kz
  obtain ⟨fs, hr, hrun, hended, hW, hsame⟩ := X2.leave (v := some (.int (((31 : Int32) * ((0 : Int32) + (y0 &&& (255 : Int32)))) + (y1 &&& (255 : Int32))))) (fun h => by rw [Bd.returns] at h; cases h)
  refine own_of ⟨_, _, ?_, hrun, hended, _, _, rfl, ?_, ⟨_, rfl⟩, hW, hsame.mono (by decide) (by decide)⟩
  · show sT p e below T2 (mkF m 157 #[rv u0, iv 0, iv 2, iv 0, iv 4] [(.int (((31 : Int32) * ((0 : Int32) + (y0 &&& (255 : Int32)))) + (y1 &&& (255 : Int32))))]) _
    exact own_retI X2 hx Bd.returns (hb hby own_d15_157) hr
  · show Q15 Z u0 kb y0 y1 h0 n0 _ T2.heap _
    rw [e2]
    exact ⟨rfl, N2, rfl⟩
theorem own_ef_14z (m : MethodId) (x0 : Addr) : entryFrame m #[(.ref x0)] 1 = mkF m 0 #[rv x0] [] := by first | (simp [entryFrame, mkF, argsToLocals, Value.category]; done) | rfl
def Q14z (Z : State) (u0 : Addr) (kb : ClassId) (h0 : Heap) (n0 : Nat) (v : Option Value) (h : Heap) (L : List Loc) : Prop := v = some (.int (0 : Int32)) ∧ Fr n0 L ∧ h = h0
theorem own_d14_0 : decode jdk_43_method_21_code 0 = .ok (.aload_n 0, 1) := by decide +kernel
theorem own_d14_1 : decode jdk_43_method_21_code 1 = .ok (.arraylength, 1) := by decide +kernel
theorem own_d14_2 : decode jdk_43_method_21_code 2 = .ok (.lookupswitch 40 #[(0, 26), (1, 30)], 26) := by decide +kernel
theorem own_d14_28 : decode jdk_43_method_21_code 28 = .ok (.iconst 0, 1) := by decide +kernel
theorem own_d14_29 : decode jdk_43_method_21_code 29 = .ok (.goto 22, 3) := by decide +kernel
theorem own_d14_51 : decode jdk_43_method_21_code 51 = .ok (.ireturn, 1) := by decide +kernel
set_option maxRecDepth 65536 in
set_option maxHeartbeats 40000000 in
theorem rm14z (l : Launch) (Z : State) (a0 : Array Value) (hw : ∀ d ∈ tables_1, d.before a0 Z = true) (ws : List Jvm.Cond) (u0 : Addr) (kb : ClassId) (h0 : Heap) (n0 : Nat) (O0 : Old Z n0 h0) (Vb : Arv Z h0 u0 kb .byte (0 : Int32) [] (.int 0)) :
    MetFree l (⟨"java/lang/StringLatin1", "hashCode", "([B)I"⟩ : MethodName) (head1 (Jvm.Cond.code (⟨"java/lang/StringLatin1", "hashCode", "([B)I"⟩ : MethodName) jdk_43_method_21_code 1 (some .int) :: ws) ({ frames := 2, cells := 0, slots := 0, locals := 40 } : Room)) (fun a U => a = #[(.ref u0)] ∧ Z.Warmed39 U.vm ∧ U.heap = h0) (fun _ _ _ _ _ => True) (fun _ U o U' => ∃ v L, o = .returned v ∧ Q14z Z u0 kb h0 n0 v U'.heap L ∧ FrameEnd U o U' L ({ frames := 2, cells := 0, slots := 0, locals := 40 } : Room).cells ({ frames := 2, cells := 0, slots := 0, locals := 40 } : Room).slots) := by
  refine MetFree.of_bodySF (plainFor_of_name own_pn_java_lang_StringLatin1) hisR ?_
  intro p e s m args below meth c s₁ Bd hml0 hP hK
  obtain ⟨rfl, hZ, hh⟩ := hP
  have hx := Bd.exec
  have hby := Bd.bytes
  have hml : c.maxLocals = 1 := hml0
  have hown : s.vm.findClass "java/lang/StringLatin1" = some m.cls := findClass_of_methodNamed Bd.named
  have hnm := (name_of_methodNamed Bd.named Bd.method).1
  have X0 : Stand p l e ({ frames := 2, cells := 0, slots := 0, locals := 40 } : Room) s m #[(.ref u0)] below meth c s₁ [] 0 0 := Stand.of_body Bd
  have e0 : s₁.heap = h0 := by rw [← hh, Bd.state]; rfl
  have N0 := Fr.nil n0
  change Go p.tables e below _ _
  refine own_on (B := s₁.setTop (mkF m 0 #[rv u0] [])) (fun tz kz => castTop (own_ef_14z m u0) kz) ?_
  refine own_on (B := s₁.setTop (mkF m 1 #[rv u0] [(.ref u0)])) (fun tz kz => ?_) ?_
  · show sT p e below s₁ (mkF m 0 #[rv u0] []) tz
    refine XS.aloadN X0.here hx rfl (hb hby own_d14_0) rfl rfl ?_
    exact kz
  obtain ⟨cl1, Ar1, q1, S1, M1, H1, G1⟩ := id Vb
  refine own_on (B := s₁.setTop (mkF m 51 #[rv u0] [(.int 0)])) (fun tz kz => ?_) ?_
  · show sT p e below s₁ (mkF m 1 #[rv u0] [(.ref u0)]) tz
    refine X0.arraylength hx (by rw [e0]; exact Ar1.1) (State.isArrayOf_alike hZ.alike Ar1.2.1) (g := (mkF m 1 #[rv u0] [(.ref u0)])) rfl rfl (hb hby own_d14_1) _ ?_
    rw [len_of S1 M1]
    show sT p e below s₁ (mkF m 2 #[rv u0] [(.int 0)]) tz
    refine X0.lookupswitchHit hx (g := (mkF m 2 #[rv u0] [(.int 0)])) rfl rfl (hb hby own_d14_2) (by decide) (a := 0) (off := 26) (by decide) (by show (0 : Int) ≤ ((2 : Nat) : Int) + 26; decide) _ ?_
    show sT p e below s₁ (mkF m 28 #[rv u0] []) tz
    refine XS.iconst X0.here hx rfl (hb hby own_d14_28) ?_
    show sT p e below s₁ (mkF m 29 #[rv u0] [(.int 0)]) tz
    refine XS.goto X0.here hx rfl (pc0 := 29) (pc' := 51) rfl (hb hby own_d14_29) (by decide) (by decide) ?_
    exact kz
  obtain ⟨fs, hr, hrun, hended, hW, hsame⟩ := X0.leave (v := some (.int (0 : Int32))) (fun h => by rw [Bd.returns] at h; cases h)
  refine own_of ⟨_, _, ?_, hrun, hended, _, _, rfl, ?_, ⟨_, rfl⟩, hW, hsame.mono (by decide) (by decide)⟩
  · show sT p e below s₁ (mkF m 51 #[rv u0] [(.int 0)]) _
    exact own_retI X0 hx Bd.returns (hb hby own_d14_51) hr
  · show Q14z Z u0 kb h0 n0 _ s₁.heap _
    rw [e0]
    exact ⟨rfl, N0, rfl⟩
theorem own_ef_14a (m : MethodId) (x0 : Addr) : entryFrame m #[(.ref x0)] 1 = mkF m 0 #[rv x0] [] := by first | (simp [entryFrame, mkF, argsToLocals, Value.category]; done) | rfl
def Q14a (Z : State) (u0 : Addr) (kb : ClassId) (y0 : Int32) (x0 : Int32) (h0 : Heap) (n0 : Nat) (v : Option Value) (h : Heap) (L : List Loc) : Prop := v = some (.int x0) ∧ Fr n0 L ∧ h = h0
theorem own_d14_32 : decode jdk_43_method_21_code 32 = .ok (.aload_n 0, 1) := by decide +kernel
theorem own_d14_33 : decode jdk_43_method_21_code 33 = .ok (.iconst 0, 1) := by decide +kernel
theorem own_d14_34 : decode jdk_43_method_21_code 34 = .ok (.baload, 1) := by decide +kernel
theorem own_d14_35 : decode jdk_43_method_21_code 35 = .ok (.sipush 255, 3) := by decide +kernel
theorem own_d14_38 : decode jdk_43_method_21_code 38 = .ok (.iand, 1) := by decide +kernel
theorem own_d14_39 : decode jdk_43_method_21_code 39 = .ok (.goto 12, 3) := by decide +kernel
set_option maxRecDepth 65536 in
set_option maxHeartbeats 40000000 in
theorem rm14a (l : Launch) (Z : State) (a0 : Array Value) (hw : ∀ d ∈ tables_1, d.before a0 Z = true) (ws : List Jvm.Cond) (u0 : Addr) (kb : ClassId) (y0 : Int32) (x0 : Int32) (h0 : Heap) (n0 : Nat) (O0 : Old Z n0 h0) (Vb : Arv Z h0 u0 kb .byte (1 : Int32) [(.int y0)] (.int 0)) (hm : y0 &&& (255 : Int32) = x0) :
    MetFree l (⟨"java/lang/StringLatin1", "hashCode", "([B)I"⟩ : MethodName) (head1 (Jvm.Cond.code (⟨"java/lang/StringLatin1", "hashCode", "([B)I"⟩ : MethodName) jdk_43_method_21_code 1 (some .int) :: ws) ({ frames := 2, cells := 0, slots := 0, locals := 40 } : Room)) (fun a U => a = #[(.ref u0)] ∧ Z.Warmed39 U.vm ∧ U.heap = h0) (fun _ _ _ _ _ => True) (fun _ U o U' => ∃ v L, o = .returned v ∧ Q14a Z u0 kb y0 x0 h0 n0 v U'.heap L ∧ FrameEnd U o U' L ({ frames := 2, cells := 0, slots := 0, locals := 40 } : Room).cells ({ frames := 2, cells := 0, slots := 0, locals := 40 } : Room).slots) := by
  refine MetFree.of_bodySF (plainFor_of_name own_pn_java_lang_StringLatin1) hisR ?_
  intro p e s m args below meth c s₁ Bd hml0 hP hK
  obtain ⟨rfl, hZ, hh⟩ := hP
  have hx := Bd.exec
  have hby := Bd.bytes
  have hml : c.maxLocals = 1 := hml0
  have hown : s.vm.findClass "java/lang/StringLatin1" = some m.cls := findClass_of_methodNamed Bd.named
  have hnm := (name_of_methodNamed Bd.named Bd.method).1
  have X0 : Stand p l e ({ frames := 2, cells := 0, slots := 0, locals := 40 } : Room) s m #[(.ref u0)] below meth c s₁ [] 0 0 := Stand.of_body Bd
  have e0 : s₁.heap = h0 := by rw [← hh, Bd.state]; rfl
  have N0 := Fr.nil n0
  change Go p.tables e below _ _
  refine own_on (B := s₁.setTop (mkF m 0 #[rv u0] [])) (fun tz kz => castTop (own_ef_14a m u0) kz) ?_
  refine own_on (B := s₁.setTop (mkF m 1 #[rv u0] [(.ref u0)])) (fun tz kz => ?_) ?_
  · show sT p e below s₁ (mkF m 0 #[rv u0] []) tz
    refine XS.aloadN X0.here hx rfl (hb hby own_d14_0) rfl rfl ?_
    exact kz
  obtain ⟨cl1, Ar1, q1, S1, M1, H1, G1⟩ := id Vb
  refine own_on (B := s₁.setTop (mkF m 34 #[rv u0] [(.int 0), (.ref u0)])) (fun tz kz => ?_) ?_
  · show sT p e below s₁ (mkF m 1 #[rv u0] [(.ref u0)]) tz
    refine X0.arraylength hx (by rw [e0]; exact Ar1.1) (State.isArrayOf_alike hZ.alike Ar1.2.1) (g := (mkF m 1 #[rv u0] [(.ref u0)])) rfl rfl (hb hby own_d14_1) _ ?_
    rw [len_of S1 M1]
    show sT p e below s₁ (mkF m 2 #[rv u0] [(.int 1)]) tz
    refine X0.lookupswitchHit hx (g := (mkF m 2 #[rv u0] [(.int 1)])) rfl rfl (hb hby own_d14_2) (by decide) (a := 1) (off := 30) (by decide) (by show (0 : Int) ≤ ((2 : Nat) : Int) + 30; decide) _ ?_
    show sT p e below s₁ (mkF m 32 #[rv u0] []) tz
    refine XS.aloadN X0.here hx rfl (hb hby own_d14_32) rfl rfl ?_
    show sT p e below s₁ (mkF m 33 #[rv u0] [(.ref u0)]) tz
    refine XS.iconst X0.here hx rfl (hb hby own_d14_33) ?_
    exact kz
  obtain ⟨cl2, Ar2, q2, S2, M2, H2, G2⟩ := id Vb
  have hin3 : ¬ ((0 : Int32) < 0 ∨ cl2.slots.size ≤ ((0 : Int32)).toNatClampNeg) := inb_of S2 ⟨by decide, by decide⟩
  have hat3 : cl2.slots[((0 : Int32)).toNatClampNeg]? = some (.int y0) := Has.at H2 hin3 rfl
  refine own_on (B := s₁.setTop (mkF m 51 #[rv u0] [(.int (y0 &&& (255 : Int32)))])) (fun tz kz => ?_) ?_
  · show sT p e below s₁ (mkF m 34 #[rv u0] [(.int 0), (.ref u0)]) tz
    refine X0.baloadBytes hx (j := (0 : Int32)) (v := (.int y0)) (by rw [e0]; exact Ar2.1) (State.isArrayOf_alike hZ.alike Ar2.2.1) Ar2.2.2 hin3 hat3 (g := (mkF m 34 #[rv u0] [(.int 0), (.ref u0)])) rfl rfl (hb hby own_d14_34) _ ?_
    show sT p e below s₁ (mkF m 35 #[rv u0] [(.int y0)]) tz
    refine XS.sipush X0.here hx rfl (hb hby own_d14_35) ?_
    show sT p e below s₁ (mkF m 38 #[rv u0] [(.int 255), (.int y0)]) tz
    refine XS.iand X0.here hx rfl (hb hby own_d14_38) rfl ?_
    show sT p e below s₁ (mkF m 39 #[rv u0] [(.int (y0 &&& (255 : Int32)))]) tz
    refine XS.goto X0.here hx rfl (pc0 := 39) (pc' := 51) rfl (hb hby own_d14_39) (by decide) (by decide) ?_
    exact kz
  rw [hm]
  obtain ⟨fs, hr, hrun, hended, hW, hsame⟩ := X0.leave (v := some (.int x0)) (fun h => by rw [Bd.returns] at h; cases h)
  refine own_of ⟨_, _, ?_, hrun, hended, _, _, rfl, ?_, ⟨_, rfl⟩, hW, hsame.mono (by decide) (by decide)⟩
  · show sT p e below s₁ (mkF m 51 #[rv u0] [(.int x0)]) _
    exact own_retI X0 hx Bd.returns (hb hby own_d14_51) hr
  · show Q14a Z u0 kb y0 x0 h0 n0 _ s₁.heap _
    rw [e0]
    exact ⟨rfl, N0, rfl⟩
theorem own_ef_14b (m : MethodId) (x0 : Addr) : entryFrame m #[(.ref x0)] 1 = mkF m 0 #[rv x0] [] := by first | (simp [entryFrame, mkF, argsToLocals, Value.category]; done) | rfl
def Q14b (Z : State) (u0 : Addr) (kb : ClassId) (y0 : Int32) (y1 : Int32) (h0 : Heap) (n0 : Nat) (v : Option Value) (h : Heap) (L : List Loc) : Prop := v = some (.int (((31 : Int32) * ((0 : Int32) + (y0 &&& (255 : Int32)))) + (y1 &&& (255 : Int32)))) ∧ Fr n0 L ∧ h = h0
theorem own_d14_42 : decode jdk_43_method_21_code 42 = .ok (.aload_n 0, 1) := by decide +kernel
theorem own_d14_43 : decode jdk_43_method_21_code 43 = .ok (.iconst 0, 1) := by decide +kernel
theorem own_d14_44 : decode jdk_43_method_21_code 44 = .ok (.aload_n 0, 1) := by decide +kernel
theorem own_d14_45 : decode jdk_43_method_21_code 45 = .ok (.arraylength, 1) := by decide +kernel
theorem own_d14_46 : decode jdk_43_method_21_code 46 = .ok (.iconst 0, 1) := by decide +kernel
theorem own_d14_47 : decode jdk_43_method_21_code 47 = .ok (.iconst 4, 1) := by decide +kernel
theorem own_pd7 : parseMethodDescriptor "(Ljava/lang/Object;IIII)I" = some ⟨[(.object "java/lang/Object"), .int, .int, .int, .int], some .int⟩ := by decide +kernel
theorem own_d14_48 : decode jdk_43_method_21_code 48 = .ok (.invokestatic 84, 3) := by decide +kernel
set_option maxRecDepth 65536 in
set_option maxHeartbeats 40000000 in
theorem rm14b (l : Launch) (Z : State) (a0 : Array Value) (hw : ∀ d ∈ tables_1, d.before a0 Z = true) (ws : List Jvm.Cond) (u0 : Addr) (kb : ClassId) (y0 : Int32) (y1 : Int32) (h0 : Heap) (n0 : Nat) (O0 : Old Z n0 h0) (Eb : Exa Z h0 u0 "[B") (Vb : Arv Z h0 u0 kb .byte (2 : Int32) [(.int y0), (.int y1)] (.int 0)) :
    MetFree l (⟨"java/lang/StringLatin1", "hashCode", "([B)I"⟩ : MethodName) (head1 (Jvm.Cond.code (⟨"java/lang/StringLatin1", "hashCode", "([B)I"⟩ : MethodName) jdk_43_method_21_code 1 (some .int) :: ws) ({ frames := 2, cells := 0, slots := 0, locals := 40 } : Room)) (fun a U => a = #[(.ref u0)] ∧ Z.Warmed39 U.vm ∧ U.heap = h0) (fun _ _ _ _ _ => True) (fun _ U o U' => ∃ v L, o = .returned v ∧ Q14b Z u0 kb y0 y1 h0 n0 v U'.heap L ∧ FrameEnd U o U' L ({ frames := 2, cells := 0, slots := 0, locals := 40 } : Room).cells ({ frames := 2, cells := 0, slots := 0, locals := 40 } : Room).slots) := by
  refine MetFree.of_bodySF (plainFor_of_name own_pn_java_lang_StringLatin1) hisR ?_
  intro p e s m args below meth c s₁ Bd hml0 hP hK
  obtain ⟨rfl, hZ, hh⟩ := hP
  have hx := Bd.exec
  have hby := Bd.bytes
  have hml : c.maxLocals = 1 := hml0
  have hown : s.vm.findClass "java/lang/StringLatin1" = some m.cls := findClass_of_methodNamed Bd.named
  have hnm := (name_of_methodNamed Bd.named Bd.method).1
  have X0 : Stand p l e ({ frames := 2, cells := 0, slots := 0, locals := 40 } : Room) s m #[(.ref u0)] below meth c s₁ [] 0 0 := Stand.of_body Bd
  have e0 : s₁.heap = h0 := by rw [← hh, Bd.state]; rfl
  have N0 := Fr.nil n0
  change Go p.tables e below _ _
  refine own_on (B := s₁.setTop (mkF m 0 #[rv u0] [])) (fun tz kz => castTop (own_ef_14b m u0) kz) ?_
  refine own_on (B := s₁.setTop (mkF m 1 #[rv u0] [(.ref u0)])) (fun tz kz => ?_) ?_
  · show sT p e below s₁ (mkF m 0 #[rv u0] []) tz
    refine XS.aloadN X0.here hx rfl (hb hby own_d14_0) rfl rfl ?_
    exact kz
  obtain ⟨cl1, Ar1, q1, S1, M1, H1, G1⟩ := id Vb
  refine own_on (B := s₁.setTop (mkF m 45 #[rv u0] [(.ref u0), (.int 0), (.ref u0)])) (fun tz kz => ?_) ?_
  · show sT p e below s₁ (mkF m 1 #[rv u0] [(.ref u0)]) tz
    refine X0.arraylength hx (by rw [e0]; exact Ar1.1) (State.isArrayOf_alike hZ.alike Ar1.2.1) (g := (mkF m 1 #[rv u0] [(.ref u0)])) rfl rfl (hb hby own_d14_1) _ ?_
    rw [len_of S1 M1]
    show sT p e below s₁ (mkF m 2 #[rv u0] [(.int 2)]) tz
    refine X0.lookupswitchMiss hx (g := (mkF m 2 #[rv u0] [(.int 2)])) rfl rfl (hb hby own_d14_2) (by decide) (by decide) (by show (0 : Int) ≤ ((2 : Nat) : Int) + 40; decide) _ ?_
    show sT p e below s₁ (mkF m 42 #[rv u0] []) tz
    refine XS.aloadN X0.here hx rfl (hb hby own_d14_42) rfl rfl ?_
    show sT p e below s₁ (mkF m 43 #[rv u0] [(.ref u0)]) tz
    refine XS.iconst X0.here hx rfl (hb hby own_d14_43) ?_
    show sT p e below s₁ (mkF m 44 #[rv u0] [(.int 0), (.ref u0)]) tz
    refine XS.aloadN X0.here hx rfl (hb hby own_d14_44) rfl rfl ?_
    exact kz
  obtain ⟨cl2, Ar2, q2, S2, M2, H2, G2⟩ := id Vb
  refine own_on (B := s₁.setTop (mkF m 48 #[rv u0] [(.int 4), (.int 0), (.int 2), (.int 0), (.ref u0)])) (fun tz kz => ?_) ?_
  · show sT p e below s₁ (mkF m 45 #[rv u0] [(.ref u0), (.int 0), (.ref u0)]) tz
    refine X0.arraylength hx (by rw [e0]; exact Ar2.1) (State.isArrayOf_alike hZ.alike Ar2.2.1) (g := (mkF m 45 #[rv u0] [(.ref u0), (.int 0), (.ref u0)])) rfl rfl (hb hby own_d14_45) _ ?_
    rw [len_of S2 M2]
    show sT p e below s₁ (mkF m 46 #[rv u0] [(.int 2), (.int 0), (.ref u0)]) tz
    refine XS.iconst X0.here hx rfl (hb hby own_d14_46) ?_
    show sT p e below s₁ (mkF m 47 #[rv u0] [(.int 0), (.int 2), (.int 0), (.ref u0)]) tz
    refine XS.iconst X0.here hx rfl (hb hby own_d14_47) ?_
    exact kz
  obtain ⟨_, _, ⟨T3, L3, k3, n3⟩, -, X3, ⟨Lc3, hQ3, l3, y3, z3⟩, st3⟩ := Jvm.LawKit.callS X0 hx (y := (⟨"jdk/internal/util/ArraysSupport", "vectorizedHashCode", "(Ljava/lang/Object;IIII)I"⟩ : MethodName)) hown (mvT hZ (own_w hw 74 rfl)) (mvT hZ (own_w hw 75 rfl)) (mvT hZ (own_w hw 76 rfl)) (mvT hZ (own_w hw 77 rfl)) (by decide) (backOf (W := 0) (rm15 l Z a0 hw [] u0 kb y0 y1 h0 n0 O0 Eb Vb) hZ (own_w hw 77 rfl) (own_w hw 76 rfl) (by decide) (by decide)) (g := (mkF m 48 #[rv u0] [(.int 4), (.int 0), (.int 2), (.int 0), (.ref u0)])) rfl (by rw [hml]; rfl) (argsL := [(.ref u0), (.int (0 : Int32)), (.int (2 : Int32)), (.int (0 : Int32)), (.int (4 : Int32))]) (rest := []) (lenOf own_pd7 rfl) rfl (by show 2 * 0 + _ ≤ _; exact Nat.le_of_eq rfl) (hb hby own_d14_48) (fun _ _ => ⟨rfl, e0, (by decide : 0 + 0 ≤ _), (by decide : 0 + 0 ≤ _)⟩)
  dsimp only [Pt.U, Pt.locs, Pt.cells, Pt.slots] at X3 l3 y3 z3 st3 hQ3
  subst l3 y3 z3
  obtain ⟨rfl, Nq3, e3⟩ := hQ3
  have N3 := Fr.app N0 Nq3
  refine own_on (B := T3.setTop (mkF m 51 #[rv u0] [(.int (((31 : Int32) * ((0 : Int32) + (y0 &&& (255 : Int32)))) + (y1 &&& (255 : Int32))))])) (fun tz kz => st3 _ kz) ?_
  obtain ⟨fs, hr, hrun, hended, hW, hsame⟩ := X3.leave (v := some (.int (((31 : Int32) * ((0 : Int32) + (y0 &&& (255 : Int32)))) + (y1 &&& (255 : Int32))))) (fun h => by rw [Bd.returns] at h; cases h)
  refine own_of ⟨_, _, ?_, hrun, hended, _, _, rfl, ?_, ⟨_, rfl⟩, hW, hsame.mono (by decide) (by decide)⟩
  · show sT p e below T3 (mkF m 51 #[rv u0] [(.int (((31 : Int32) * ((0 : Int32) + (y0 &&& (255 : Int32)))) + (y1 &&& (255 : Int32))))]) _
    exact own_retI X3 hx Bd.returns (hb hby own_d14_51) hr
  · show Q14b Z u0 kb y0 y1 h0 n0 _ T3.heap _
    rw [e3]
    exact ⟨rfl, N3, rfl⟩
theorem own_ef_13 (m : MethodId) (x0 : Addr) : entryFrame m #[(.ref x0)] 1 = mkF m 0 #[rv x0] [] := by first | (simp [entryFrame, mkF, argsToLocals, Value.category]; done) | rfl
def Q13 (Z : State) (u0 : Addr) (cS : Int32) (h0 : Heap) (n0 : Nat) (v : Option Value) (h : Heap) (L : List Loc) : Prop := v = some (.int (1 : Int32)) ∧ Fr n0 L ∧ h = h0
theorem own_d13_0 : decode jdk_42_method_154_code 0 = .ok (.getstatic 38, 3) := by decide +kernel
theorem own_d13_3 : decode jdk_42_method_154_code 3 = .ok (.ifCond .eq 14, 3) := by decide +kernel
theorem own_d13_6 : decode jdk_42_method_154_code 6 = .ok (.aload_n 0, 1) := by decide +kernel
theorem own_d13_7 : decode jdk_42_method_154_code 7 = .ok (.getfield 15, 3) := by decide +kernel
theorem own_d13_10 : decode jdk_42_method_154_code 10 = .ok (.ifCond .ne 7, 3) := by decide +kernel
theorem own_d13_13 : decode jdk_42_method_154_code 13 = .ok (.iconst 1, 1) := by decide +kernel
theorem own_d13_14 : decode jdk_42_method_154_code 14 = .ok (.goto 4, 3) := by decide +kernel
theorem own_d13_18 : decode jdk_42_method_154_code 18 = .ok (.ireturn, 1) := by decide +kernel
set_option maxRecDepth 65536 in
set_option maxHeartbeats 40000000 in
theorem rm13 (l : Launch) (Z : State) (a0 : Array Value) (hw : ∀ d ∈ tables_1, d.before a0 Z = true) (ws : List Jvm.Cond) (u0 : Addr) (cS : Int32) (h0 : Heap) (n0 : Nat) (O0 : Old Z n0 h0) (S_cs : Sta Z Z.heap "java/lang/String" "COMPACT_STRINGS" "Z" (.int cS)) (hcS : ¬ (cS = (0 : Int32))) (Fc : Fld Z h0 u0 "java/lang/String" "coder" "B" (.int (0 : Int32))) :
    MetFree l (⟨"java/lang/String", "isLatin1", "()Z"⟩ : MethodName) (head1 (Jvm.Cond.code (⟨"java/lang/String", "isLatin1", "()Z"⟩ : MethodName) jdk_42_method_154_code 1 (some .boolean) :: ws) ({ frames := 0, cells := 0, slots := 0, locals := 0 } : Room)) (fun a U => a = #[(.ref u0)] ∧ Z.Warmed39 U.vm ∧ U.heap = h0) (fun _ _ _ _ _ => True) (fun _ U o U' => ∃ v L, o = .returned v ∧ Q13 Z u0 cS h0 n0 v U'.heap L ∧ FrameEnd U o U' L ({ frames := 0, cells := 0, slots := 0, locals := 0 } : Room).cells ({ frames := 0, cells := 0, slots := 0, locals := 0 } : Room).slots) := by
  refine MetFree.of_bodySF (plainFor_of_name own_pn_java_lang_String) hisR ?_
  intro p e s m args below meth c s₁ Bd hml0 hP hK
  obtain ⟨rfl, hZ, hh⟩ := hP
  have hx := Bd.exec
  have hby := Bd.bytes
  have hml : c.maxLocals = 1 := hml0
  have hown : s.vm.findClass "java/lang/String" = some m.cls := findClass_of_methodNamed Bd.named
  have hnm := (name_of_methodNamed Bd.named Bd.method).1
  have X0 : Stand p l e ({ frames := 0, cells := 0, slots := 0, locals := 0 } : Room) s m #[(.ref u0)] below meth c s₁ [] 0 0 := Stand.of_body Bd
  have e0 : s₁.heap = h0 := by rw [← hh, Bd.state]; rfl
  have N0 := Fr.nil n0
  change Go p.tables e below _ _
  refine own_on (B := s₁.setTop (mkF m 0 #[rv u0] [])) (fun tz kz => castTop (own_ef_13 m u0) kz) ?_
  obtain ⟨T1, X1, e1, st1⟩ := getS2 X0 hx hZ hown (host := "") (Or.inl (own_w hw 39 rfl)) Via.refl e0 (S_cs.ext O0.2) (g := (mkF m 0 #[rv u0] [])) rfl (hb hby own_d13_0)
  refine own_on (B := T1.setTop (mkF m 3 #[rv u0] [(.int cS)])) (fun tz kz => st1 _ kz) ?_
  refine own_on (B := T1.setTop (mkF m 7 #[rv u0] [(.ref u0)])) (fun tz kz => ?_) ?_
  · show sT p e below T1 (mkF m 3 #[rv u0] [(.int cS)]) tz
    refine XS.ifNo X1.here hx rfl (hb hby own_d13_3) rfl ((if0 _ _).trans (feq hcS).1) ?_
    show sT p e below T1 (mkF m 6 #[rv u0] []) tz
    refine XS.aloadN X1.here hx rfl (hb hby own_d13_6) rfl rfl ?_
    exact kz
  obtain ⟨T2, X2, e2, st2⟩ := getF X1 hx hZ hown (host := "") (Or.inl (own_w hw 28 rfl)) Via.refl e1 Fc (g := (mkF m 7 #[rv u0] [(.ref u0)])) rfl rfl (hb hby own_d13_7)
  refine own_on (B := T2.setTop (mkF m 10 #[rv u0] [(.int 0)])) (fun tz kz => st2 _ kz) ?_
  refine own_on (B := T2.setTop (mkF m 18 #[rv u0] [(.int 1)])) (fun tz kz => ?_) ?_
  · show sT p e below T2 (mkF m 10 #[rv u0] [(.int 0)]) tz
    refine XS.ifNo X2.here hx rfl (hb hby own_d13_10) rfl ((if0 _ _).trans (teq rfl).2) ?_
    show sT p e below T2 (mkF m 13 #[rv u0] []) tz
    refine XS.iconst X2.here hx rfl (hb hby own_d13_13) ?_
    show sT p e below T2 (mkF m 14 #[rv u0] [(.int 1)]) tz
    refine XS.goto X2.here hx rfl (pc0 := 14) (pc' := 18) rfl (hb hby own_d13_14) (by decide) (by decide) ?_
    exact kz
  obtain ⟨fs, hr, hrun, hended, hW, hsame⟩ := X2.leave (v := some (.int (1 : Int32))) (fun h => by rw [Bd.returns] at h; cases h)
  refine own_of ⟨_, _, ?_, hrun, hended, _, _, rfl, ?_, ⟨_, rfl⟩, hW, hsame.mono (by decide) (by decide)⟩
  · show sT p e below T2 (mkF m 18 #[rv u0] [(.int 1)]) _
    exact own_retN X2 hx (t := .boolean) Bd.returns (by simp) (by first | rfl | (split <;> first | rfl | (split <;> first | rfl | (split <;> rfl)))) (hb hby own_d13_18) hr
  · show Q13 Z u0 cS h0 n0 _ T2.heap _
    rw [e2]
    exact ⟨rfl, N0, rfl⟩
theorem own_ef_12z (m : MethodId) (x0 : Addr) : entryFrame m #[(.ref x0)] 2 = mkF m 0 #[rv x0, .unset] [] := by first | (simp [entryFrame, mkF, argsToLocals, Value.category]; done) | rfl
def Q12z (Z : State) (u0 : Addr) (cS : Int32) (bv : Addr) (kb : ClassId) (h0 : Heap) (n0 : Nat) (v : Option Value) (h : Heap) (L : List Loc) : Prop := v = some (.int (0 : Int32)) ∧ Fr n0 L ∧ Keep h0 h [u0] ∧ Fld Z h u0 "java/lang/String" "value" "[B" (.ref bv) ∧ Fld Z h u0 "java/lang/String" "coder" "B" (.int (0 : Int32))
theorem own_d12_0 : decode jdk_42_method_78_code 0 = .ok (.aload_n 0, 1) := by decide +kernel
theorem own_d12_1 : decode jdk_42_method_78_code 1 = .ok (.getfield 19, 3) := by decide +kernel
theorem own_d12_4 : decode jdk_42_method_78_code 4 = .ok (.istore_n 1, 1) := by decide +kernel
theorem own_d12_5 : decode jdk_42_method_78_code 5 = .ok (.iload_n 1, 1) := by decide +kernel
theorem own_d12_6 : decode jdk_42_method_78_code 6 = .ok (.ifCond .ne 52, 3) := by decide +kernel
theorem own_d12_9 : decode jdk_42_method_78_code 9 = .ok (.aload_n 0, 1) := by decide +kernel
theorem own_d12_10 : decode jdk_42_method_78_code 10 = .ok (.getfield 23, 3) := by decide +kernel
theorem own_d12_13 : decode jdk_42_method_78_code 13 = .ok (.ifCond .ne 45, 3) := by decide +kernel
theorem own_d12_16 : decode jdk_42_method_78_code 16 = .ok (.aload_n 0, 1) := by decide +kernel
theorem own_pd8 : parseMethodDescriptor "()Z" = some ⟨[], some .boolean⟩ := by decide +kernel
theorem own_d12_17 : decode jdk_42_method_78_code 17 = .ok (.invokevirtual 492, 3) := by decide +kernel
theorem own_d12_20 : decode jdk_42_method_78_code 20 = .ok (.ifCond .eq 13, 3) := by decide +kernel
theorem own_d12_23 : decode jdk_42_method_78_code 23 = .ok (.aload_n 0, 1) := by decide +kernel
theorem own_d12_24 : decode jdk_42_method_78_code 24 = .ok (.getfield 9, 3) := by decide +kernel
theorem own_pd9 : parseMethodDescriptor "([B)I" = some ⟨[(.array .byte)], some .int⟩ := by decide +kernel
theorem own_d12_27 : decode jdk_42_method_78_code 27 = .ok (.invokestatic 628, 3) := by decide +kernel
theorem own_d12_30 : decode jdk_42_method_78_code 30 = .ok (.goto 10, 3) := by decide +kernel
theorem own_d12_40 : decode jdk_42_method_78_code 40 = .ok (.istore_n 1, 1) := by decide +kernel
theorem own_d12_41 : decode jdk_42_method_78_code 41 = .ok (.iload_n 1, 1) := by decide +kernel
theorem own_d12_42 : decode jdk_42_method_78_code 42 = .ok (.ifCond .ne 11, 3) := by decide +kernel
theorem own_d12_45 : decode jdk_42_method_78_code 45 = .ok (.aload_n 0, 1) := by decide +kernel
theorem own_d12_46 : decode jdk_42_method_78_code 46 = .ok (.iconst 1, 1) := by decide +kernel
theorem own_d12_47 : decode jdk_42_method_78_code 47 = .ok (.putfield 23, 3) := by decide +kernel
theorem own_d12_50 : decode jdk_42_method_78_code 50 = .ok (.goto 8, 3) := by decide +kernel
theorem own_d12_58 : decode jdk_42_method_78_code 58 = .ok (.iload_n 1, 1) := by decide +kernel
theorem own_d12_59 : decode jdk_42_method_78_code 59 = .ok (.ireturn, 1) := by decide +kernel
set_option maxRecDepth 65536 in
set_option maxHeartbeats 40000000 in
theorem rm12z (l : Launch) (Z : State) (a0 : Array Value) (hw : ∀ d ∈ tables_1, d.before a0 Z = true) (ws : List Jvm.Cond) (u0 : Addr) (cS : Int32) (bv : Addr) (kb : ClassId) (h0 : Heap) (n0 : Nat) (O0 : Old Z n0 h0) (S_cs : Sta Z Z.heap "java/lang/String" "COMPACT_STRINGS" "Z" (.int cS)) (hcS : ¬ (cS = (0 : Int32))) (E_u0 : Exa Z h0 u0 "java/lang/String") (g_u0 : n0 ≤ u0) (F_value : Fld Z h0 u0 "java/lang/String" "value" "[B" (.ref bv)) (F_coder : Fld Z h0 u0 "java/lang/String" "coder" "B" (.int (0 : Int32))) (F_hash : Fld Z h0 u0 "java/lang/String" "hash" "I" (.int (0 : Int32))) (F_hashIsZero : Fld Z h0 u0 "java/lang/String" "hashIsZero" "Z" (.int (0 : Int32))) (Vb : Arv Z h0 bv kb .byte (0 : Int32) [] (.int 0)) :
    MetFree l (⟨"java/lang/String", "hashCode", "()I"⟩ : MethodName) (head1 (Jvm.Cond.code (⟨"java/lang/String", "hashCode", "()I"⟩ : MethodName) jdk_42_method_78_code 2 (some .int) :: ws) ({ frames := 3, cells := 0, slots := 0, locals := 60 } : Room)) (fun a U => a = #[(.ref u0)] ∧ Z.Warmed39 U.vm ∧ U.heap = h0) (fun _ _ _ _ _ => True) (fun _ U o U' => ∃ v L, o = .returned v ∧ Q12z Z u0 cS bv kb h0 n0 v U'.heap L ∧ FrameEnd U o U' L ({ frames := 3, cells := 0, slots := 0, locals := 60 } : Room).cells ({ frames := 3, cells := 0, slots := 0, locals := 60 } : Room).slots) := by
  refine MetFree.of_bodySF (plainFor_of_name own_pn_java_lang_String) hisR ?_
  intro p e s m args below meth c s₁ Bd hml0 hP hK
  obtain ⟨rfl, hZ, hh⟩ := hP
  have hx := Bd.exec
  have hby := Bd.bytes
  have hml : c.maxLocals = 2 := hml0
  have hown : s.vm.findClass "java/lang/String" = some m.cls := findClass_of_methodNamed Bd.named
  have hnm := (name_of_methodNamed Bd.named Bd.method).1
  have X0 : Stand p l e ({ frames := 3, cells := 0, slots := 0, locals := 60 } : Room) s m #[(.ref u0)] below meth c s₁ [] 0 0 := Stand.of_body Bd
  have e0 : s₁.heap = h0 := by rw [← hh, Bd.state]; rfl
  have N0 := Fr.nil n0
  change Go p.tables e below _ _
  refine own_on (B := s₁.setTop (mkF m 0 #[rv u0, un] [])) (fun tz kz => castTop (own_ef_12z m u0) kz) ?_
  refine own_on (B := s₁.setTop (mkF m 1 #[rv u0, un] [(.ref u0)])) (fun tz kz => ?_) ?_
  · show sT p e below s₁ (mkF m 0 #[rv u0, un] []) tz
    refine XS.aloadN X0.here hx rfl (hb hby own_d12_0) rfl rfl ?_
    exact kz
  obtain ⟨T1, X1, e1, st1⟩ := getF X0 hx hZ hown (host := "") (Or.inl (own_w hw 62 rfl)) Via.refl e0 F_hash (g := (mkF m 1 #[rv u0, un] [(.ref u0)])) rfl rfl (hb hby own_d12_1)
  refine own_on (B := T1.setTop (mkF m 4 #[rv u0, un] [(.int 0)])) (fun tz kz => st1 _ kz) ?_
  refine own_on (B := T1.setTop (mkF m 10 #[rv u0, iv 0] [(.ref u0)])) (fun tz kz => ?_) ?_
  · show sT p e below T1 (mkF m 4 #[rv u0, un] [(.int 0)]) tz
    refine XS.istoreN X1.here hx rfl (hb hby own_d12_4) rfl (l' := #[rv u0, iv 0]) rfl ?_
    show sT p e below T1 (mkF m 5 #[rv u0, iv 0] []) tz
    refine XS.iloadN X1.here hx rfl (hb hby own_d12_5) rfl ?_
    show sT p e below T1 (mkF m 6 #[rv u0, iv 0] [(.int 0)]) tz
    refine XS.ifNo X1.here hx rfl (hb hby own_d12_6) rfl ((if0 _ _).trans (teq rfl).2) ?_
    show sT p e below T1 (mkF m 9 #[rv u0, iv 0] []) tz
    refine XS.aloadN X1.here hx rfl (hb hby own_d12_9) rfl rfl ?_
    exact kz
  obtain ⟨T2, X2, e2, st2⟩ := getF X1 hx hZ hown (host := "") (Or.inl (own_w hw 64 rfl)) Via.refl e1 F_hashIsZero (g := (mkF m 10 #[rv u0, iv 0] [(.ref u0)])) rfl rfl (hb hby own_d12_10)
  refine own_on (B := T2.setTop (mkF m 13 #[rv u0, iv 0] [(.int 0)])) (fun tz kz => st2 _ kz) ?_
  refine own_on (B := T2.setTop (mkF m 17 #[rv u0, iv 0] [(.ref u0)])) (fun tz kz => ?_) ?_
  · show sT p e below T2 (mkF m 13 #[rv u0, iv 0] [(.int 0)]) tz
    refine XS.ifNo X2.here hx rfl (hb hby own_d12_13) rfl ((if0 _ _).trans (teq rfl).2) ?_
    show sT p e below T2 (mkF m 16 #[rv u0, iv 0] []) tz
    refine XS.aloadN X2.here hx rfl (hb hby own_d12_16) rfl rfl ?_
    exact kz
  obtain ⟨cq3, kq3, q3a, q3b, q3c⟩ := isOf hZ e2 E_u0
  obtain ⟨_, _, ⟨T3, L3, k3, n3⟩, -, X3, ⟨Lc3, hQ3, l3, y3, z3⟩, st3⟩ := X2.virtualBack hx (y := (⟨"java/lang/String", "isLatin1", "()Z"⟩ : MethodName)) (z := (⟨"java/lang/String", "isLatin1", "()Z"⟩ : MethodName)) hown (mvT hZ (own_w hw 66 rfl)) (mvT hZ (own_w hw 67 rfl)) (notFace_of_selects (args := #[]) (mvT hZ (own_w hw 69 rfl))) (mvT hZ (own_w hw 69 rfl)) (mvT hZ (own_w hw 68 rfl)) (by decide) (backOf (W := 0) (rm13 l Z a0 hw [] u0 cS h0 n0 O0 S_cs hcS F_coder) hZ (own_w hw 70 rfl) (own_w hw 9 rfl) (by decide) (by decide)) q3a q3c (g := (mkF m 17 #[rv u0, iv 0] [(.ref u0)])) rfl (by rw [hml]; rfl) (Steps.refl _) (argsL := []) (rest := []) (lenOf own_pd8 rfl) rfl (by show 2 * 0 + _ ≤ _; exact Nat.le_of_eq rfl) (hb hby own_d12_17) (fun _ _ => ⟨rfl, e2, (by decide : 0 + 0 ≤ _), (by decide : 0 + 0 ≤ _)⟩)
  dsimp only [Pt.U, Pt.locs, Pt.cells, Pt.slots] at X3 l3 y3 z3 st3 hQ3
  subst l3 y3 z3
  obtain ⟨rfl, Nq3, e3⟩ := hQ3
  have N3 := Fr.app N0 Nq3
  refine own_on (B := T3.setTop (mkF m 20 #[rv u0, iv 0] [(.int 1)])) (fun tz kz => st3.trans kz) ?_
  refine own_on (B := T3.setTop (mkF m 24 #[rv u0, iv 0] [(.ref u0)])) (fun tz kz => ?_) ?_
  · show sT p e below T3 (mkF m 20 #[rv u0, iv 0] [(.int 1)]) tz
    refine XS.ifNo X3.here hx rfl (hb hby own_d12_20) rfl ((if0 _ _).trans (feq (by decide : ¬ ((1 : Int32) = (0 : Int32)))).1) ?_
    show sT p e below T3 (mkF m 23 #[rv u0, iv 0] []) tz
    refine XS.aloadN X3.here hx rfl (hb hby own_d12_23) rfl rfl ?_
    exact kz
  obtain ⟨T4, X4, e4, st4⟩ := getF X3 hx hZ hown (host := "") (Or.inl (own_w hw 27 rfl)) Via.refl e3 F_value (g := (mkF m 24 #[rv u0, iv 0] [(.ref u0)])) rfl rfl (hb hby own_d12_24)
  refine own_on (B := T4.setTop (mkF m 27 #[rv u0, iv 0] [(.ref bv)])) (fun tz kz => st4 _ kz) ?_
  obtain ⟨_, _, ⟨T5, L5, k5, n5⟩, -, X5, ⟨Lc5, hQ5, l5, y5, z5⟩, st5⟩ := Jvm.LawKit.callS X4 hx (y := (⟨"java/lang/StringLatin1", "hashCode", "([B)I"⟩ : MethodName)) hown (mvT hZ (own_w hw 71 rfl)) (mvT hZ (own_w hw 72 rfl)) (mvT hZ (own_w hw 42 rfl)) (mvT hZ (own_w hw 73 rfl)) (by decide) (backOf (W := 0) (rm14z l Z a0 hw [] bv kb h0 n0 O0 Vb) hZ (own_w hw 73 rfl) (own_w hw 42 rfl) (by decide) (by decide)) (g := (mkF m 27 #[rv u0, iv 0] [(.ref bv)])) rfl (by rw [hml]; rfl) (argsL := [(.ref bv)]) (rest := []) (lenOf own_pd9 rfl) rfl (by show 2 * 0 + _ ≤ _; exact Nat.le_of_eq rfl) (hb hby own_d12_27) (fun _ _ => ⟨rfl, e4, (by decide : 0 + 0 ≤ _), (by decide : 0 + 0 ≤ _)⟩)
  dsimp only [Pt.U, Pt.locs, Pt.cells, Pt.slots] at X5 l5 y5 z5 st5 hQ5
  subst l5 y5 z5
  obtain ⟨rfl, Nq5, e5⟩ := hQ5
  have N5 := Fr.app N3 Nq5
  refine own_on (B := T5.setTop (mkF m 30 #[rv u0, iv 0] [(.int 0)])) (fun tz kz => st5 _ kz) ?_
  refine own_on (B := T5.setTop (mkF m 47 #[rv u0, iv 0] [(.int 1), (.ref u0)])) (fun tz kz => ?_) ?_
  · show sT p e below T5 (mkF m 30 #[rv u0, iv 0] [(.int 0)]) tz
    refine XS.goto X5.here hx rfl (pc0 := 30) (pc' := 40) rfl (hb hby own_d12_30) (by decide) (by decide) ?_
    show sT p e below T5 (mkF m 40 #[rv u0, iv 0] [(.int 0)]) tz
    refine XS.istoreN X5.here hx rfl (hb hby own_d12_40) rfl (l' := #[rv u0, iv 0]) rfl ?_
    show sT p e below T5 (mkF m 41 #[rv u0, iv 0] []) tz
    refine XS.iloadN X5.here hx rfl (hb hby own_d12_41) rfl ?_
    show sT p e below T5 (mkF m 42 #[rv u0, iv 0] [(.int 0)]) tz
    refine XS.ifNo X5.here hx rfl (hb hby own_d12_42) rfl ((if0 _ _).trans (teq rfl).2) ?_
    show sT p e below T5 (mkF m 45 #[rv u0, iv 0] []) tz
    refine XS.aloadN X5.here hx rfl (hb hby own_d12_45) rfl rfl ?_
    show sT p e below T5 (mkF m 46 #[rv u0, iv 0] [(.ref u0)]) tz
    refine XS.iconst X5.here hx rfl (hb hby own_d12_46) ?_
    exact kz
  obtain ⟨T6, h6, X6, e6, W6, st6⟩ := putFN X5 hx hZ hown (own_w hw 64 rfl) Via.refl e5 F_hashIsZero E_u0 (Or.inl (own_w hw 65 rfl)) (own_w hw 8 rfl) (ty := .boolean) (v' := (.int (1 : Int32))) (by decide) rfl rfl (g := (mkF m 47 #[rv u0, iv 0] [(.int 1), (.ref u0)])) rfl rfl (hb hby own_d12_47)
  have Fw6 := F_hashIsZero.same W6
  have N6 := Fr.snoc X6 N5 g_u0
  have O7 := O0.wr W6 g_u0
  have K7 : Keep h0 h6 [u0] := (Keep.refl h0 [u0]).wr W6 (Or.inl (List.mem_of_getElem? (i := 0) rfl))
  refine own_on (B := T6.setTop (mkF m 50 #[rv u0, iv 0] [])) (fun tz kz => st6 _ kz) ?_
  have f_8 := (F_value.other W6 (Or.inr (slot_ne (Or.inr (own_w hw 23 rfl)) (Or.inl (own_w hw 65 rfl)) (by decide) (t := (.array .byte)) (t' := .boolean) (by decide) (by decide))))
  have f_9 := (F_coder.other W6 (Or.inr (slot_ne (Or.inr (own_w hw 24 rfl)) (Or.inl (own_w hw 65 rfl)) (by decide) (t := .byte) (t' := .boolean) (by decide) (by decide))))
  refine own_on (B := T6.setTop (mkF m 59 #[rv u0, iv 0] [(.int 0)])) (fun tz kz => ?_) ?_
  · show sT p e below T6 (mkF m 50 #[rv u0, iv 0] []) tz
    refine XS.goto X6.here hx rfl (pc0 := 50) (pc' := 58) rfl (hb hby own_d12_50) (by decide) (by decide) ?_
    show sT p e below T6 (mkF m 58 #[rv u0, iv 0] []) tz
    refine XS.iloadN X6.here hx rfl (hb hby own_d12_58) rfl ?_
    exact kz
  obtain ⟨fs, hr, hrun, hended, hW, hsame⟩ := X6.leave (v := some (.int (0 : Int32))) (fun h => by rw [Bd.returns] at h; cases h)
  refine own_of ⟨_, _, ?_, hrun, hended, _, _, rfl, ?_, ⟨_, rfl⟩, hW, hsame.mono (by decide) (by decide)⟩
  · show sT p e below T6 (mkF m 59 #[rv u0, iv 0] [(.int 0)]) _
    exact own_retI X6 hx Bd.returns (hb hby own_d12_59) hr
  · show Q12z Z u0 cS bv kb h0 n0 _ T6.heap _
    rw [e6]
    exact ⟨rfl, N6, K7, f_8, f_9⟩
theorem own_ef_12a (m : MethodId) (x0 : Addr) : entryFrame m #[(.ref x0)] 2 = mkF m 0 #[rv x0, .unset] [] := by first | (simp [entryFrame, mkF, argsToLocals, Value.category]; done) | rfl
def Q12a (Z : State) (u0 : Addr) (cS : Int32) (bv : Addr) (kb : ClassId) (y0 : Int32) (x0 : Int32) (h0 : Heap) (n0 : Nat) (v : Option Value) (h : Heap) (L : List Loc) : Prop := v = some (.int x0) ∧ Fr n0 L ∧ Keep h0 h [u0] ∧ Fld Z h u0 "java/lang/String" "value" "[B" (.ref bv) ∧ Fld Z h u0 "java/lang/String" "coder" "B" (.int (0 : Int32))
theorem own_d12_53 : decode jdk_42_method_78_code 53 = .ok (.aload_n 0, 1) := by decide +kernel
theorem own_d12_54 : decode jdk_42_method_78_code 54 = .ok (.iload_n 1, 1) := by decide +kernel
theorem own_d12_55 : decode jdk_42_method_78_code 55 = .ok (.putfield 19, 3) := by decide +kernel
set_option maxRecDepth 65536 in
set_option maxHeartbeats 40000000 in
theorem rm12a (l : Launch) (Z : State) (a0 : Array Value) (hw : ∀ d ∈ tables_1, d.before a0 Z = true) (ws : List Jvm.Cond) (u0 : Addr) (cS : Int32) (bv : Addr) (kb : ClassId) (y0 : Int32) (x0 : Int32) (h0 : Heap) (n0 : Nat) (O0 : Old Z n0 h0) (S_cs : Sta Z Z.heap "java/lang/String" "COMPACT_STRINGS" "Z" (.int cS)) (hcS : ¬ (cS = (0 : Int32))) (E_u0 : Exa Z h0 u0 "java/lang/String") (g_u0 : n0 ≤ u0) (F_value : Fld Z h0 u0 "java/lang/String" "value" "[B" (.ref bv)) (F_coder : Fld Z h0 u0 "java/lang/String" "coder" "B" (.int (0 : Int32))) (F_hash : Fld Z h0 u0 "java/lang/String" "hash" "I" (.int (0 : Int32))) (F_hashIsZero : Fld Z h0 u0 "java/lang/String" "hashIsZero" "Z" (.int (0 : Int32))) (Vb : Arv Z h0 bv kb .byte (1 : Int32) [(.int y0)] (.int 0)) (hm : y0 &&& (255 : Int32) = x0) :
    MetFree l (⟨"java/lang/String", "hashCode", "()I"⟩ : MethodName) (head1 (Jvm.Cond.code (⟨"java/lang/String", "hashCode", "()I"⟩ : MethodName) jdk_42_method_78_code 2 (some .int) :: ws) ({ frames := 3, cells := 0, slots := 0, locals := 60 } : Room)) (fun a U => a = #[(.ref u0)] ∧ Z.Warmed39 U.vm ∧ U.heap = h0) (fun _ _ _ _ _ => True) (fun _ U o U' => ∃ v L, o = .returned v ∧ Q12a Z u0 cS bv kb y0 x0 h0 n0 v U'.heap L ∧ FrameEnd U o U' L ({ frames := 3, cells := 0, slots := 0, locals := 60 } : Room).cells ({ frames := 3, cells := 0, slots := 0, locals := 60 } : Room).slots) := by
  refine MetFree.of_bodySF (plainFor_of_name own_pn_java_lang_String) hisR ?_
  intro p e s m args below meth c s₁ Bd hml0 hP hK
  obtain ⟨rfl, hZ, hh⟩ := hP
  have hx := Bd.exec
  have hby := Bd.bytes
  have hml : c.maxLocals = 2 := hml0
  have hown : s.vm.findClass "java/lang/String" = some m.cls := findClass_of_methodNamed Bd.named
  have hnm := (name_of_methodNamed Bd.named Bd.method).1
  have X0 : Stand p l e ({ frames := 3, cells := 0, slots := 0, locals := 60 } : Room) s m #[(.ref u0)] below meth c s₁ [] 0 0 := Stand.of_body Bd
  have e0 : s₁.heap = h0 := by rw [← hh, Bd.state]; rfl
  have N0 := Fr.nil n0
  change Go p.tables e below _ _
  refine own_on (B := s₁.setTop (mkF m 0 #[rv u0, un] [])) (fun tz kz => castTop (own_ef_12a m u0) kz) ?_
  refine own_on (B := s₁.setTop (mkF m 1 #[rv u0, un] [(.ref u0)])) (fun tz kz => ?_) ?_
  · show sT p e below s₁ (mkF m 0 #[rv u0, un] []) tz
    refine XS.aloadN X0.here hx rfl (hb hby own_d12_0) rfl rfl ?_
    exact kz
  obtain ⟨T1, X1, e1, st1⟩ := getF X0 hx hZ hown (host := "") (Or.inl (own_w hw 62 rfl)) Via.refl e0 F_hash (g := (mkF m 1 #[rv u0, un] [(.ref u0)])) rfl rfl (hb hby own_d12_1)
  refine own_on (B := T1.setTop (mkF m 4 #[rv u0, un] [(.int 0)])) (fun tz kz => st1 _ kz) ?_
  refine own_on (B := T1.setTop (mkF m 10 #[rv u0, iv 0] [(.ref u0)])) (fun tz kz => ?_) ?_
  · show sT p e below T1 (mkF m 4 #[rv u0, un] [(.int 0)]) tz
    refine XS.istoreN X1.here hx rfl (hb hby own_d12_4) rfl (l' := #[rv u0, iv 0]) rfl ?_
    show sT p e below T1 (mkF m 5 #[rv u0, iv 0] []) tz
    refine XS.iloadN X1.here hx rfl (hb hby own_d12_5) rfl ?_
    show sT p e below T1 (mkF m 6 #[rv u0, iv 0] [(.int 0)]) tz
    refine XS.ifNo X1.here hx rfl (hb hby own_d12_6) rfl ((if0 _ _).trans (teq rfl).2) ?_
    show sT p e below T1 (mkF m 9 #[rv u0, iv 0] []) tz
    refine XS.aloadN X1.here hx rfl (hb hby own_d12_9) rfl rfl ?_
    exact kz
  obtain ⟨T2, X2, e2, st2⟩ := getF X1 hx hZ hown (host := "") (Or.inl (own_w hw 64 rfl)) Via.refl e1 F_hashIsZero (g := (mkF m 10 #[rv u0, iv 0] [(.ref u0)])) rfl rfl (hb hby own_d12_10)
  refine own_on (B := T2.setTop (mkF m 13 #[rv u0, iv 0] [(.int 0)])) (fun tz kz => st2 _ kz) ?_
  refine own_on (B := T2.setTop (mkF m 17 #[rv u0, iv 0] [(.ref u0)])) (fun tz kz => ?_) ?_
  · show sT p e below T2 (mkF m 13 #[rv u0, iv 0] [(.int 0)]) tz
    refine XS.ifNo X2.here hx rfl (hb hby own_d12_13) rfl ((if0 _ _).trans (teq rfl).2) ?_
    show sT p e below T2 (mkF m 16 #[rv u0, iv 0] []) tz
    refine XS.aloadN X2.here hx rfl (hb hby own_d12_16) rfl rfl ?_
    exact kz
  obtain ⟨cq3, kq3, q3a, q3b, q3c⟩ := isOf hZ e2 E_u0
  obtain ⟨_, _, ⟨T3, L3, k3, n3⟩, -, X3, ⟨Lc3, hQ3, l3, y3, z3⟩, st3⟩ := X2.virtualBack hx (y := (⟨"java/lang/String", "isLatin1", "()Z"⟩ : MethodName)) (z := (⟨"java/lang/String", "isLatin1", "()Z"⟩ : MethodName)) hown (mvT hZ (own_w hw 66 rfl)) (mvT hZ (own_w hw 67 rfl)) (notFace_of_selects (args := #[]) (mvT hZ (own_w hw 69 rfl))) (mvT hZ (own_w hw 69 rfl)) (mvT hZ (own_w hw 68 rfl)) (by decide) (backOf (W := 0) (rm13 l Z a0 hw [] u0 cS h0 n0 O0 S_cs hcS F_coder) hZ (own_w hw 70 rfl) (own_w hw 9 rfl) (by decide) (by decide)) q3a q3c (g := (mkF m 17 #[rv u0, iv 0] [(.ref u0)])) rfl (by rw [hml]; rfl) (Steps.refl _) (argsL := []) (rest := []) (lenOf own_pd8 rfl) rfl (by show 2 * 0 + _ ≤ _; exact Nat.le_of_eq rfl) (hb hby own_d12_17) (fun _ _ => ⟨rfl, e2, (by decide : 0 + 0 ≤ _), (by decide : 0 + 0 ≤ _)⟩)
  dsimp only [Pt.U, Pt.locs, Pt.cells, Pt.slots] at X3 l3 y3 z3 st3 hQ3
  subst l3 y3 z3
  obtain ⟨rfl, Nq3, e3⟩ := hQ3
  have N3 := Fr.app N0 Nq3
  refine own_on (B := T3.setTop (mkF m 20 #[rv u0, iv 0] [(.int 1)])) (fun tz kz => st3.trans kz) ?_
  refine own_on (B := T3.setTop (mkF m 24 #[rv u0, iv 0] [(.ref u0)])) (fun tz kz => ?_) ?_
  · show sT p e below T3 (mkF m 20 #[rv u0, iv 0] [(.int 1)]) tz
    refine XS.ifNo X3.here hx rfl (hb hby own_d12_20) rfl ((if0 _ _).trans (feq (by decide : ¬ ((1 : Int32) = (0 : Int32)))).1) ?_
    show sT p e below T3 (mkF m 23 #[rv u0, iv 0] []) tz
    refine XS.aloadN X3.here hx rfl (hb hby own_d12_23) rfl rfl ?_
    exact kz
  obtain ⟨T4, X4, e4, st4⟩ := getF X3 hx hZ hown (host := "") (Or.inl (own_w hw 27 rfl)) Via.refl e3 F_value (g := (mkF m 24 #[rv u0, iv 0] [(.ref u0)])) rfl rfl (hb hby own_d12_24)
  refine own_on (B := T4.setTop (mkF m 27 #[rv u0, iv 0] [(.ref bv)])) (fun tz kz => st4 _ kz) ?_
  obtain ⟨_, _, ⟨T5, L5, k5, n5⟩, -, X5, ⟨Lc5, hQ5, l5, y5, z5⟩, st5⟩ := Jvm.LawKit.callS X4 hx (y := (⟨"java/lang/StringLatin1", "hashCode", "([B)I"⟩ : MethodName)) hown (mvT hZ (own_w hw 71 rfl)) (mvT hZ (own_w hw 72 rfl)) (mvT hZ (own_w hw 42 rfl)) (mvT hZ (own_w hw 73 rfl)) (by decide) (backOf (W := 0) (rm14a l Z a0 hw [] bv kb y0 x0 h0 n0 O0 Vb hm) hZ (own_w hw 73 rfl) (own_w hw 42 rfl) (by decide) (by decide)) (g := (mkF m 27 #[rv u0, iv 0] [(.ref bv)])) rfl (by rw [hml]; rfl) (argsL := [(.ref bv)]) (rest := []) (lenOf own_pd9 rfl) rfl (by show 2 * 0 + _ ≤ _; exact Nat.le_of_eq rfl) (hb hby own_d12_27) (fun _ _ => ⟨rfl, e4, (by decide : 0 + 0 ≤ _), (by decide : 0 + 0 ≤ _)⟩)
  dsimp only [Pt.U, Pt.locs, Pt.cells, Pt.slots] at X5 l5 y5 z5 st5 hQ5
  subst l5 y5 z5
  obtain ⟨rfl, Nq5, e5⟩ := hQ5
  have N5 := Fr.app N3 Nq5
  refine own_on (B := T5.setTop (mkF m 30 #[rv u0, iv 0] [(.int x0)])) (fun tz kz => st5 _ kz) ?_
  refine own_on (B := T5.setTop (mkF m 42 #[rv u0, iv x0] [(.int x0)])) (fun tz kz => ?_) ?_
  · show sT p e below T5 (mkF m 30 #[rv u0, iv 0] [(.int x0)]) tz
    refine XS.goto X5.here hx rfl (pc0 := 30) (pc' := 40) rfl (hb hby own_d12_30) (by decide) (by decide) ?_
    show sT p e below T5 (mkF m 40 #[rv u0, iv 0] [(.int x0)]) tz
    refine XS.istoreN X5.here hx rfl (hb hby own_d12_40) rfl (l' := #[rv u0, iv x0]) rfl ?_
    show sT p e below T5 (mkF m 41 #[rv u0, iv x0] []) tz
    refine XS.iloadN X5.here hx rfl (hb hby own_d12_41) rfl ?_
    exact kz
  by_cases hz : x0 = (0 : Int32)
  · refine own_on (B := T5.setTop (mkF m 47 #[rv u0, iv x0] [(.int 1), (.ref u0)])) (fun tz kz => ?_) ?_
    · show sT p e below T5 (mkF m 42 #[rv u0, iv x0] [(.int x0)]) tz
      refine XS.ifNo X5.here hx rfl (hb hby own_d12_42) rfl ((if0 _ _).trans (teq hz).2) ?_
      show sT p e below T5 (mkF m 45 #[rv u0, iv x0] []) tz
      refine XS.aloadN X5.here hx rfl (hb hby own_d12_45) rfl rfl ?_
      show sT p e below T5 (mkF m 46 #[rv u0, iv x0] [(.ref u0)]) tz
      refine XS.iconst X5.here hx rfl (hb hby own_d12_46) ?_
      exact kz
    obtain ⟨T6, h6, X6, e6, W6, st6⟩ := putFN X5 hx hZ hown (own_w hw 64 rfl) Via.refl e5 F_hashIsZero E_u0 (Or.inl (own_w hw 65 rfl)) (own_w hw 8 rfl) (ty := .boolean) (v' := (.int (1 : Int32))) (by decide) rfl rfl (g := (mkF m 47 #[rv u0, iv x0] [(.int 1), (.ref u0)])) rfl rfl (hb hby own_d12_47)
    have Fw6 := F_hashIsZero.same W6
    have N6 := Fr.snoc X6 N5 g_u0
    have O7 := O0.wr W6 g_u0
    have K7 : Keep h0 h6 [u0] := (Keep.refl h0 [u0]).wr W6 (Or.inl (List.mem_of_getElem? (i := 0) rfl))
    refine own_on (B := T6.setTop (mkF m 50 #[rv u0, iv x0] [])) (fun tz kz => st6 _ kz) ?_
    have f_8 := (F_value.other W6 (Or.inr (slot_ne (Or.inr (own_w hw 23 rfl)) (Or.inl (own_w hw 65 rfl)) (by decide) (t := (.array .byte)) (t' := .boolean) (by decide) (by decide))))
    have f_9 := (F_coder.other W6 (Or.inr (slot_ne (Or.inr (own_w hw 24 rfl)) (Or.inl (own_w hw 65 rfl)) (by decide) (t := .byte) (t' := .boolean) (by decide) (by decide))))
    refine own_on (B := T6.setTop (mkF m 59 #[rv u0, iv x0] [(.int x0)])) (fun tz kz => ?_) ?_
    · show sT p e below T6 (mkF m 50 #[rv u0, iv x0] []) tz
      refine XS.goto X6.here hx rfl (pc0 := 50) (pc' := 58) rfl (hb hby own_d12_50) (by decide) (by decide) ?_
      show sT p e below T6 (mkF m 58 #[rv u0, iv x0] []) tz
      refine XS.iloadN X6.here hx rfl (hb hby own_d12_58) rfl ?_
      exact kz
    obtain ⟨fs, hr, hrun, hended, hW, hsame⟩ := X6.leave (v := some (.int x0)) (fun h => by rw [Bd.returns] at h; cases h)
    refine own_of ⟨_, _, ?_, hrun, hended, _, _, rfl, ?_, ⟨_, rfl⟩, hW, hsame.mono (by decide) (by decide)⟩
    · show sT p e below T6 (mkF m 59 #[rv u0, iv x0] [(.int x0)]) _
      exact own_retI X6 hx Bd.returns (hb hby own_d12_59) hr
    · show Q12a Z u0 cS bv kb y0 x0 h0 n0 _ T6.heap _
      rw [e6]
      exact ⟨rfl, N6, K7, f_8, f_9⟩
  · refine own_on (B := T5.setTop (mkF m 55 #[rv u0, iv x0] [(.int x0), (.ref u0)])) (fun tz kz => ?_) ?_
    · show sT p e below T5 (mkF m 42 #[rv u0, iv x0] [(.int x0)]) tz
      refine XS.ifYes X5.here hx rfl (pc0 := 42) (pc' := 53) rfl (hb hby own_d12_42) rfl ((if0 _ _).trans (feq hz).2) (by decide) (by decide) ?_
      show sT p e below T5 (mkF m 53 #[rv u0, iv x0] []) tz
      refine XS.aloadN X5.here hx rfl (hb hby own_d12_53) rfl rfl ?_
      show sT p e below T5 (mkF m 54 #[rv u0, iv x0] [(.ref u0)]) tz
      refine XS.iloadN X5.here hx rfl (hb hby own_d12_54) rfl ?_
      exact kz
    obtain ⟨T10, h10, X10, e10, W10, st10⟩ := putF X5 hx hZ hown (host := "") (Or.inl (own_w hw 62 rfl)) Via.refl e5 F_hash E_u0 (Or.inl (own_w hw 63 rfl)) (own_w hw 8 rfl) (ty := .int) (by decide) rfl rfl (g := (mkF m 55 #[rv u0, iv x0] [(.int x0), (.ref u0)])) rfl rfl (hb hby own_d12_55)
    have Fw10 := F_hash.same W10
    have N10 := Fr.snoc X10 N5 g_u0
    have O11 := O0.wr W10 g_u0
    have K11 : Keep h0 h10 [u0] := (Keep.refl h0 [u0]).wr W10 (Or.inl (List.mem_of_getElem? (i := 0) rfl))
    refine own_on (B := T10.setTop (mkF m 58 #[rv u0, iv x0] [])) (fun tz kz => st10 _ kz) ?_
    have f_12 := (F_value.other W10 (Or.inr (slot_ne (Or.inr (own_w hw 23 rfl)) (Or.inl (own_w hw 63 rfl)) (by decide) (t := (.array .byte)) (t' := .int) (by decide) (by decide))))
    have f_13 := (F_coder.other W10 (Or.inr (slot_ne (Or.inr (own_w hw 24 rfl)) (Or.inl (own_w hw 63 rfl)) (by decide) (t := .byte) (t' := .int) (by decide) (by decide))))
    refine own_on (B := T10.setTop (mkF m 59 #[rv u0, iv x0] [(.int x0)])) (fun tz kz => ?_) ?_
    · show sT p e below T10 (mkF m 58 #[rv u0, iv x0] []) tz
      refine XS.iloadN X10.here hx rfl (hb hby own_d12_58) rfl ?_
      exact kz
    obtain ⟨fs, hr, hrun, hended, hW, hsame⟩ := X10.leave (v := some (.int x0)) (fun h => by rw [Bd.returns] at h; cases h)
    refine own_of ⟨_, _, ?_, hrun, hended, _, _, rfl, ?_, ⟨_, rfl⟩, hW, hsame.mono (by decide) (by decide)⟩
    · show sT p e below T10 (mkF m 59 #[rv u0, iv x0] [(.int x0)]) _
      exact own_retI X10 hx Bd.returns (hb hby own_d12_59) hr
    · show Q12a Z u0 cS bv kb y0 x0 h0 n0 _ T10.heap _
      rw [e10]
      exact ⟨rfl, N10, K11, f_12, f_13⟩
theorem own_ef_12b (m : MethodId) (x0 : Addr) : entryFrame m #[(.ref x0)] 2 = mkF m 0 #[rv x0, .unset] [] := by first | (simp [entryFrame, mkF, argsToLocals, Value.category]; done) | rfl
def Q12b (Z : State) (u0 : Addr) (cS : Int32) (bv : Addr) (kb : ClassId) (y0 : Int32) (y1 : Int32) (h0 : Heap) (n0 : Nat) (v : Option Value) (h : Heap) (L : List Loc) : Prop := v = some (.int (((31 : Int32) * ((0 : Int32) + (y0 &&& (255 : Int32)))) + (y1 &&& (255 : Int32)))) ∧ Fr n0 L ∧ Keep h0 h [u0] ∧ Fld Z h u0 "java/lang/String" "value" "[B" (.ref bv) ∧ Fld Z h u0 "java/lang/String" "coder" "B" (.int (0 : Int32))
set_option maxRecDepth 65536 in
set_option maxHeartbeats 40000000 in
theorem rm12b (l : Launch) (Z : State) (a0 : Array Value) (hw : ∀ d ∈ tables_1, d.before a0 Z = true) (ws : List Jvm.Cond) (u0 : Addr) (cS : Int32) (bv : Addr) (kb : ClassId) (y0 : Int32) (y1 : Int32) (h0 : Heap) (n0 : Nat) (O0 : Old Z n0 h0) (S_cs : Sta Z Z.heap "java/lang/String" "COMPACT_STRINGS" "Z" (.int cS)) (hcS : ¬ (cS = (0 : Int32))) (E_u0 : Exa Z h0 u0 "java/lang/String") (g_u0 : n0 ≤ u0) (F_value : Fld Z h0 u0 "java/lang/String" "value" "[B" (.ref bv)) (F_coder : Fld Z h0 u0 "java/lang/String" "coder" "B" (.int (0 : Int32))) (F_hash : Fld Z h0 u0 "java/lang/String" "hash" "I" (.int (0 : Int32))) (F_hashIsZero : Fld Z h0 u0 "java/lang/String" "hashIsZero" "Z" (.int (0 : Int32))) (Eb : Exa Z h0 bv "[B") (Vb : Arv Z h0 bv kb .byte (2 : Int32) [(.int y0), (.int y1)] (.int 0)) :
    MetFree l (⟨"java/lang/String", "hashCode", "()I"⟩ : MethodName) (head1 (Jvm.Cond.code (⟨"java/lang/String", "hashCode", "()I"⟩ : MethodName) jdk_42_method_78_code 2 (some .int) :: ws) ({ frames := 3, cells := 0, slots := 0, locals := 60 } : Room)) (fun a U => a = #[(.ref u0)] ∧ Z.Warmed39 U.vm ∧ U.heap = h0) (fun _ _ _ _ _ => True) (fun _ U o U' => ∃ v L, o = .returned v ∧ Q12b Z u0 cS bv kb y0 y1 h0 n0 v U'.heap L ∧ FrameEnd U o U' L ({ frames := 3, cells := 0, slots := 0, locals := 60 } : Room).cells ({ frames := 3, cells := 0, slots := 0, locals := 60 } : Room).slots) := by
  refine MetFree.of_bodySF (plainFor_of_name own_pn_java_lang_String) hisR ?_
  intro p e s m args below meth c s₁ Bd hml0 hP hK
  obtain ⟨rfl, hZ, hh⟩ := hP
  have hx := Bd.exec
  have hby := Bd.bytes
  have hml : c.maxLocals = 2 := hml0
  have hown : s.vm.findClass "java/lang/String" = some m.cls := findClass_of_methodNamed Bd.named
  have hnm := (name_of_methodNamed Bd.named Bd.method).1
  have X0 : Stand p l e ({ frames := 3, cells := 0, slots := 0, locals := 60 } : Room) s m #[(.ref u0)] below meth c s₁ [] 0 0 := Stand.of_body Bd
  have e0 : s₁.heap = h0 := by rw [← hh, Bd.state]; rfl
  have N0 := Fr.nil n0
  change Go p.tables e below _ _
  refine own_on (B := s₁.setTop (mkF m 0 #[rv u0, un] [])) (fun tz kz => castTop (own_ef_12b m u0) kz) ?_
  refine own_on (B := s₁.setTop (mkF m 1 #[rv u0, un] [(.ref u0)])) (fun tz kz => ?_) ?_
  · show sT p e below s₁ (mkF m 0 #[rv u0, un] []) tz
    refine XS.aloadN X0.here hx rfl (hb hby own_d12_0) rfl rfl ?_
    exact kz
  obtain ⟨T1, X1, e1, st1⟩ := getF X0 hx hZ hown (host := "") (Or.inl (own_w hw 62 rfl)) Via.refl e0 F_hash (g := (mkF m 1 #[rv u0, un] [(.ref u0)])) rfl rfl (hb hby own_d12_1)
  refine own_on (B := T1.setTop (mkF m 4 #[rv u0, un] [(.int 0)])) (fun tz kz => st1 _ kz) ?_
  refine own_on (B := T1.setTop (mkF m 10 #[rv u0, iv 0] [(.ref u0)])) (fun tz kz => ?_) ?_
  · show sT p e below T1 (mkF m 4 #[rv u0, un] [(.int 0)]) tz
    refine XS.istoreN X1.here hx rfl (hb hby own_d12_4) rfl (l' := #[rv u0, iv 0]) rfl ?_
    show sT p e below T1 (mkF m 5 #[rv u0, iv 0] []) tz
    refine XS.iloadN X1.here hx rfl (hb hby own_d12_5) rfl ?_
    show sT p e below T1 (mkF m 6 #[rv u0, iv 0] [(.int 0)]) tz
    refine XS.ifNo X1.here hx rfl (hb hby own_d12_6) rfl ((if0 _ _).trans (teq rfl).2) ?_
    show sT p e below T1 (mkF m 9 #[rv u0, iv 0] []) tz
    refine XS.aloadN X1.here hx rfl (hb hby own_d12_9) rfl rfl ?_
    exact kz
  obtain ⟨T2, X2, e2, st2⟩ := getF X1 hx hZ hown (host := "") (Or.inl (own_w hw 64 rfl)) Via.refl e1 F_hashIsZero (g := (mkF m 10 #[rv u0, iv 0] [(.ref u0)])) rfl rfl (hb hby own_d12_10)
  refine own_on (B := T2.setTop (mkF m 13 #[rv u0, iv 0] [(.int 0)])) (fun tz kz => st2 _ kz) ?_
  refine own_on (B := T2.setTop (mkF m 17 #[rv u0, iv 0] [(.ref u0)])) (fun tz kz => ?_) ?_
  · show sT p e below T2 (mkF m 13 #[rv u0, iv 0] [(.int 0)]) tz
    refine XS.ifNo X2.here hx rfl (hb hby own_d12_13) rfl ((if0 _ _).trans (teq rfl).2) ?_
    show sT p e below T2 (mkF m 16 #[rv u0, iv 0] []) tz
    refine XS.aloadN X2.here hx rfl (hb hby own_d12_16) rfl rfl ?_
    exact kz
  obtain ⟨cq3, kq3, q3a, q3b, q3c⟩ := isOf hZ e2 E_u0
  obtain ⟨_, _, ⟨T3, L3, k3, n3⟩, -, X3, ⟨Lc3, hQ3, l3, y3, z3⟩, st3⟩ := X2.virtualBack hx (y := (⟨"java/lang/String", "isLatin1", "()Z"⟩ : MethodName)) (z := (⟨"java/lang/String", "isLatin1", "()Z"⟩ : MethodName)) hown (mvT hZ (own_w hw 66 rfl)) (mvT hZ (own_w hw 67 rfl)) (notFace_of_selects (args := #[]) (mvT hZ (own_w hw 69 rfl))) (mvT hZ (own_w hw 69 rfl)) (mvT hZ (own_w hw 68 rfl)) (by decide) (backOf (W := 0) (rm13 l Z a0 hw [] u0 cS h0 n0 O0 S_cs hcS F_coder) hZ (own_w hw 70 rfl) (own_w hw 9 rfl) (by decide) (by decide)) q3a q3c (g := (mkF m 17 #[rv u0, iv 0] [(.ref u0)])) rfl (by rw [hml]; rfl) (Steps.refl _) (argsL := []) (rest := []) (lenOf own_pd8 rfl) rfl (by show 2 * 0 + _ ≤ _; exact Nat.le_of_eq rfl) (hb hby own_d12_17) (fun _ _ => ⟨rfl, e2, (by decide : 0 + 0 ≤ _), (by decide : 0 + 0 ≤ _)⟩)
  dsimp only [Pt.U, Pt.locs, Pt.cells, Pt.slots] at X3 l3 y3 z3 st3 hQ3
  subst l3 y3 z3
  obtain ⟨rfl, Nq3, e3⟩ := hQ3
  have N3 := Fr.app N0 Nq3
  refine own_on (B := T3.setTop (mkF m 20 #[rv u0, iv 0] [(.int 1)])) (fun tz kz => st3.trans kz) ?_
  refine own_on (B := T3.setTop (mkF m 24 #[rv u0, iv 0] [(.ref u0)])) (fun tz kz => ?_) ?_
  · show sT p e below T3 (mkF m 20 #[rv u0, iv 0] [(.int 1)]) tz
    refine XS.ifNo X3.here hx rfl (hb hby own_d12_20) rfl ((if0 _ _).trans (feq (by decide : ¬ ((1 : Int32) = (0 : Int32)))).1) ?_
    show sT p e below T3 (mkF m 23 #[rv u0, iv 0] []) tz
    refine XS.aloadN X3.here hx rfl (hb hby own_d12_23) rfl rfl ?_
    exact kz
  obtain ⟨T4, X4, e4, st4⟩ := getF X3 hx hZ hown (host := "") (Or.inl (own_w hw 27 rfl)) Via.refl e3 F_value (g := (mkF m 24 #[rv u0, iv 0] [(.ref u0)])) rfl rfl (hb hby own_d12_24)
  refine own_on (B := T4.setTop (mkF m 27 #[rv u0, iv 0] [(.ref bv)])) (fun tz kz => st4 _ kz) ?_
  obtain ⟨_, _, ⟨T5, L5, k5, n5⟩, -, X5, ⟨Lc5, hQ5, l5, y5, z5⟩, st5⟩ := Jvm.LawKit.callS X4 hx (y := (⟨"java/lang/StringLatin1", "hashCode", "([B)I"⟩ : MethodName)) hown (mvT hZ (own_w hw 71 rfl)) (mvT hZ (own_w hw 72 rfl)) (mvT hZ (own_w hw 42 rfl)) (mvT hZ (own_w hw 73 rfl)) (by decide) (backOf (W := 0) (rm14b l Z a0 hw [] bv kb y0 y1 h0 n0 O0 Eb Vb) hZ (own_w hw 73 rfl) (own_w hw 42 rfl) (by decide) (by decide)) (g := (mkF m 27 #[rv u0, iv 0] [(.ref bv)])) rfl (by rw [hml]; rfl) (argsL := [(.ref bv)]) (rest := []) (lenOf own_pd9 rfl) rfl (by show 2 * 0 + _ ≤ _; exact Nat.le_of_eq rfl) (hb hby own_d12_27) (fun _ _ => ⟨rfl, e4, (by decide : 0 + 0 ≤ _), (by decide : 0 + 0 ≤ _)⟩)
  dsimp only [Pt.U, Pt.locs, Pt.cells, Pt.slots] at X5 l5 y5 z5 st5 hQ5
  subst l5 y5 z5
  obtain ⟨rfl, Nq5, e5⟩ := hQ5
  have N5 := Fr.app N3 Nq5
  refine own_on (B := T5.setTop (mkF m 30 #[rv u0, iv 0] [(.int (((31 : Int32) * ((0 : Int32) + (y0 &&& (255 : Int32)))) + (y1 &&& (255 : Int32))))])) (fun tz kz => st5 _ kz) ?_
  refine own_on (B := T5.setTop (mkF m 42 #[rv u0, iv (((31 : Int32) * ((0 : Int32) + (y0 &&& (255 : Int32)))) + (y1 &&& (255 : Int32)))] [(.int (((31 : Int32) * ((0 : Int32) + (y0 &&& (255 : Int32)))) + (y1 &&& (255 : Int32))))])) (fun tz kz => ?_) ?_
  · show sT p e below T5 (mkF m 30 #[rv u0, iv 0] [(.int (((31 : Int32) * ((0 : Int32) + (y0 &&& (255 : Int32)))) + (y1 &&& (255 : Int32))))]) tz
    refine XS.goto X5.here hx rfl (pc0 := 30) (pc' := 40) rfl (hb hby own_d12_30) (by decide) (by decide) ?_
    show sT p e below T5 (mkF m 40 #[rv u0, iv 0] [(.int (((31 : Int32) * ((0 : Int32) + (y0 &&& (255 : Int32)))) + (y1 &&& (255 : Int32))))]) tz
    refine XS.istoreN X5.here hx rfl (hb hby own_d12_40) rfl (l' := #[rv u0, iv (((31 : Int32) * ((0 : Int32) + (y0 &&& (255 : Int32)))) + (y1 &&& (255 : Int32)))]) rfl ?_
    show sT p e below T5 (mkF m 41 #[rv u0, iv (((31 : Int32) * ((0 : Int32) + (y0 &&& (255 : Int32)))) + (y1 &&& (255 : Int32)))] []) tz
    refine XS.iloadN X5.here hx rfl (hb hby own_d12_41) rfl ?_
    exact kz
  by_cases hz : (((31 : Int32) * ((0 : Int32) + (y0 &&& (255 : Int32)))) + (y1 &&& (255 : Int32))) = (0 : Int32)
  · refine own_on (B := T5.setTop (mkF m 47 #[rv u0, iv (((31 : Int32) * ((0 : Int32) + (y0 &&& (255 : Int32)))) + (y1 &&& (255 : Int32)))] [(.int 1), (.ref u0)])) (fun tz kz => ?_) ?_
    · show sT p e below T5 (mkF m 42 #[rv u0, iv (((31 : Int32) * ((0 : Int32) + (y0 &&& (255 : Int32)))) + (y1 &&& (255 : Int32)))] [(.int (((31 : Int32) * ((0 : Int32) + (y0 &&& (255 : Int32)))) + (y1 &&& (255 : Int32))))]) tz
      refine XS.ifNo X5.here hx rfl (hb hby own_d12_42) rfl ((if0 _ _).trans (teq hz).2) ?_
      show sT p e below T5 (mkF m 45 #[rv u0, iv (((31 : Int32) * ((0 : Int32) + (y0 &&& (255 : Int32)))) + (y1 &&& (255 : Int32)))] []) tz
      refine XS.aloadN X5.here hx rfl (hb hby own_d12_45) rfl rfl ?_
      show sT p e below T5 (mkF m 46 #[rv u0, iv (((31 : Int32) * ((0 : Int32) + (y0 &&& (255 : Int32)))) + (y1 &&& (255 : Int32)))] [(.ref u0)]) tz
      refine XS.iconst X5.here hx rfl (hb hby own_d12_46) ?_
      exact kz
    obtain ⟨T6, h6, X6, e6, W6, st6⟩ := putFN X5 hx hZ hown (own_w hw 64 rfl) Via.refl e5 F_hashIsZero E_u0 (Or.inl (own_w hw 65 rfl)) (own_w hw 8 rfl) (ty := .boolean) (v' := (.int (1 : Int32))) (by decide) rfl rfl (g := (mkF m 47 #[rv u0, iv (((31 : Int32) * ((0 : Int32) + (y0 &&& (255 : Int32)))) + (y1 &&& (255 : Int32)))] [(.int 1), (.ref u0)])) rfl rfl (hb hby own_d12_47)
    have Fw6 := F_hashIsZero.same W6
    have N6 := Fr.snoc X6 N5 g_u0
    have O7 := O0.wr W6 g_u0
    have K7 : Keep h0 h6 [u0] := (Keep.refl h0 [u0]).wr W6 (Or.inl (List.mem_of_getElem? (i := 0) rfl))
    refine own_on (B := T6.setTop (mkF m 50 #[rv u0, iv (((31 : Int32) * ((0 : Int32) + (y0 &&& (255 : Int32)))) + (y1 &&& (255 : Int32)))] [])) (fun tz kz => st6 _ kz) ?_
    have f_8 := (F_value.other W6 (Or.inr (slot_ne (Or.inr (own_w hw 23 rfl)) (Or.inl (own_w hw 65 rfl)) (by decide) (t := (.array .byte)) (t' := .boolean) (by decide) (by decide))))
    have f_9 := (F_coder.other W6 (Or.inr (slot_ne (Or.inr (own_w hw 24 rfl)) (Or.inl (own_w hw 65 rfl)) (by decide) (t := .byte) (t' := .boolean) (by decide) (by decide))))
    refine own_on (B := T6.setTop (mkF m 59 #[rv u0, iv (((31 : Int32) * ((0 : Int32) + (y0 &&& (255 : Int32)))) + (y1 &&& (255 : Int32)))] [(.int (((31 : Int32) * ((0 : Int32) + (y0 &&& (255 : Int32)))) + (y1 &&& (255 : Int32))))])) (fun tz kz => ?_) ?_
    · show sT p e below T6 (mkF m 50 #[rv u0, iv (((31 : Int32) * ((0 : Int32) + (y0 &&& (255 : Int32)))) + (y1 &&& (255 : Int32)))] []) tz
      refine XS.goto X6.here hx rfl (pc0 := 50) (pc' := 58) rfl (hb hby own_d12_50) (by decide) (by decide) ?_
      show sT p e below T6 (mkF m 58 #[rv u0, iv (((31 : Int32) * ((0 : Int32) + (y0 &&& (255 : Int32)))) + (y1 &&& (255 : Int32)))] []) tz
      refine XS.iloadN X6.here hx rfl (hb hby own_d12_58) rfl ?_
      exact kz
    obtain ⟨fs, hr, hrun, hended, hW, hsame⟩ := X6.leave (v := some (.int (((31 : Int32) * ((0 : Int32) + (y0 &&& (255 : Int32)))) + (y1 &&& (255 : Int32))))) (fun h => by rw [Bd.returns] at h; cases h)
    refine own_of ⟨_, _, ?_, hrun, hended, _, _, rfl, ?_, ⟨_, rfl⟩, hW, hsame.mono (by decide) (by decide)⟩
    · show sT p e below T6 (mkF m 59 #[rv u0, iv (((31 : Int32) * ((0 : Int32) + (y0 &&& (255 : Int32)))) + (y1 &&& (255 : Int32)))] [(.int (((31 : Int32) * ((0 : Int32) + (y0 &&& (255 : Int32)))) + (y1 &&& (255 : Int32))))]) _
      exact own_retI X6 hx Bd.returns (hb hby own_d12_59) hr
    · show Q12b Z u0 cS bv kb y0 y1 h0 n0 _ T6.heap _
      rw [e6]
      exact ⟨rfl, N6, K7, f_8, f_9⟩
  · refine own_on (B := T5.setTop (mkF m 55 #[rv u0, iv (((31 : Int32) * ((0 : Int32) + (y0 &&& (255 : Int32)))) + (y1 &&& (255 : Int32)))] [(.int (((31 : Int32) * ((0 : Int32) + (y0 &&& (255 : Int32)))) + (y1 &&& (255 : Int32)))), (.ref u0)])) (fun tz kz => ?_) ?_
    · show sT p e below T5 (mkF m 42 #[rv u0, iv (((31 : Int32) * ((0 : Int32) + (y0 &&& (255 : Int32)))) + (y1 &&& (255 : Int32)))] [(.int (((31 : Int32) * ((0 : Int32) + (y0 &&& (255 : Int32)))) + (y1 &&& (255 : Int32))))]) tz
      refine XS.ifYes X5.here hx rfl (pc0 := 42) (pc' := 53) rfl (hb hby own_d12_42) rfl ((if0 _ _).trans (feq hz).2) (by decide) (by decide) ?_
      show sT p e below T5 (mkF m 53 #[rv u0, iv (((31 : Int32) * ((0 : Int32) + (y0 &&& (255 : Int32)))) + (y1 &&& (255 : Int32)))] []) tz
      refine XS.aloadN X5.here hx rfl (hb hby own_d12_53) rfl rfl ?_
      show sT p e below T5 (mkF m 54 #[rv u0, iv (((31 : Int32) * ((0 : Int32) + (y0 &&& (255 : Int32)))) + (y1 &&& (255 : Int32)))] [(.ref u0)]) tz
      refine XS.iloadN X5.here hx rfl (hb hby own_d12_54) rfl ?_
      exact kz
    obtain ⟨T10, h10, X10, e10, W10, st10⟩ := putF X5 hx hZ hown (host := "") (Or.inl (own_w hw 62 rfl)) Via.refl e5 F_hash E_u0 (Or.inl (own_w hw 63 rfl)) (own_w hw 8 rfl) (ty := .int) (by decide) rfl rfl (g := (mkF m 55 #[rv u0, iv (((31 : Int32) * ((0 : Int32) + (y0 &&& (255 : Int32)))) + (y1 &&& (255 : Int32)))] [(.int (((31 : Int32) * ((0 : Int32) + (y0 &&& (255 : Int32)))) + (y1 &&& (255 : Int32)))), (.ref u0)])) rfl rfl (hb hby own_d12_55)
    have Fw10 := F_hash.same W10
    have N10 := Fr.snoc X10 N5 g_u0
    have O11 := O0.wr W10 g_u0
    have K11 : Keep h0 h10 [u0] := (Keep.refl h0 [u0]).wr W10 (Or.inl (List.mem_of_getElem? (i := 0) rfl))
    refine own_on (B := T10.setTop (mkF m 58 #[rv u0, iv (((31 : Int32) * ((0 : Int32) + (y0 &&& (255 : Int32)))) + (y1 &&& (255 : Int32)))] [])) (fun tz kz => st10 _ kz) ?_
    have f_12 := (F_value.other W10 (Or.inr (slot_ne (Or.inr (own_w hw 23 rfl)) (Or.inl (own_w hw 63 rfl)) (by decide) (t := (.array .byte)) (t' := .int) (by decide) (by decide))))
    have f_13 := (F_coder.other W10 (Or.inr (slot_ne (Or.inr (own_w hw 24 rfl)) (Or.inl (own_w hw 63 rfl)) (by decide) (t := .byte) (t' := .int) (by decide) (by decide))))
    refine own_on (B := T10.setTop (mkF m 59 #[rv u0, iv (((31 : Int32) * ((0 : Int32) + (y0 &&& (255 : Int32)))) + (y1 &&& (255 : Int32)))] [(.int (((31 : Int32) * ((0 : Int32) + (y0 &&& (255 : Int32)))) + (y1 &&& (255 : Int32))))])) (fun tz kz => ?_) ?_
    · show sT p e below T10 (mkF m 58 #[rv u0, iv (((31 : Int32) * ((0 : Int32) + (y0 &&& (255 : Int32)))) + (y1 &&& (255 : Int32)))] []) tz
      refine XS.iloadN X10.here hx rfl (hb hby own_d12_58) rfl ?_
      exact kz
    obtain ⟨fs, hr, hrun, hended, hW, hsame⟩ := X10.leave (v := some (.int (((31 : Int32) * ((0 : Int32) + (y0 &&& (255 : Int32)))) + (y1 &&& (255 : Int32))))) (fun h => by rw [Bd.returns] at h; cases h)
    refine own_of ⟨_, _, ?_, hrun, hended, _, _, rfl, ?_, ⟨_, rfl⟩, hW, hsame.mono (by decide) (by decide)⟩
    · show sT p e below T10 (mkF m 59 #[rv u0, iv (((31 : Int32) * ((0 : Int32) + (y0 &&& (255 : Int32)))) + (y1 &&& (255 : Int32)))] [(.int (((31 : Int32) * ((0 : Int32) + (y0 &&& (255 : Int32)))) + (y1 &&& (255 : Int32))))]) _
      exact own_retI X10 hx Bd.returns (hb hby own_d12_59) hr
    · show Q12b Z u0 cS bv kb y0 y1 h0 n0 _ T10.heap _
      rw [e10]
      exact ⟨rfl, N10, K11, f_12, f_13⟩
def OwnEqQ (r : Int32) (h0 : Heap) (n0 : Nat) (v : Option Value) (h : Heap) (L : List Loc) : Prop := v = some (.int r) ∧ Fr n0 L ∧ h = h0
def OwnEq (l : Launch) (Z : State) (u0 u1 : Addr) (h0 : Heap) (n0 : Nat) (r : Int32) : Prop := MetFree l (⟨"java/lang/String", "equals", "(Ljava/lang/Object;)Z"⟩ : MethodName) (head1 (Jvm.Cond.code (⟨"java/lang/String", "equals", "(Ljava/lang/Object;)Z"⟩ : MethodName) jdk_42_method_66_code 3 (some .boolean) :: []) ({ frames := 1, cells := 0, slots := 0, locals := 16 } : Room)) (fun a U => a = #[(.ref u0), (.ref u1)] ∧ Z.Warmed39 U.vm ∧ U.heap = h0) (fun _ _ _ _ _ => True) (fun _ U o U' => ∃ v L, o = .returned v ∧ OwnEqQ r h0 n0 v U'.heap L ∧ FrameEnd U o U' L ({ frames := 1, cells := 0, slots := 0, locals := 16 } : Room).cells ({ frames := 1, cells := 0, slots := 0, locals := 16 } : Room).slots)
theorem own_pn_com_example_stackwright_stackwright_Holdings_FairValueLevel : plainName "com/example/stackwright/stackwright/Holdings$FairValueLevel" = true := by first | (simp [plainName, overriddenIn]; done) | decide +kernel
theorem own_ef_6e (m : MethodId) (x0 : Addr) (x1 : Addr) : entryFrame m #[(.ref x0), (.ref x1)] 5 = mkF m 0 #[rv x0, rv x1, .unset, .unset, .unset] [] := by first | (simp [entryFrame, mkF, argsToLocals, Value.category]; done) | rfl
def Q6e (Z : State) (u0 : Addr) (u1 : Addr) (w0 : Addr) (w1 : Addr) (w2 : Addr) (w3 : Addr) (h0 : Heap) (n0 : Nat) (v : Option Value) (h : Heap) (L : List Loc) : Prop := v = some (.ref w0) ∧ Fr n0 L ∧ h = h0
theorem own_d6_0 : decode prog_11_method_4_code 0 = .ok (.aload_n 0, 1) := by decide +kernel
theorem own_d6_1 : decode prog_11_method_4_code 1 = .ok (.aload_n 1, 1) := by decide +kernel
theorem own_pd10 : parseMethodDescriptor "(Ljava/lang/Object;)Z" = some ⟨[(.object "java/lang/Object")], some .boolean⟩ := by decide +kernel
theorem own_d6_2 : decode prog_11_method_4_code 2 = .ok (.invokevirtual 35, 3) := by decide +kernel
theorem own_d6_5 : decode prog_11_method_4_code 5 = .ok (.ifCond .eq 10, 3) := by decide +kernel
theorem own_d6_8 : decode prog_11_method_4_code 8 = .ok (.getstatic 3, 3) := by decide +kernel
theorem own_d6_11 : decode prog_11_method_4_code 11 = .ok (.astore_n 2, 1) := by decide +kernel
theorem own_d6_12 : decode prog_11_method_4_code 12 = .ok (.goto 132, 3) := by decide +kernel
theorem own_d6_144 : decode prog_11_method_4_code 144 = .ok (.aload_n 2, 1) := by decide +kernel
theorem own_d6_145 : decode prog_11_method_4_code 145 = .ok (.areturn, 1) := by decide +kernel
set_option maxRecDepth 65536 in
set_option maxHeartbeats 40000000 in
theorem rm6e (l : Launch) (Z : State) (a0 : Array Value) (hw : ∀ d ∈ tables_1, d.before a0 Z = true) (ws : List Jvm.Cond) (u0 : Addr) (u1 : Addr) (w0 : Addr) (w1 : Addr) (w2 : Addr) (w3 : Addr) (h0 : Heap) (n0 : Nat) (O0 : Old Z n0 h0) (S_NONE : Sta Z Z.heap "com/example/stackwright/stackwright/Holdings$FairValueLevel" "NONE" "Lcom/example/stackwright/stackwright/Holdings$FairValueLevel;" (.ref w0)) (S_LEVEL_1 : Sta Z Z.heap "com/example/stackwright/stackwright/Holdings$FairValueLevel" "LEVEL_1" "Lcom/example/stackwright/stackwright/Holdings$FairValueLevel;" (.ref w1)) (S_LEVEL_2 : Sta Z Z.heap "com/example/stackwright/stackwright/Holdings$FairValueLevel" "LEVEL_2" "Lcom/example/stackwright/stackwright/Holdings$FairValueLevel;" (.ref w2)) (S_LEVEL_3 : Sta Z Z.heap "com/example/stackwright/stackwright/Holdings$FairValueLevel" "LEVEL_3" "Lcom/example/stackwright/stackwright/Holdings$FairValueLevel;" (.ref w3)) (E_u0 : Exa Z h0 u0 "java/lang/String") (hE : OwnEq l Z u0 u1 h0 n0 1) :
    MetFree l (⟨"com/example/stackwright/stackwright/Holdings$FairValueLevel", "read", "(Ljava/lang/String;Ljava/lang/String;)Lcom/example/stackwright/stackwright/Holdings$FairValueLevel;"⟩ : MethodName) (head1 (Jvm.Cond.code (⟨"com/example/stackwright/stackwright/Holdings$FairValueLevel", "read", "(Ljava/lang/String;Ljava/lang/String;)Lcom/example/stackwright/stackwright/Holdings$FairValueLevel;"⟩ : MethodName) prog_11_method_4_code 5 (some (.object "com/example/stackwright/stackwright/Holdings$FairValueLevel")) :: ws) ({ frames := 4, cells := 2, slots := 8, locals := 80 } : Room)) (fun a U => a = #[(.ref u0), (.ref u1)] ∧ Z.Warmed39 U.vm ∧ U.heap = h0) (fun _ _ _ _ _ => True) (fun _ U o U' => ∃ v L, o = .returned v ∧ Q6e Z u0 u1 w0 w1 w2 w3 h0 n0 v U'.heap L ∧ FrameEnd U o U' L ({ frames := 4, cells := 2, slots := 8, locals := 80 } : Room).cells ({ frames := 4, cells := 2, slots := 8, locals := 80 } : Room).slots) := by
  refine MetFree.of_bodySF (plainFor_of_name own_pn_com_example_stackwright_stackwright_Holdings_FairValueLevel) hisR ?_
  intro p e s m args below meth c s₁ Bd hml0 hP hK
  obtain ⟨rfl, hZ, hh⟩ := hP
  have hx := Bd.exec
  have hby := Bd.bytes
  have hml : c.maxLocals = 5 := hml0
  have hown : s.vm.findClass "com/example/stackwright/stackwright/Holdings$FairValueLevel" = some m.cls := findClass_of_methodNamed Bd.named
  have hnm := (name_of_methodNamed Bd.named Bd.method).1
  have X0 : Stand p l e ({ frames := 4, cells := 2, slots := 8, locals := 80 } : Room) s m #[(.ref u0), (.ref u1)] below meth c s₁ [] 0 0 := Stand.of_body Bd
  have e0 : s₁.heap = h0 := by rw [← hh, Bd.state]; rfl
  have N0 := Fr.nil n0
  change Go p.tables e below _ _
  refine own_on (B := s₁.setTop (mkF m 0 #[rv u0, rv u1, un, un, un] [])) (fun tz kz => castTop (own_ef_6e m u0 u1) kz) ?_
  refine own_on (B := s₁.setTop (mkF m 2 #[rv u0, rv u1, un, un, un] [(.ref u1), (.ref u0)])) (fun tz kz => ?_) ?_
  · show sT p e below s₁ (mkF m 0 #[rv u0, rv u1, un, un, un] []) tz
    refine XS.aloadN X0.here hx rfl (hb hby own_d6_0) rfl rfl ?_
    show sT p e below s₁ (mkF m 1 #[rv u0, rv u1, un, un, un] [(.ref u0)]) tz
    refine XS.aloadN X0.here hx rfl (hb hby own_d6_1) rfl rfl ?_
    exact kz
  obtain ⟨cq1, kq1, q1a, q1b, q1c⟩ := isOf hZ e0 E_u0
  obtain ⟨_, _, ⟨T1, L1, k1, n1⟩, -, X1, ⟨Lc1, hQ1, l1, y1, z1⟩, st1⟩ := X0.virtualBack hx (y := (⟨"java/lang/String", "equals", "(Ljava/lang/Object;)Z"⟩ : MethodName)) (z := (⟨"java/lang/String", "equals", "(Ljava/lang/Object;)Z"⟩ : MethodName)) hown (mvT hZ (own_w hw 33 rfl)) (mvT hZ (own_w hw 34 rfl)) (notFace_of_selects (args := #[]) (mvT hZ (own_w hw 36 rfl))) (mvT hZ (own_w hw 36 rfl)) (mvT hZ (own_w hw 35 rfl)) (by decide) (backOf (W := 0) hE hZ (own_w hw 37 rfl) (own_w hw 9 rfl) (by decide) (by decide)) q1a q1c (g := (mkF m 2 #[rv u0, rv u1, un, un, un] [(.ref u1), (.ref u0)])) rfl (by rw [hml]; rfl) (Steps.refl _) (argsL := [(.ref u1)]) (rest := []) (lenOf own_pd10 rfl) rfl (by show 2 * 0 + _ ≤ _; exact Nat.le_of_eq rfl) (hb hby own_d6_2) (fun _ _ => ⟨rfl, e0, (by decide : 0 + 0 ≤ _), (by decide : 0 + 0 ≤ _)⟩)
  dsimp only [Pt.U, Pt.locs, Pt.cells, Pt.slots] at X1 l1 y1 z1 st1 hQ1
  subst l1 y1 z1
  obtain ⟨rfl, Nq1, e1⟩ := hQ1
  have N1 := Fr.app N0 Nq1
  refine own_on (B := T1.setTop (mkF m 5 #[rv u0, rv u1, un, un, un] [(.int 1)])) (fun tz kz => st1.trans kz) ?_
  refine own_on (B := T1.setTop (mkF m 8 #[rv u0, rv u1, un, un, un] [])) (fun tz kz => ?_) ?_
  · show sT p e below T1 (mkF m 5 #[rv u0, rv u1, un, un, un] [(.int 1)]) tz
    refine XS.ifNo X1.here hx rfl (hb hby own_d6_5) rfl ((if0 _ _).trans (feq (by decide : ¬ ((1 : Int32) = (0 : Int32)))).1) ?_
    exact kz
  obtain ⟨T2, X2, e2, st2⟩ := getS2 X1 hx hZ hown (host := "") (Or.inl (own_w hw 44 rfl)) Via.refl e1 (S_NONE.ext O0.2) (g := (mkF m 8 #[rv u0, rv u1, un, un, un] [])) rfl (hb hby own_d6_8)
  refine own_on (B := T2.setTop (mkF m 11 #[rv u0, rv u1, un, un, un] [(.ref w0)])) (fun tz kz => st2 _ kz) ?_
  refine own_on (B := T2.setTop (mkF m 145 #[rv u0, rv u1, rv w0, un, un] [(.ref w0)])) (fun tz kz => ?_) ?_
  · show sT p e below T2 (mkF m 11 #[rv u0, rv u1, un, un, un] [(.ref w0)]) tz
    refine XS.astoreN X2.here hx rfl (hb hby own_d6_11) rfl rfl (l' := #[rv u0, rv u1, rv w0, un, un]) rfl ?_
    show sT p e below T2 (mkF m 12 #[rv u0, rv u1, rv w0, un, un] []) tz
    refine XS.goto X2.here hx rfl (pc0 := 12) (pc' := 144) rfl (hb hby own_d6_12) (by decide) (by decide) ?_
    show sT p e below T2 (mkF m 144 #[rv u0, rv u1, rv w0, un, un] []) tz
    refine XS.aloadN X2.here hx rfl (hb hby own_d6_144) rfl rfl ?_
    exact kz
  obtain ⟨fs, hr, hrun, hended, hW, hsame⟩ := X2.leave (v := some (.ref w0)) (fun h => by rw [Bd.returns] at h; cases h)
  refine own_of ⟨_, _, ?_, hrun, hended, _, _, rfl, ?_, ⟨_, rfl⟩, hW, hsame.mono (by decide) (by decide)⟩
  · show sT p e below T2 (mkF m 145 #[rv u0, rv u1, rv w0, un, un] [(.ref w0)]) _
    exact own_retV X2 hx Bd.returns rfl rfl (hb hby own_d6_145) hr
  · show Q6e Z u0 u1 w0 w1 w2 w3 h0 n0 _ T2.heap _
    rw [e2]
    exact ⟨rfl, N1, rfl⟩
theorem own_ef_6z (m : MethodId) (x0 : Addr) (x1 : Addr) : entryFrame m #[(.ref x0), (.ref x1)] 5 = mkF m 0 #[rv x0, rv x1, .unset, .unset, .unset] [] := by first | (simp [entryFrame, mkF, argsToLocals, Value.category]; done) | rfl
def Q6z (Z : State) (u0 : Addr) (u1 : Addr) (w0 : Addr) (w1 : Addr) (w2 : Addr) (w3 : Addr) (cS : Int32) (bv : Addr) (kb : ClassId) (h0 : Heap) (n0 : Nat) (v : Option Value) (h : Heap) (L : List Loc) : Prop := v = some .null ∧ Fr n0 L ∧ Keep h0 h [u0]
theorem own_d6_15 : decode prog_11_method_4_code 15 = .ok (.aload_n 0, 1) := by decide +kernel
theorem own_d6_16 : decode prog_11_method_4_code 16 = .ok (.astore_n 3, 1) := by decide +kernel
theorem own_d6_17 : decode prog_11_method_4_code 17 = .ok (.iconst (-1), 1) := by decide +kernel
theorem own_d6_18 : decode prog_11_method_4_code 18 = .ok (.istore 4, 2) := by decide +kernel
theorem own_d6_20 : decode prog_11_method_4_code 20 = .ok (.aload_n 3, 1) := by decide +kernel
theorem own_pd11 : parseMethodDescriptor "()I" = some ⟨[], some .int⟩ := by decide +kernel
theorem own_d6_21 : decode prog_11_method_4_code 21 = .ok (.invokevirtual 41, 3) := by decide +kernel
theorem own_d6_24 : decode prog_11_method_4_code 24 = .ok (.tableswitch 70 49 51 #[28, 43, 58], 28) := by decide +kernel
theorem own_d6_94 : decode prog_11_method_4_code 94 = .ok (.iload 4, 2) := by decide +kernel
theorem own_d6_96 : decode prog_11_method_4_code 96 = .ok (.tableswitch 46 0 2 #[28, 34, 40], 28) := by decide +kernel
theorem own_d6_142 : decode prog_11_method_4_code 142 = .ok (.aconst_null, 1) := by decide +kernel
theorem own_d6_143 : decode prog_11_method_4_code 143 = .ok (.astore_n 2, 1) := by decide +kernel
set_option maxRecDepth 65536 in
set_option maxHeartbeats 40000000 in
theorem rm6z (l : Launch) (Z : State) (a0 : Array Value) (hw : ∀ d ∈ tables_1, d.before a0 Z = true) (ws : List Jvm.Cond) (u0 : Addr) (u1 : Addr) (w0 : Addr) (w1 : Addr) (w2 : Addr) (w3 : Addr) (cS : Int32) (bv : Addr) (kb : ClassId) (h0 : Heap) (n0 : Nat) (O0 : Old Z n0 h0) (S_NONE : Sta Z Z.heap "com/example/stackwright/stackwright/Holdings$FairValueLevel" "NONE" "Lcom/example/stackwright/stackwright/Holdings$FairValueLevel;" (.ref w0)) (S_LEVEL_1 : Sta Z Z.heap "com/example/stackwright/stackwright/Holdings$FairValueLevel" "LEVEL_1" "Lcom/example/stackwright/stackwright/Holdings$FairValueLevel;" (.ref w1)) (S_LEVEL_2 : Sta Z Z.heap "com/example/stackwright/stackwright/Holdings$FairValueLevel" "LEVEL_2" "Lcom/example/stackwright/stackwright/Holdings$FairValueLevel;" (.ref w2)) (S_LEVEL_3 : Sta Z Z.heap "com/example/stackwright/stackwright/Holdings$FairValueLevel" "LEVEL_3" "Lcom/example/stackwright/stackwright/Holdings$FairValueLevel;" (.ref w3)) (S_cs : Sta Z Z.heap "java/lang/String" "COMPACT_STRINGS" "Z" (.int cS)) (hcS : ¬ (cS = (0 : Int32))) (E_u0 : Exa Z h0 u0 "java/lang/String") (g_u0 : n0 ≤ u0) (F_value : Fld Z h0 u0 "java/lang/String" "value" "[B" (.ref bv)) (F_coder : Fld Z h0 u0 "java/lang/String" "coder" "B" (.int (0 : Int32))) (F_hash : Fld Z h0 u0 "java/lang/String" "hash" "I" (.int (0 : Int32))) (F_hashIsZero : Fld Z h0 u0 "java/lang/String" "hashIsZero" "Z" (.int (0 : Int32))) (Vb : Arv Z h0 bv kb .byte (0 : Int32) [] (.int 0)) (hE : OwnEq l Z u0 u1 h0 n0 0) :
    MetFree l (⟨"com/example/stackwright/stackwright/Holdings$FairValueLevel", "read", "(Ljava/lang/String;Ljava/lang/String;)Lcom/example/stackwright/stackwright/Holdings$FairValueLevel;"⟩ : MethodName) (head1 (Jvm.Cond.code (⟨"com/example/stackwright/stackwright/Holdings$FairValueLevel", "read", "(Ljava/lang/String;Ljava/lang/String;)Lcom/example/stackwright/stackwright/Holdings$FairValueLevel;"⟩ : MethodName) prog_11_method_4_code 5 (some (.object "com/example/stackwright/stackwright/Holdings$FairValueLevel")) :: ws) ({ frames := 4, cells := 2, slots := 8, locals := 80 } : Room)) (fun a U => a = #[(.ref u0), (.ref u1)] ∧ Z.Warmed39 U.vm ∧ U.heap = h0) (fun _ _ _ _ _ => True) (fun _ U o U' => ∃ v L, o = .returned v ∧ Q6z Z u0 u1 w0 w1 w2 w3 cS bv kb h0 n0 v U'.heap L ∧ FrameEnd U o U' L ({ frames := 4, cells := 2, slots := 8, locals := 80 } : Room).cells ({ frames := 4, cells := 2, slots := 8, locals := 80 } : Room).slots) := by
  refine MetFree.of_bodySF (plainFor_of_name own_pn_com_example_stackwright_stackwright_Holdings_FairValueLevel) hisR ?_
  intro p e s m args below meth c s₁ Bd hml0 hP hK
  obtain ⟨rfl, hZ, hh⟩ := hP
  have hx := Bd.exec
  have hby := Bd.bytes
  have hml : c.maxLocals = 5 := hml0
  have hown : s.vm.findClass "com/example/stackwright/stackwright/Holdings$FairValueLevel" = some m.cls := findClass_of_methodNamed Bd.named
  have hnm := (name_of_methodNamed Bd.named Bd.method).1
  have X0 : Stand p l e ({ frames := 4, cells := 2, slots := 8, locals := 80 } : Room) s m #[(.ref u0), (.ref u1)] below meth c s₁ [] 0 0 := Stand.of_body Bd
  have e0 : s₁.heap = h0 := by rw [← hh, Bd.state]; rfl
  have N0 := Fr.nil n0
  change Go p.tables e below _ _
  refine own_on (B := s₁.setTop (mkF m 0 #[rv u0, rv u1, un, un, un] [])) (fun tz kz => castTop (own_ef_6z m u0 u1) kz) ?_
  refine own_on (B := s₁.setTop (mkF m 2 #[rv u0, rv u1, un, un, un] [(.ref u1), (.ref u0)])) (fun tz kz => ?_) ?_
  · show sT p e below s₁ (mkF m 0 #[rv u0, rv u1, un, un, un] []) tz
    refine XS.aloadN X0.here hx rfl (hb hby own_d6_0) rfl rfl ?_
    show sT p e below s₁ (mkF m 1 #[rv u0, rv u1, un, un, un] [(.ref u0)]) tz
    refine XS.aloadN X0.here hx rfl (hb hby own_d6_1) rfl rfl ?_
    exact kz
  obtain ⟨cq1, kq1, q1a, q1b, q1c⟩ := isOf hZ e0 E_u0
  obtain ⟨_, _, ⟨T1, L1, k1, n1⟩, -, X1, ⟨Lc1, hQ1, l1, y1, z1⟩, st1⟩ := X0.virtualBack hx (y := (⟨"java/lang/String", "equals", "(Ljava/lang/Object;)Z"⟩ : MethodName)) (z := (⟨"java/lang/String", "equals", "(Ljava/lang/Object;)Z"⟩ : MethodName)) hown (mvT hZ (own_w hw 33 rfl)) (mvT hZ (own_w hw 34 rfl)) (notFace_of_selects (args := #[]) (mvT hZ (own_w hw 36 rfl))) (mvT hZ (own_w hw 36 rfl)) (mvT hZ (own_w hw 35 rfl)) (by decide) (backOf (W := 0) hE hZ (own_w hw 37 rfl) (own_w hw 9 rfl) (by decide) (by decide)) q1a q1c (g := (mkF m 2 #[rv u0, rv u1, un, un, un] [(.ref u1), (.ref u0)])) rfl (by rw [hml]; rfl) (Steps.refl _) (argsL := [(.ref u1)]) (rest := []) (lenOf own_pd10 rfl) rfl (by show 2 * 0 + _ ≤ _; exact Nat.le_of_eq rfl) (hb hby own_d6_2) (fun _ _ => ⟨rfl, e0, (by decide : 0 + 0 ≤ _), (by decide : 0 + 0 ≤ _)⟩)
  dsimp only [Pt.U, Pt.locs, Pt.cells, Pt.slots] at X1 l1 y1 z1 st1 hQ1
  subst l1 y1 z1
  obtain ⟨rfl, Nq1, e1⟩ := hQ1
  have N1 := Fr.app N0 Nq1
  refine own_on (B := T1.setTop (mkF m 5 #[rv u0, rv u1, un, un, un] [(.int 0)])) (fun tz kz => st1.trans kz) ?_
  have nb_u0 : bv ≠ u0 := Ne.symm (Exa.neArv E_u0 Vb (own_w hw 8 rfl))
  refine own_on (B := T1.setTop (mkF m 21 #[rv u0, rv u1, un, rv u0, iv (-1 : Int32)] [(.ref u0)])) (fun tz kz => ?_) ?_
  · show sT p e below T1 (mkF m 5 #[rv u0, rv u1, un, un, un] [(.int 0)]) tz
    refine XS.ifYes X1.here hx rfl (pc0 := 5) (pc' := 15) rfl (hb hby own_d6_5) rfl ((if0 _ _).trans (teq rfl).1) (by decide) (by decide) ?_
    show sT p e below T1 (mkF m 15 #[rv u0, rv u1, un, un, un] []) tz
    refine XS.aloadN X1.here hx rfl (hb hby own_d6_15) rfl rfl ?_
    show sT p e below T1 (mkF m 16 #[rv u0, rv u1, un, un, un] [(.ref u0)]) tz
    refine XS.astoreN X1.here hx rfl (hb hby own_d6_16) rfl rfl (l' := #[rv u0, rv u1, un, rv u0, un]) rfl ?_
    show sT p e below T1 (mkF m 17 #[rv u0, rv u1, un, rv u0, un] []) tz
    refine XS.iconst X1.here hx rfl (hb hby own_d6_17) ?_
    show sT p e below T1 (mkF m 18 #[rv u0, rv u1, un, rv u0, un] [(.int (-1 : Int32))]) tz
    refine XS.istore X1.here hx rfl (hb hby own_d6_18) rfl (l' := #[rv u0, rv u1, un, rv u0, iv (-1 : Int32)]) rfl ?_
    show sT p e below T1 (mkF m 20 #[rv u0, rv u1, un, rv u0, iv (-1 : Int32)] []) tz
    refine XS.aloadN X1.here hx rfl (hb hby own_d6_20) rfl rfl ?_
    exact kz
  obtain ⟨cq2, kq2, q2a, q2b, q2c⟩ := isOf hZ e1 E_u0
  obtain ⟨_, _, ⟨T2, L2, k2, n2⟩, -, X2, ⟨Lc2, hQ2, l2, y2, z2⟩, st2⟩ := X1.virtualBack hx (y := (⟨"java/lang/String", "hashCode", "()I"⟩ : MethodName)) (z := (⟨"java/lang/String", "hashCode", "()I"⟩ : MethodName)) hown (mvT hZ (own_w hw 57 rfl)) (mvT hZ (own_w hw 58 rfl)) (notFace_of_selects (args := #[]) (mvT hZ (own_w hw 60 rfl))) (mvT hZ (own_w hw 60 rfl)) (mvT hZ (own_w hw 59 rfl)) (by decide) (backOf (W := 0) (rm12z l Z a0 hw [] u0 cS bv kb h0 n0 O0 S_cs hcS E_u0 g_u0 F_value F_coder F_hash F_hashIsZero Vb) hZ (own_w hw 61 rfl) (own_w hw 9 rfl) (by decide) (by decide)) q2a q2c (g := (mkF m 21 #[rv u0, rv u1, un, rv u0, iv (-1 : Int32)] [(.ref u0)])) rfl (by rw [hml]; rfl) (Steps.refl _) (argsL := []) (rest := []) (lenOf own_pd11 rfl) rfl (by show 2 * 0 + _ ≤ _; exact Nat.le_of_eq rfl) (hb hby own_d6_21) (fun _ _ => ⟨rfl, e1, (by decide : 0 + 0 ≤ _), (by decide : 0 + 0 ≤ _)⟩)
  dsimp only [Pt.U, Pt.locs, Pt.cells, Pt.slots] at X2 l2 y2 z2 st2 hQ2
  subst l2 y2 z2
  obtain ⟨rfl, Nq2, Kq2, Fv2, Fc2⟩ := hQ2
  have N2 := Fr.app N1 Nq2
  have O3 := O0.keep Kq2 (allS g_u0 all0)
  have K3 : Keep h0 T2.heap [u0] := (Keep.refl h0 [u0]).trans Kq2 (allS (Or.inl (List.mem_of_getElem? (i := 0) rfl)) all0)
  refine own_on (B := T2.setTop (mkF m 24 #[rv u0, rv u1, un, rv u0, iv (-1 : Int32)] [(.int 0)])) (fun tz kz => st2.trans kz) ?_
  refine own_on (B := T2.setTop (mkF m 145 #[rv u0, rv u1, .val .null, rv u0, iv (-1 : Int32)] [.null])) (fun tz kz => ?_) ?_
  · show sT p e below T2 (mkF m 24 #[rv u0, rv u1, un, rv u0, iv (-1 : Int32)] [(.int 0)]) tz
    refine XS.tswOut X2.here hx rfl (pc0 := 24) (pc' := 94) rfl (hb hby own_d6_24) rfl (by decide) (by decide) (by decide) ?_
    show sT p e below T2 (mkF m 94 #[rv u0, rv u1, un, rv u0, iv (-1 : Int32)] []) tz
    refine XS.iload X2.here hx rfl (hb hby own_d6_94) rfl ?_
    show sT p e below T2 (mkF m 96 #[rv u0, rv u1, un, rv u0, iv (-1 : Int32)] [(.int (-1 : Int32))]) tz
    refine XS.tswOut X2.here hx rfl (pc0 := 96) (pc' := 142) rfl (hb hby own_d6_96) rfl (by decide) (by decide) (by decide) ?_
    show sT p e below T2 (mkF m 142 #[rv u0, rv u1, un, rv u0, iv (-1 : Int32)] []) tz
    refine XS.aconstNull X2.here hx rfl (hb hby own_d6_142) ?_
    show sT p e below T2 (mkF m 143 #[rv u0, rv u1, un, rv u0, iv (-1 : Int32)] [.null]) tz
    refine XS.astoreN X2.here hx rfl (hb hby own_d6_143) rfl rfl (l' := #[rv u0, rv u1, .val .null, rv u0, iv (-1 : Int32)]) rfl ?_
    show sT p e below T2 (mkF m 144 #[rv u0, rv u1, .val .null, rv u0, iv (-1 : Int32)] []) tz
    refine XS.aloadN X2.here hx rfl (hb hby own_d6_144) rfl rfl ?_
    exact kz
  obtain ⟨fs, hr, hrun, hended, hW, hsame⟩ := X2.leave (v := some .null) (fun h => by rw [Bd.returns] at h; cases h)
  refine own_of ⟨_, _, ?_, hrun, hended, _, _, rfl, ?_, ⟨_, rfl⟩, hW, hsame.mono (by decide) (by decide)⟩
  · show sT p e below T2 (mkF m 145 #[rv u0, rv u1, .val .null, rv u0, iv (-1 : Int32)] [.null]) _
    exact own_retV X2 hx Bd.returns rfl rfl (hb hby own_d6_145) hr
  · show Q6z Z u0 u1 w0 w1 w2 w3 cS bv kb h0 n0 _ T2.heap _
    exact ⟨rfl, N2, K3⟩
theorem own_out (h : Int32) (h1 : ¬ h = 49) (h2 : ¬ h = 50) (h3 : ¬ h = 51) : h.toInt < 49 ∨ h.toInt > 51 := by
  simp only [← Int32.toInt_inj] at h1 h2 h3
  have z1 : (49 : Int32).toInt = 49 := rfl
  have z2 : (50 : Int32).toInt = 50 := rfl
  have z3 : (51 : Int32).toInt = 51 := rfl
  omega
theorem own_ef_6a (m : MethodId) (x0 : Addr) (x1 : Addr) : entryFrame m #[(.ref x0), (.ref x1)] 5 = mkF m 0 #[rv x0, rv x1, .unset, .unset, .unset] [] := by first | (simp [entryFrame, mkF, argsToLocals, Value.category]; done) | rfl
def Q6a (Z : State) (u0 : Addr) (u1 : Addr) (w0 : Addr) (w1 : Addr) (w2 : Addr) (w3 : Addr) (cS : Int32) (bv : Addr) (kb : ClassId) (Ts : List String) (h0 : Heap) (n0 : Nat) (v : Option Value) (h : Heap) (L : List Loc) : Prop := v = some (.ref w1) ∧ Fr n0 L ∧ Keep h0 h [u0]
theorem own_d6_52 : decode prog_11_method_4_code 52 = .ok (.aload_n 3, 1) := by decide +kernel
theorem own_d6_53 : decode prog_11_method_4_code 53 = .ok (.ldc 45, 2) := by decide +kernel
theorem own_d6_55 : decode prog_11_method_4_code 55 = .ok (.invokevirtual 35, 3) := by decide +kernel
theorem own_d6_58 : decode prog_11_method_4_code 58 = .ok (.ifCond .eq 36, 3) := by decide +kernel
theorem own_d6_61 : decode prog_11_method_4_code 61 = .ok (.iconst 0, 1) := by decide +kernel
theorem own_d6_62 : decode prog_11_method_4_code 62 = .ok (.istore 4, 2) := by decide +kernel
theorem own_d6_64 : decode prog_11_method_4_code 64 = .ok (.goto 30, 3) := by decide +kernel
theorem own_d6_124 : decode prog_11_method_4_code 124 = .ok (.getstatic 7, 3) := by decide +kernel
theorem own_d6_127 : decode prog_11_method_4_code 127 = .ok (.goto 16, 3) := by decide +kernel
set_option maxRecDepth 65536 in
set_option maxHeartbeats 40000000 in
theorem rm6a (l : Launch) (Z : State) (a0 : Array Value) (hw : ∀ d ∈ tables_1, d.before a0 Z = true) (ws : List Jvm.Cond) (u0 : Addr) (u1 : Addr) (w0 : Addr) (w1 : Addr) (w2 : Addr) (w3 : Addr) (cS : Int32) (bv : Addr) (kb : ClassId) (Ts : List String) (h0 : Heap) (n0 : Nat) (O0 : Old Z n0 h0) (S_NONE : Sta Z Z.heap "com/example/stackwright/stackwright/Holdings$FairValueLevel" "NONE" "Lcom/example/stackwright/stackwright/Holdings$FairValueLevel;" (.ref w0)) (S_LEVEL_1 : Sta Z Z.heap "com/example/stackwright/stackwright/Holdings$FairValueLevel" "LEVEL_1" "Lcom/example/stackwright/stackwright/Holdings$FairValueLevel;" (.ref w1)) (S_LEVEL_2 : Sta Z Z.heap "com/example/stackwright/stackwright/Holdings$FairValueLevel" "LEVEL_2" "Lcom/example/stackwright/stackwright/Holdings$FairValueLevel;" (.ref w2)) (S_LEVEL_3 : Sta Z Z.heap "com/example/stackwright/stackwright/Holdings$FairValueLevel" "LEVEL_3" "Lcom/example/stackwright/stackwright/Holdings$FairValueLevel;" (.ref w3)) (S_cs : Sta Z Z.heap "java/lang/String" "COMPACT_STRINGS" "Z" (.int cS)) (hcS : ¬ (cS = (0 : Int32))) (E_u0 : Exa Z h0 u0 "java/lang/String") (g_u0 : n0 ≤ u0) (F_value : Fld Z h0 u0 "java/lang/String" "value" "[B" (.ref bv)) (F_coder : Fld Z h0 u0 "java/lang/String" "coder" "B" (.int (0 : Int32))) (F_hash : Fld Z h0 u0 "java/lang/String" "hash" "I" (.int (0 : Int32))) (F_hashIsZero : Fld Z h0 u0 "java/lang/String" "hashIsZero" "Z" (.int (0 : Int32))) (Vb : Arv Z h0 bv kb .byte (1 : Int32) [(.int (49 : Int32))] (.int 0)) (hE : OwnEq l Z u0 u1 h0 n0 0) (held1 : Jvm.Lit.constHeld Z "com/example/stackwright/stackwright/Holdings$FairValueLevel" 45) (held2 : Jvm.Lit.constHeld Z "com/example/stackwright/stackwright/Holdings$FairValueLevel" 47) (held3 : Jvm.Lit.constHeld Z "com/example/stackwright/stackwright/Holdings$FairValueLevel" 49) (hcw : Jvm.Lit.compactW.before a0 Z = true) (hT1 : "1" ∉ Ts) (hT2 : "2" ∉ Ts) (hT3 : "3" ∉ Ts) :
    MetFree l (⟨"com/example/stackwright/stackwright/Holdings$FairValueLevel", "read", "(Ljava/lang/String;Ljava/lang/String;)Lcom/example/stackwright/stackwright/Holdings$FairValueLevel;"⟩ : MethodName) (head1 (Jvm.Cond.code (⟨"com/example/stackwright/stackwright/Holdings$FairValueLevel", "read", "(Ljava/lang/String;Ljava/lang/String;)Lcom/example/stackwright/stackwright/Holdings$FairValueLevel;"⟩ : MethodName) prog_11_method_4_code 5 (some (.object "com/example/stackwright/stackwright/Holdings$FairValueLevel")) :: ws) ({ frames := 4, cells := 2, slots := 8, locals := 80 } : Room)) (fun a U => a = #[(.ref u0), (.ref u1)] ∧ Z.Warmed39 U.vm ∧ U.heap = h0 ∧ OwnJ Z Ts [] U.vm) (fun _ _ _ _ _ => True) (fun _ U o U' => ∃ v L, o = .returned v ∧ Q6a Z u0 u1 w0 w1 w2 w3 cS bv kb Ts h0 n0 v U'.heap L ∧ ReturnedEndW U o U' L ({ frames := 4, cells := 2, slots := 8, locals := 80 } : Room).cells ({ frames := 4, cells := 2, slots := 8, locals := 80 } : Room).slots) := by
  refine MetFree.of_bodySF (plainFor_of_name own_pn_com_example_stackwright_stackwright_Holdings_FairValueLevel) hisR ?_
  intro p e s m args below meth c s₁ Bd hml0 hP hK
  obtain ⟨rfl, hZ, hh, hJ⟩ := hP
  have hx := Bd.exec
  have hby := Bd.bytes
  have hml : c.maxLocals = 5 := hml0
  have hown : s.vm.findClass "com/example/stackwright/stackwright/Holdings$FairValueLevel" = some m.cls := findClass_of_methodNamed Bd.named
  have hnm := (name_of_methodNamed Bd.named Bd.method).1
  have X0 : Stand p l e ({ frames := 4, cells := 2, slots := 8, locals := 80 } : Room) s m #[(.ref u0), (.ref u1)] below meth c s₁ [] 0 0 := Stand.of_body Bd
  have e0 : s₁.heap = h0 := by rw [← hh, Bd.state]; rfl
  have N0 := Fr.nil n0
  change Go p.tables e below _ _
  refine own_on (B := s₁.setTop (mkF m 0 #[rv u0, rv u1, un, un, un] [])) (fun tz kz => castTop (own_ef_6a m u0 u1) kz) ?_
  have own_strw : ∀ a ∈ Bundle.stringAtoms, a.before a0 Z = true := by
    intro d hd
    simp only [Bundle.stringAtoms, List.mem_cons, List.not_mem_nil, or_false] at hd
    rcases hd with rfl | rfl | rfl | rfl | rfl | rfl | rfl
    · exact (own_w hw 9 rfl)
    · exact (own_w hw 8 rfl)
    · exact (own_w hw 22 rfl)
    · exact (own_w hw 23 rfl)
    · exact (own_w hw 24 rfl)
    · exact (own_w hw 25 rfl)
    · exact (own_w hw 26 rfl)
  refine own_on (B := s₁.setTop (mkF m 2 #[rv u0, rv u1, un, un, un] [(.ref u1), (.ref u0)])) (fun tz kz => ?_) ?_
  · show sT p e below s₁ (mkF m 0 #[rv u0, rv u1, un, un, un] []) tz
    refine XS.aloadN X0.here hx rfl (hb hby own_d6_0) rfl rfl ?_
    show sT p e below s₁ (mkF m 1 #[rv u0, rv u1, un, un, un] [(.ref u0)]) tz
    refine XS.aloadN X0.here hx rfl (hb hby own_d6_1) rfl rfl ?_
    exact kz
  obtain ⟨cq1, kq1, q1a, q1b, q1c⟩ := isOf hZ e0 E_u0
  obtain ⟨_, _, ⟨T1, L1, k1, n1⟩, -, X1, ⟨Lc1, hQ1, l1, y1, z1⟩, st1⟩ := X0.virtualBack hx (y := (⟨"java/lang/String", "equals", "(Ljava/lang/Object;)Z"⟩ : MethodName)) (z := (⟨"java/lang/String", "equals", "(Ljava/lang/Object;)Z"⟩ : MethodName)) hown (mvT hZ (own_w hw 33 rfl)) (mvT hZ (own_w hw 34 rfl)) (notFace_of_selects (args := #[]) (mvT hZ (own_w hw 36 rfl))) (mvT hZ (own_w hw 36 rfl)) (mvT hZ (own_w hw 35 rfl)) (by decide) (backOf (W := 0) hE hZ (own_w hw 37 rfl) (own_w hw 9 rfl) (by decide) (by decide)) q1a q1c (g := (mkF m 2 #[rv u0, rv u1, un, un, un] [(.ref u1), (.ref u0)])) rfl (by rw [hml]; rfl) (Steps.refl _) (argsL := [(.ref u1)]) (rest := []) (lenOf own_pd10 rfl) rfl (by show 2 * 0 + _ ≤ _; exact Nat.le_of_eq rfl) (hb hby own_d6_2) (fun _ _ => ⟨rfl, e0, (by decide : 0 + 0 ≤ _), (by decide : 0 + 0 ≤ _)⟩)
  dsimp only [Pt.U, Pt.locs, Pt.cells, Pt.slots] at X1 l1 y1 z1 st1 hQ1
  subst l1 y1 z1
  obtain ⟨rfl, Nq1, e1⟩ := hQ1
  have N1 := Fr.app N0 Nq1
  refine own_on (B := T1.setTop (mkF m 5 #[rv u0, rv u1, un, un, un] [(.int 0)])) (fun tz kz => st1.trans kz) ?_
  have nb_u0 : bv ≠ u0 := Ne.symm (Exa.neArv E_u0 Vb (own_w hw 8 rfl))
  refine own_on (B := T1.setTop (mkF m 21 #[rv u0, rv u1, un, rv u0, iv (-1 : Int32)] [(.ref u0)])) (fun tz kz => ?_) ?_
  · show sT p e below T1 (mkF m 5 #[rv u0, rv u1, un, un, un] [(.int 0)]) tz
    refine XS.ifYes X1.here hx rfl (pc0 := 5) (pc' := 15) rfl (hb hby own_d6_5) rfl ((if0 _ _).trans (teq rfl).1) (by decide) (by decide) ?_
    show sT p e below T1 (mkF m 15 #[rv u0, rv u1, un, un, un] []) tz
    refine XS.aloadN X1.here hx rfl (hb hby own_d6_15) rfl rfl ?_
    show sT p e below T1 (mkF m 16 #[rv u0, rv u1, un, un, un] [(.ref u0)]) tz
    refine XS.astoreN X1.here hx rfl (hb hby own_d6_16) rfl rfl (l' := #[rv u0, rv u1, un, rv u0, un]) rfl ?_
    show sT p e below T1 (mkF m 17 #[rv u0, rv u1, un, rv u0, un] []) tz
    refine XS.iconst X1.here hx rfl (hb hby own_d6_17) ?_
    show sT p e below T1 (mkF m 18 #[rv u0, rv u1, un, rv u0, un] [(.int (-1 : Int32))]) tz
    refine XS.istore X1.here hx rfl (hb hby own_d6_18) rfl (l' := #[rv u0, rv u1, un, rv u0, iv (-1 : Int32)]) rfl ?_
    show sT p e below T1 (mkF m 20 #[rv u0, rv u1, un, rv u0, iv (-1 : Int32)] []) tz
    refine XS.aloadN X1.here hx rfl (hb hby own_d6_20) rfl rfl ?_
    exact kz
  obtain ⟨cq2, kq2, q2a, q2b, q2c⟩ := isOf hZ e1 E_u0
  obtain ⟨_, _, ⟨T2, L2, k2, n2⟩, -, X2, ⟨Lc2, hQ2, l2, y2, z2⟩, st2⟩ := X1.virtualBack hx (y := (⟨"java/lang/String", "hashCode", "()I"⟩ : MethodName)) (z := (⟨"java/lang/String", "hashCode", "()I"⟩ : MethodName)) hown (mvT hZ (own_w hw 57 rfl)) (mvT hZ (own_w hw 58 rfl)) (notFace_of_selects (args := #[]) (mvT hZ (own_w hw 60 rfl))) (mvT hZ (own_w hw 60 rfl)) (mvT hZ (own_w hw 59 rfl)) (by decide) (backOf (W := 0) (rm12a l Z a0 hw [] u0 cS bv kb (49 : Int32) (49 : Int32) h0 n0 O0 S_cs hcS E_u0 g_u0 F_value F_coder F_hash F_hashIsZero Vb (by decide)) hZ (own_w hw 61 rfl) (own_w hw 9 rfl) (by decide) (by decide)) q2a q2c (g := (mkF m 21 #[rv u0, rv u1, un, rv u0, iv (-1 : Int32)] [(.ref u0)])) rfl (by rw [hml]; rfl) (Steps.refl _) (argsL := []) (rest := []) (lenOf own_pd11 rfl) rfl (by show 2 * 0 + _ ≤ _; exact Nat.le_of_eq rfl) (hb hby own_d6_21) (fun _ _ => ⟨rfl, e1, (by decide : 0 + 0 ≤ _), (by decide : 0 + 0 ≤ _)⟩)
  dsimp only [Pt.U, Pt.locs, Pt.cells, Pt.slots] at X2 l2 y2 z2 st2 hQ2
  subst l2 y2 z2
  obtain ⟨rfl, Nq2, Kq2, Fv2, Fc2⟩ := hQ2
  have N2 := Fr.app N1 Nq2
  have O3 := O0.keep Kq2 (allS g_u0 all0)
  have K3 : Keep h0 T2.heap [u0] := (Keep.refl h0 [u0]).trans Kq2 (allS (Or.inl (List.mem_of_getElem? (i := 0) rfl)) all0)
  refine own_on (B := T2.setTop (mkF m 24 #[rv u0, rv u1, un, rv u0, iv (-1 : Int32)] [(.int 49)])) (fun tz kz => st2.trans kz) ?_
  refine own_on (B := T2.setTop (mkF m 53 #[rv u0, rv u1, un, rv u0, iv (-1 : Int32)] [(.ref u0)])) (fun tz kz => ?_) ?_
  · show sT p e below T2 (mkF m 24 #[rv u0, rv u1, un, rv u0, iv (-1 : Int32)] [(.int 49)]) tz
    refine XS.tswIn X2.here hx rfl (pc0 := 24) (pc' := 52) (o := 28) rfl (hb hby own_d6_24) rfl (by decide) rfl (by decide) (by decide) ?_
    show sT p e below T2 (mkF m 52 #[rv u0, rv u1, un, rv u0, iv (-1 : Int32)] []) tz
    refine XS.aloadN X2.here hx rfl (hb hby own_d6_52) rfl rfl ?_
    exact kz
  have hS4 : s.Since s.vm 0 := State.WarmedH.since (State.WarmedH.refl s) 0
  obtain ⟨a5, T5, h5, k5, b5, kb5, X5, e5, E5, hS5, hk5, hZ, hown, Ea5, Ca5, Va5, Wa5, lta5, ltb5, Ib5, Li5, st5⟩ := own_ldcT (show Stand p l e ({ frames := 4, cells := 2, slots := 8, locals := 80 } : Room) (s.setVm s.vm) m _ below meth c T2 _ _ _ from X2) hx hZ hown (own_w hw 87 rfl) own_strw rfl hS4 (Nat.zero_le _) O3.2.2 (Ts := Ts) (hJ).1 hT1 held1 hcw (vs := [(.int 49)]) (z := 1) ⟨by decide, rfl⟩ (by decide) rfl (g := (mkF m 53 #[rv u0, rv u1, un, rv u0, iv (-1 : Int32)] [(.ref u0)])) rfl (hb hby own_d6_53) (n := 4) (by decide) (by decide) (by decide) (by decide)
  have O6 := O3.ext E5
  have K6 : Keep h0 h5 [u0] := K3.ext E5
  have Jl5 := OwnJ.lit Ib5 Li5
  refine own_on (B := T5.setTop (mkF m 55 #[rv u0, rv u1, un, rv u0, iv (-1 : Int32)] [(.ref a5), (.ref u0)])) (fun tz kz => st5 _ kz) ?_
  have f_7 := ((E_u0.keep Kq2).ext E5)
  have f_8 := (Fv2.ext E5)
  have f_9 := (Fc2.ext E5)
  have f_10 := ((Vb.keep Kq2 (ninS nb_u0 nin0)).ext E5)
  obtain ⟨cq11, kq11, q11a, q11b, q11c⟩ := isOf hZ e5 f_7
  obtain ⟨_, _, ⟨T11, L11, k11, n11⟩, -, X11, ⟨Lc11, hQ11, l11, y11, z11⟩, st11⟩ := X5.virtualBack hx (y := (⟨"java/lang/String", "equals", "(Ljava/lang/Object;)Z"⟩ : MethodName)) (z := (⟨"java/lang/String", "equals", "(Ljava/lang/Object;)Z"⟩ : MethodName)) hown (mvT hZ (own_w hw 33 rfl)) (mvT hZ (own_w hw 34 rfl)) (notFace_of_selects (args := #[]) (mvT hZ (own_w hw 36 rfl))) (mvT hZ (own_w hw 36 rfl)) (mvT hZ (own_w hw 35 rfl)) (by decide) (backOf (W := 0) (rm7a l Z a0 hw [] u0 a5 cS bv b5 kb kb5 (49 : Int32) h5 n0 O6 S_cs hcS f_7 f_8 f_9 Ea5 Va5 Ca5 f_10 Wa5 ) hZ (own_w hw 37 rfl) (own_w hw 9 rfl) (by decide) (by decide)) q11a q11c (g := (mkF m 55 #[rv u0, rv u1, un, rv u0, iv (-1 : Int32)] [(.ref a5), (.ref u0)])) rfl (by rw [hml]; rfl) (Steps.refl _) (argsL := [(.ref a5)]) (rest := []) (lenOf own_pd10 rfl) rfl (by show 2 * 0 + _ ≤ _; exact Nat.le_of_eq rfl) (hb hby own_d6_55) (fun _ _ => ⟨rfl, e5, (by decide : 2 + 0 ≤ _), (by decide : 8 + 0 ≤ _)⟩)
  dsimp only [Pt.U, Pt.locs, Pt.cells, Pt.slots] at X11 l11 y11 z11 st11 hQ11
  subst l11 y11 z11
  obtain ⟨rfl, Nq11, e11⟩ := hQ11
  have N11 := Fr.app N2 Nq11
  refine own_on (B := T11.setTop (mkF m 58 #[rv u0, rv u1, un, rv u0, iv (-1 : Int32)] [(.int 1)])) (fun tz kz => st11.trans kz) ?_
  refine own_on (B := T11.setTop (mkF m 124 #[rv u0, rv u1, un, rv u0, iv 0] [])) (fun tz kz => ?_) ?_
  · show sT p e below T11 (mkF m 58 #[rv u0, rv u1, un, rv u0, iv (-1 : Int32)] [(.int 1)]) tz
    refine XS.ifNo X11.here hx rfl (hb hby own_d6_58) rfl ((if0 _ _).trans (feq (by decide : ¬ ((1 : Int32) = (0 : Int32)))).1) ?_
    show sT p e below T11 (mkF m 61 #[rv u0, rv u1, un, rv u0, iv (-1 : Int32)] []) tz
    refine XS.iconst X11.here hx rfl (hb hby own_d6_61) ?_
    show sT p e below T11 (mkF m 62 #[rv u0, rv u1, un, rv u0, iv (-1 : Int32)] [(.int 0)]) tz
    refine XS.istore X11.here hx rfl (hb hby own_d6_62) rfl (l' := #[rv u0, rv u1, un, rv u0, iv 0]) rfl ?_
    show sT p e below T11 (mkF m 64 #[rv u0, rv u1, un, rv u0, iv 0] []) tz
    refine XS.goto X11.here hx rfl (pc0 := 64) (pc' := 94) rfl (hb hby own_d6_64) (by decide) (by decide) ?_
    show sT p e below T11 (mkF m 94 #[rv u0, rv u1, un, rv u0, iv 0] []) tz
    refine XS.iload X11.here hx rfl (hb hby own_d6_94) rfl ?_
    show sT p e below T11 (mkF m 96 #[rv u0, rv u1, un, rv u0, iv 0] [(.int 0)]) tz
    refine XS.tswIn X11.here hx rfl (pc0 := 96) (pc' := 124) (o := 28) rfl (hb hby own_d6_96) rfl (by decide) rfl (by decide) (by decide) ?_
    exact kz
  obtain ⟨T12, X12, e12, st12⟩ := getS2 X11 hx hZ hown (host := "") (Or.inl (own_w hw 88 rfl)) Via.refl e11 (S_LEVEL_1.ext O6.2) (g := (mkF m 124 #[rv u0, rv u1, un, rv u0, iv 0] [])) rfl (hb hby own_d6_124)
  refine own_on (B := T12.setTop (mkF m 127 #[rv u0, rv u1, un, rv u0, iv 0] [(.ref w1)])) (fun tz kz => st12 _ kz) ?_
  refine own_on (B := T12.setTop (mkF m 145 #[rv u0, rv u1, rv w1, rv u0, iv 0] [(.ref w1)])) (fun tz kz => ?_) ?_
  · show sT p e below T12 (mkF m 127 #[rv u0, rv u1, un, rv u0, iv 0] [(.ref w1)]) tz
    refine XS.goto X12.here hx rfl (pc0 := 127) (pc' := 143) rfl (hb hby own_d6_127) (by decide) (by decide) ?_
    show sT p e below T12 (mkF m 143 #[rv u0, rv u1, un, rv u0, iv 0] [(.ref w1)]) tz
    refine XS.astoreN X12.here hx rfl (hb hby own_d6_143) rfl rfl (l' := #[rv u0, rv u1, rv w1, rv u0, iv 0]) rfl ?_
    show sT p e below T12 (mkF m 144 #[rv u0, rv u1, rv w1, rv u0, iv 0] []) tz
    refine XS.aloadN X12.here hx rfl (hb hby own_d6_144) rfl rfl ?_
    exact kz
  obtain ⟨fs, hr, hrun, hended, hRW⟩ := Jvm.Stand.leaveW X12 hS5 (by rw [e12]; exact hk5) (v := some (.ref w1)) (fun h => by rw [Bd.returns] at h; cases h)
  refine own_of ⟨_, _, ?_, hrun, hended, _, _, rfl, ?_, hRW.1, hRW.2.1, hRW.2.2.1, hRW.2.2.2.mono (by decide) (by decide)⟩
  · show sT p e below T12 (mkF m 145 #[rv u0, rv u1, rv w1, rv u0, iv 0] [(.ref w1)]) _
    exact own_retV X12 hx Bd.returns rfl rfl (hb hby own_d6_145) hr
  · show Q6a Z u0 u1 w0 w1 w2 w3 cS bv kb Ts h0 n0 _ T12.heap _
    rw [e12]
    exact ⟨rfl, N11, K6⟩
theorem own_ef_6b (m : MethodId) (x0 : Addr) (x1 : Addr) : entryFrame m #[(.ref x0), (.ref x1)] 5 = mkF m 0 #[rv x0, rv x1, .unset, .unset, .unset] [] := by first | (simp [entryFrame, mkF, argsToLocals, Value.category]; done) | rfl
def Q6b (Z : State) (u0 : Addr) (u1 : Addr) (w0 : Addr) (w1 : Addr) (w2 : Addr) (w3 : Addr) (cS : Int32) (bv : Addr) (kb : ClassId) (Ts : List String) (h0 : Heap) (n0 : Nat) (v : Option Value) (h : Heap) (L : List Loc) : Prop := v = some (.ref w2) ∧ Fr n0 L ∧ Keep h0 h [u0]
theorem own_d6_67 : decode prog_11_method_4_code 67 = .ok (.aload_n 3, 1) := by decide +kernel
theorem own_d6_68 : decode prog_11_method_4_code 68 = .ok (.ldc 47, 2) := by decide +kernel
theorem own_d6_70 : decode prog_11_method_4_code 70 = .ok (.invokevirtual 35, 3) := by decide +kernel
theorem own_d6_73 : decode prog_11_method_4_code 73 = .ok (.ifCond .eq 21, 3) := by decide +kernel
theorem own_d6_76 : decode prog_11_method_4_code 76 = .ok (.iconst 1, 1) := by decide +kernel
theorem own_d6_77 : decode prog_11_method_4_code 77 = .ok (.istore 4, 2) := by decide +kernel
theorem own_d6_79 : decode prog_11_method_4_code 79 = .ok (.goto 15, 3) := by decide +kernel
theorem own_d6_130 : decode prog_11_method_4_code 130 = .ok (.getstatic 10, 3) := by decide +kernel
theorem own_d6_133 : decode prog_11_method_4_code 133 = .ok (.goto 10, 3) := by decide +kernel
set_option maxRecDepth 65536 in
set_option maxHeartbeats 40000000 in
theorem rm6b (l : Launch) (Z : State) (a0 : Array Value) (hw : ∀ d ∈ tables_1, d.before a0 Z = true) (ws : List Jvm.Cond) (u0 : Addr) (u1 : Addr) (w0 : Addr) (w1 : Addr) (w2 : Addr) (w3 : Addr) (cS : Int32) (bv : Addr) (kb : ClassId) (Ts : List String) (h0 : Heap) (n0 : Nat) (O0 : Old Z n0 h0) (S_NONE : Sta Z Z.heap "com/example/stackwright/stackwright/Holdings$FairValueLevel" "NONE" "Lcom/example/stackwright/stackwright/Holdings$FairValueLevel;" (.ref w0)) (S_LEVEL_1 : Sta Z Z.heap "com/example/stackwright/stackwright/Holdings$FairValueLevel" "LEVEL_1" "Lcom/example/stackwright/stackwright/Holdings$FairValueLevel;" (.ref w1)) (S_LEVEL_2 : Sta Z Z.heap "com/example/stackwright/stackwright/Holdings$FairValueLevel" "LEVEL_2" "Lcom/example/stackwright/stackwright/Holdings$FairValueLevel;" (.ref w2)) (S_LEVEL_3 : Sta Z Z.heap "com/example/stackwright/stackwright/Holdings$FairValueLevel" "LEVEL_3" "Lcom/example/stackwright/stackwright/Holdings$FairValueLevel;" (.ref w3)) (S_cs : Sta Z Z.heap "java/lang/String" "COMPACT_STRINGS" "Z" (.int cS)) (hcS : ¬ (cS = (0 : Int32))) (E_u0 : Exa Z h0 u0 "java/lang/String") (g_u0 : n0 ≤ u0) (F_value : Fld Z h0 u0 "java/lang/String" "value" "[B" (.ref bv)) (F_coder : Fld Z h0 u0 "java/lang/String" "coder" "B" (.int (0 : Int32))) (F_hash : Fld Z h0 u0 "java/lang/String" "hash" "I" (.int (0 : Int32))) (F_hashIsZero : Fld Z h0 u0 "java/lang/String" "hashIsZero" "Z" (.int (0 : Int32))) (Vb : Arv Z h0 bv kb .byte (1 : Int32) [(.int (50 : Int32))] (.int 0)) (hE : OwnEq l Z u0 u1 h0 n0 0) (held1 : Jvm.Lit.constHeld Z "com/example/stackwright/stackwright/Holdings$FairValueLevel" 45) (held2 : Jvm.Lit.constHeld Z "com/example/stackwright/stackwright/Holdings$FairValueLevel" 47) (held3 : Jvm.Lit.constHeld Z "com/example/stackwright/stackwright/Holdings$FairValueLevel" 49) (hcw : Jvm.Lit.compactW.before a0 Z = true) (hT1 : "1" ∉ Ts) (hT2 : "2" ∉ Ts) (hT3 : "3" ∉ Ts) :
    MetFree l (⟨"com/example/stackwright/stackwright/Holdings$FairValueLevel", "read", "(Ljava/lang/String;Ljava/lang/String;)Lcom/example/stackwright/stackwright/Holdings$FairValueLevel;"⟩ : MethodName) (head1 (Jvm.Cond.code (⟨"com/example/stackwright/stackwright/Holdings$FairValueLevel", "read", "(Ljava/lang/String;Ljava/lang/String;)Lcom/example/stackwright/stackwright/Holdings$FairValueLevel;"⟩ : MethodName) prog_11_method_4_code 5 (some (.object "com/example/stackwright/stackwright/Holdings$FairValueLevel")) :: ws) ({ frames := 4, cells := 2, slots := 8, locals := 80 } : Room)) (fun a U => a = #[(.ref u0), (.ref u1)] ∧ Z.Warmed39 U.vm ∧ U.heap = h0 ∧ OwnJ Z Ts [] U.vm) (fun _ _ _ _ _ => True) (fun _ U o U' => ∃ v L, o = .returned v ∧ Q6b Z u0 u1 w0 w1 w2 w3 cS bv kb Ts h0 n0 v U'.heap L ∧ ReturnedEndW U o U' L ({ frames := 4, cells := 2, slots := 8, locals := 80 } : Room).cells ({ frames := 4, cells := 2, slots := 8, locals := 80 } : Room).slots) := by
  refine MetFree.of_bodySF (plainFor_of_name own_pn_com_example_stackwright_stackwright_Holdings_FairValueLevel) hisR ?_
  intro p e s m args below meth c s₁ Bd hml0 hP hK
  obtain ⟨rfl, hZ, hh, hJ⟩ := hP
  have hx := Bd.exec
  have hby := Bd.bytes
  have hml : c.maxLocals = 5 := hml0
  have hown : s.vm.findClass "com/example/stackwright/stackwright/Holdings$FairValueLevel" = some m.cls := findClass_of_methodNamed Bd.named
  have hnm := (name_of_methodNamed Bd.named Bd.method).1
  have X0 : Stand p l e ({ frames := 4, cells := 2, slots := 8, locals := 80 } : Room) s m #[(.ref u0), (.ref u1)] below meth c s₁ [] 0 0 := Stand.of_body Bd
  have e0 : s₁.heap = h0 := by rw [← hh, Bd.state]; rfl
  have N0 := Fr.nil n0
  change Go p.tables e below _ _
  refine own_on (B := s₁.setTop (mkF m 0 #[rv u0, rv u1, un, un, un] [])) (fun tz kz => castTop (own_ef_6b m u0 u1) kz) ?_
  have own_strw : ∀ a ∈ Bundle.stringAtoms, a.before a0 Z = true := by
    intro d hd
    simp only [Bundle.stringAtoms, List.mem_cons, List.not_mem_nil, or_false] at hd
    rcases hd with rfl | rfl | rfl | rfl | rfl | rfl | rfl
    · exact (own_w hw 9 rfl)
    · exact (own_w hw 8 rfl)
    · exact (own_w hw 22 rfl)
    · exact (own_w hw 23 rfl)
    · exact (own_w hw 24 rfl)
    · exact (own_w hw 25 rfl)
    · exact (own_w hw 26 rfl)
  refine own_on (B := s₁.setTop (mkF m 2 #[rv u0, rv u1, un, un, un] [(.ref u1), (.ref u0)])) (fun tz kz => ?_) ?_
  · show sT p e below s₁ (mkF m 0 #[rv u0, rv u1, un, un, un] []) tz
    refine XS.aloadN X0.here hx rfl (hb hby own_d6_0) rfl rfl ?_
    show sT p e below s₁ (mkF m 1 #[rv u0, rv u1, un, un, un] [(.ref u0)]) tz
    refine XS.aloadN X0.here hx rfl (hb hby own_d6_1) rfl rfl ?_
    exact kz
  obtain ⟨cq1, kq1, q1a, q1b, q1c⟩ := isOf hZ e0 E_u0
  obtain ⟨_, _, ⟨T1, L1, k1, n1⟩, -, X1, ⟨Lc1, hQ1, l1, y1, z1⟩, st1⟩ := X0.virtualBack hx (y := (⟨"java/lang/String", "equals", "(Ljava/lang/Object;)Z"⟩ : MethodName)) (z := (⟨"java/lang/String", "equals", "(Ljava/lang/Object;)Z"⟩ : MethodName)) hown (mvT hZ (own_w hw 33 rfl)) (mvT hZ (own_w hw 34 rfl)) (notFace_of_selects (args := #[]) (mvT hZ (own_w hw 36 rfl))) (mvT hZ (own_w hw 36 rfl)) (mvT hZ (own_w hw 35 rfl)) (by decide) (backOf (W := 0) hE hZ (own_w hw 37 rfl) (own_w hw 9 rfl) (by decide) (by decide)) q1a q1c (g := (mkF m 2 #[rv u0, rv u1, un, un, un] [(.ref u1), (.ref u0)])) rfl (by rw [hml]; rfl) (Steps.refl _) (argsL := [(.ref u1)]) (rest := []) (lenOf own_pd10 rfl) rfl (by show 2 * 0 + _ ≤ _; exact Nat.le_of_eq rfl) (hb hby own_d6_2) (fun _ _ => ⟨rfl, e0, (by decide : 0 + 0 ≤ _), (by decide : 0 + 0 ≤ _)⟩)
  dsimp only [Pt.U, Pt.locs, Pt.cells, Pt.slots] at X1 l1 y1 z1 st1 hQ1
  subst l1 y1 z1
  obtain ⟨rfl, Nq1, e1⟩ := hQ1
  have N1 := Fr.app N0 Nq1
  refine own_on (B := T1.setTop (mkF m 5 #[rv u0, rv u1, un, un, un] [(.int 0)])) (fun tz kz => st1.trans kz) ?_
  have nb_u0 : bv ≠ u0 := Ne.symm (Exa.neArv E_u0 Vb (own_w hw 8 rfl))
  refine own_on (B := T1.setTop (mkF m 21 #[rv u0, rv u1, un, rv u0, iv (-1 : Int32)] [(.ref u0)])) (fun tz kz => ?_) ?_
  · show sT p e below T1 (mkF m 5 #[rv u0, rv u1, un, un, un] [(.int 0)]) tz
    refine XS.ifYes X1.here hx rfl (pc0 := 5) (pc' := 15) rfl (hb hby own_d6_5) rfl ((if0 _ _).trans (teq rfl).1) (by decide) (by decide) ?_
    show sT p e below T1 (mkF m 15 #[rv u0, rv u1, un, un, un] []) tz
    refine XS.aloadN X1.here hx rfl (hb hby own_d6_15) rfl rfl ?_
    show sT p e below T1 (mkF m 16 #[rv u0, rv u1, un, un, un] [(.ref u0)]) tz
    refine XS.astoreN X1.here hx rfl (hb hby own_d6_16) rfl rfl (l' := #[rv u0, rv u1, un, rv u0, un]) rfl ?_
    show sT p e below T1 (mkF m 17 #[rv u0, rv u1, un, rv u0, un] []) tz
    refine XS.iconst X1.here hx rfl (hb hby own_d6_17) ?_
    show sT p e below T1 (mkF m 18 #[rv u0, rv u1, un, rv u0, un] [(.int (-1 : Int32))]) tz
    refine XS.istore X1.here hx rfl (hb hby own_d6_18) rfl (l' := #[rv u0, rv u1, un, rv u0, iv (-1 : Int32)]) rfl ?_
    show sT p e below T1 (mkF m 20 #[rv u0, rv u1, un, rv u0, iv (-1 : Int32)] []) tz
    refine XS.aloadN X1.here hx rfl (hb hby own_d6_20) rfl rfl ?_
    exact kz
  obtain ⟨cq2, kq2, q2a, q2b, q2c⟩ := isOf hZ e1 E_u0
  obtain ⟨_, _, ⟨T2, L2, k2, n2⟩, -, X2, ⟨Lc2, hQ2, l2, y2, z2⟩, st2⟩ := X1.virtualBack hx (y := (⟨"java/lang/String", "hashCode", "()I"⟩ : MethodName)) (z := (⟨"java/lang/String", "hashCode", "()I"⟩ : MethodName)) hown (mvT hZ (own_w hw 57 rfl)) (mvT hZ (own_w hw 58 rfl)) (notFace_of_selects (args := #[]) (mvT hZ (own_w hw 60 rfl))) (mvT hZ (own_w hw 60 rfl)) (mvT hZ (own_w hw 59 rfl)) (by decide) (backOf (W := 0) (rm12a l Z a0 hw [] u0 cS bv kb (50 : Int32) (50 : Int32) h0 n0 O0 S_cs hcS E_u0 g_u0 F_value F_coder F_hash F_hashIsZero Vb (by decide)) hZ (own_w hw 61 rfl) (own_w hw 9 rfl) (by decide) (by decide)) q2a q2c (g := (mkF m 21 #[rv u0, rv u1, un, rv u0, iv (-1 : Int32)] [(.ref u0)])) rfl (by rw [hml]; rfl) (Steps.refl _) (argsL := []) (rest := []) (lenOf own_pd11 rfl) rfl (by show 2 * 0 + _ ≤ _; exact Nat.le_of_eq rfl) (hb hby own_d6_21) (fun _ _ => ⟨rfl, e1, (by decide : 0 + 0 ≤ _), (by decide : 0 + 0 ≤ _)⟩)
  dsimp only [Pt.U, Pt.locs, Pt.cells, Pt.slots] at X2 l2 y2 z2 st2 hQ2
  subst l2 y2 z2
  obtain ⟨rfl, Nq2, Kq2, Fv2, Fc2⟩ := hQ2
  have N2 := Fr.app N1 Nq2
  have O3 := O0.keep Kq2 (allS g_u0 all0)
  have K3 : Keep h0 T2.heap [u0] := (Keep.refl h0 [u0]).trans Kq2 (allS (Or.inl (List.mem_of_getElem? (i := 0) rfl)) all0)
  refine own_on (B := T2.setTop (mkF m 24 #[rv u0, rv u1, un, rv u0, iv (-1 : Int32)] [(.int 50)])) (fun tz kz => st2.trans kz) ?_
  refine own_on (B := T2.setTop (mkF m 68 #[rv u0, rv u1, un, rv u0, iv (-1 : Int32)] [(.ref u0)])) (fun tz kz => ?_) ?_
  · show sT p e below T2 (mkF m 24 #[rv u0, rv u1, un, rv u0, iv (-1 : Int32)] [(.int 50)]) tz
    refine XS.tswIn X2.here hx rfl (pc0 := 24) (pc' := 67) (o := 43) rfl (hb hby own_d6_24) rfl (by decide) rfl (by decide) (by decide) ?_
    show sT p e below T2 (mkF m 67 #[rv u0, rv u1, un, rv u0, iv (-1 : Int32)] []) tz
    refine XS.aloadN X2.here hx rfl (hb hby own_d6_67) rfl rfl ?_
    exact kz
  have hS4 : s.Since s.vm 0 := State.WarmedH.since (State.WarmedH.refl s) 0
  obtain ⟨a5, T5, h5, k5, b5, kb5, X5, e5, E5, hS5, hk5, hZ, hown, Ea5, Ca5, Va5, Wa5, lta5, ltb5, Ib5, Li5, st5⟩ := own_ldcT (show Stand p l e ({ frames := 4, cells := 2, slots := 8, locals := 80 } : Room) (s.setVm s.vm) m _ below meth c T2 _ _ _ from X2) hx hZ hown (own_w hw 91 rfl) own_strw rfl hS4 (Nat.zero_le _) O3.2.2 (Ts := Ts) (hJ).1 hT2 held2 hcw (vs := [(.int 50)]) (z := 1) ⟨by decide, rfl⟩ (by decide) rfl (g := (mkF m 68 #[rv u0, rv u1, un, rv u0, iv (-1 : Int32)] [(.ref u0)])) rfl (hb hby own_d6_68) (n := 4) (by decide) (by decide) (by decide) (by decide)
  have O6 := O3.ext E5
  have K6 : Keep h0 h5 [u0] := K3.ext E5
  have Jl5 := OwnJ.lit Ib5 Li5
  refine own_on (B := T5.setTop (mkF m 70 #[rv u0, rv u1, un, rv u0, iv (-1 : Int32)] [(.ref a5), (.ref u0)])) (fun tz kz => st5 _ kz) ?_
  have f_7 := ((E_u0.keep Kq2).ext E5)
  have f_8 := (Fv2.ext E5)
  have f_9 := (Fc2.ext E5)
  have f_10 := ((Vb.keep Kq2 (ninS nb_u0 nin0)).ext E5)
  obtain ⟨cq11, kq11, q11a, q11b, q11c⟩ := isOf hZ e5 f_7
  obtain ⟨_, _, ⟨T11, L11, k11, n11⟩, -, X11, ⟨Lc11, hQ11, l11, y11, z11⟩, st11⟩ := X5.virtualBack hx (y := (⟨"java/lang/String", "equals", "(Ljava/lang/Object;)Z"⟩ : MethodName)) (z := (⟨"java/lang/String", "equals", "(Ljava/lang/Object;)Z"⟩ : MethodName)) hown (mvT hZ (own_w hw 33 rfl)) (mvT hZ (own_w hw 34 rfl)) (notFace_of_selects (args := #[]) (mvT hZ (own_w hw 36 rfl))) (mvT hZ (own_w hw 36 rfl)) (mvT hZ (own_w hw 35 rfl)) (by decide) (backOf (W := 0) (rm7a l Z a0 hw [] u0 a5 cS bv b5 kb kb5 (50 : Int32) h5 n0 O6 S_cs hcS f_7 f_8 f_9 Ea5 Va5 Ca5 f_10 Wa5 ) hZ (own_w hw 37 rfl) (own_w hw 9 rfl) (by decide) (by decide)) q11a q11c (g := (mkF m 70 #[rv u0, rv u1, un, rv u0, iv (-1 : Int32)] [(.ref a5), (.ref u0)])) rfl (by rw [hml]; rfl) (Steps.refl _) (argsL := [(.ref a5)]) (rest := []) (lenOf own_pd10 rfl) rfl (by show 2 * 0 + _ ≤ _; exact Nat.le_of_eq rfl) (hb hby own_d6_70) (fun _ _ => ⟨rfl, e5, (by decide : 2 + 0 ≤ _), (by decide : 8 + 0 ≤ _)⟩)
  dsimp only [Pt.U, Pt.locs, Pt.cells, Pt.slots] at X11 l11 y11 z11 st11 hQ11
  subst l11 y11 z11
  obtain ⟨rfl, Nq11, e11⟩ := hQ11
  have N11 := Fr.app N2 Nq11
  refine own_on (B := T11.setTop (mkF m 73 #[rv u0, rv u1, un, rv u0, iv (-1 : Int32)] [(.int 1)])) (fun tz kz => st11.trans kz) ?_
  refine own_on (B := T11.setTop (mkF m 130 #[rv u0, rv u1, un, rv u0, iv 1] [])) (fun tz kz => ?_) ?_
  · show sT p e below T11 (mkF m 73 #[rv u0, rv u1, un, rv u0, iv (-1 : Int32)] [(.int 1)]) tz
    refine XS.ifNo X11.here hx rfl (hb hby own_d6_73) rfl ((if0 _ _).trans (feq (by decide : ¬ ((1 : Int32) = (0 : Int32)))).1) ?_
    show sT p e below T11 (mkF m 76 #[rv u0, rv u1, un, rv u0, iv (-1 : Int32)] []) tz
    refine XS.iconst X11.here hx rfl (hb hby own_d6_76) ?_
    show sT p e below T11 (mkF m 77 #[rv u0, rv u1, un, rv u0, iv (-1 : Int32)] [(.int 1)]) tz
    refine XS.istore X11.here hx rfl (hb hby own_d6_77) rfl (l' := #[rv u0, rv u1, un, rv u0, iv 1]) rfl ?_
    show sT p e below T11 (mkF m 79 #[rv u0, rv u1, un, rv u0, iv 1] []) tz
    refine XS.goto X11.here hx rfl (pc0 := 79) (pc' := 94) rfl (hb hby own_d6_79) (by decide) (by decide) ?_
    show sT p e below T11 (mkF m 94 #[rv u0, rv u1, un, rv u0, iv 1] []) tz
    refine XS.iload X11.here hx rfl (hb hby own_d6_94) rfl ?_
    show sT p e below T11 (mkF m 96 #[rv u0, rv u1, un, rv u0, iv 1] [(.int 1)]) tz
    refine XS.tswIn X11.here hx rfl (pc0 := 96) (pc' := 130) (o := 34) rfl (hb hby own_d6_96) rfl (by decide) rfl (by decide) (by decide) ?_
    exact kz
  obtain ⟨T12, X12, e12, st12⟩ := getS2 X11 hx hZ hown (host := "") (Or.inl (own_w hw 92 rfl)) Via.refl e11 (S_LEVEL_2.ext O6.2) (g := (mkF m 130 #[rv u0, rv u1, un, rv u0, iv 1] [])) rfl (hb hby own_d6_130)
  refine own_on (B := T12.setTop (mkF m 133 #[rv u0, rv u1, un, rv u0, iv 1] [(.ref w2)])) (fun tz kz => st12 _ kz) ?_
  refine own_on (B := T12.setTop (mkF m 145 #[rv u0, rv u1, rv w2, rv u0, iv 1] [(.ref w2)])) (fun tz kz => ?_) ?_
  · show sT p e below T12 (mkF m 133 #[rv u0, rv u1, un, rv u0, iv 1] [(.ref w2)]) tz
    refine XS.goto X12.here hx rfl (pc0 := 133) (pc' := 143) rfl (hb hby own_d6_133) (by decide) (by decide) ?_
    show sT p e below T12 (mkF m 143 #[rv u0, rv u1, un, rv u0, iv 1] [(.ref w2)]) tz
    refine XS.astoreN X12.here hx rfl (hb hby own_d6_143) rfl rfl (l' := #[rv u0, rv u1, rv w2, rv u0, iv 1]) rfl ?_
    show sT p e below T12 (mkF m 144 #[rv u0, rv u1, rv w2, rv u0, iv 1] []) tz
    refine XS.aloadN X12.here hx rfl (hb hby own_d6_144) rfl rfl ?_
    exact kz
  obtain ⟨fs, hr, hrun, hended, hRW⟩ := Jvm.Stand.leaveW X12 hS5 (by rw [e12]; exact hk5) (v := some (.ref w2)) (fun h => by rw [Bd.returns] at h; cases h)
  refine own_of ⟨_, _, ?_, hrun, hended, _, _, rfl, ?_, hRW.1, hRW.2.1, hRW.2.2.1, hRW.2.2.2.mono (by decide) (by decide)⟩
  · show sT p e below T12 (mkF m 145 #[rv u0, rv u1, rv w2, rv u0, iv 1] [(.ref w2)]) _
    exact own_retV X12 hx Bd.returns rfl rfl (hb hby own_d6_145) hr
  · show Q6b Z u0 u1 w0 w1 w2 w3 cS bv kb Ts h0 n0 _ T12.heap _
    rw [e12]
    exact ⟨rfl, N11, K6⟩
theorem own_ef_6c (m : MethodId) (x0 : Addr) (x1 : Addr) : entryFrame m #[(.ref x0), (.ref x1)] 5 = mkF m 0 #[rv x0, rv x1, .unset, .unset, .unset] [] := by first | (simp [entryFrame, mkF, argsToLocals, Value.category]; done) | rfl
def Q6c (Z : State) (u0 : Addr) (u1 : Addr) (w0 : Addr) (w1 : Addr) (w2 : Addr) (w3 : Addr) (cS : Int32) (bv : Addr) (kb : ClassId) (Ts : List String) (h0 : Heap) (n0 : Nat) (v : Option Value) (h : Heap) (L : List Loc) : Prop := v = some (.ref w3) ∧ Fr n0 L ∧ Keep h0 h [u0]
theorem own_d6_82 : decode prog_11_method_4_code 82 = .ok (.aload_n 3, 1) := by decide +kernel
theorem own_d6_83 : decode prog_11_method_4_code 83 = .ok (.ldc 49, 2) := by decide +kernel
theorem own_d6_85 : decode prog_11_method_4_code 85 = .ok (.invokevirtual 35, 3) := by decide +kernel
theorem own_d6_88 : decode prog_11_method_4_code 88 = .ok (.ifCond .eq 6, 3) := by decide +kernel
theorem own_d6_91 : decode prog_11_method_4_code 91 = .ok (.iconst 2, 1) := by decide +kernel
theorem own_d6_92 : decode prog_11_method_4_code 92 = .ok (.istore 4, 2) := by decide +kernel
theorem own_d6_136 : decode prog_11_method_4_code 136 = .ok (.getstatic 13, 3) := by decide +kernel
theorem own_d6_139 : decode prog_11_method_4_code 139 = .ok (.goto 4, 3) := by decide +kernel
set_option maxRecDepth 65536 in
set_option maxHeartbeats 40000000 in
theorem rm6c (l : Launch) (Z : State) (a0 : Array Value) (hw : ∀ d ∈ tables_1, d.before a0 Z = true) (ws : List Jvm.Cond) (u0 : Addr) (u1 : Addr) (w0 : Addr) (w1 : Addr) (w2 : Addr) (w3 : Addr) (cS : Int32) (bv : Addr) (kb : ClassId) (Ts : List String) (h0 : Heap) (n0 : Nat) (O0 : Old Z n0 h0) (S_NONE : Sta Z Z.heap "com/example/stackwright/stackwright/Holdings$FairValueLevel" "NONE" "Lcom/example/stackwright/stackwright/Holdings$FairValueLevel;" (.ref w0)) (S_LEVEL_1 : Sta Z Z.heap "com/example/stackwright/stackwright/Holdings$FairValueLevel" "LEVEL_1" "Lcom/example/stackwright/stackwright/Holdings$FairValueLevel;" (.ref w1)) (S_LEVEL_2 : Sta Z Z.heap "com/example/stackwright/stackwright/Holdings$FairValueLevel" "LEVEL_2" "Lcom/example/stackwright/stackwright/Holdings$FairValueLevel;" (.ref w2)) (S_LEVEL_3 : Sta Z Z.heap "com/example/stackwright/stackwright/Holdings$FairValueLevel" "LEVEL_3" "Lcom/example/stackwright/stackwright/Holdings$FairValueLevel;" (.ref w3)) (S_cs : Sta Z Z.heap "java/lang/String" "COMPACT_STRINGS" "Z" (.int cS)) (hcS : ¬ (cS = (0 : Int32))) (E_u0 : Exa Z h0 u0 "java/lang/String") (g_u0 : n0 ≤ u0) (F_value : Fld Z h0 u0 "java/lang/String" "value" "[B" (.ref bv)) (F_coder : Fld Z h0 u0 "java/lang/String" "coder" "B" (.int (0 : Int32))) (F_hash : Fld Z h0 u0 "java/lang/String" "hash" "I" (.int (0 : Int32))) (F_hashIsZero : Fld Z h0 u0 "java/lang/String" "hashIsZero" "Z" (.int (0 : Int32))) (Vb : Arv Z h0 bv kb .byte (1 : Int32) [(.int (51 : Int32))] (.int 0)) (hE : OwnEq l Z u0 u1 h0 n0 0) (held1 : Jvm.Lit.constHeld Z "com/example/stackwright/stackwright/Holdings$FairValueLevel" 45) (held2 : Jvm.Lit.constHeld Z "com/example/stackwright/stackwright/Holdings$FairValueLevel" 47) (held3 : Jvm.Lit.constHeld Z "com/example/stackwright/stackwright/Holdings$FairValueLevel" 49) (hcw : Jvm.Lit.compactW.before a0 Z = true) (hT1 : "1" ∉ Ts) (hT2 : "2" ∉ Ts) (hT3 : "3" ∉ Ts) :
    MetFree l (⟨"com/example/stackwright/stackwright/Holdings$FairValueLevel", "read", "(Ljava/lang/String;Ljava/lang/String;)Lcom/example/stackwright/stackwright/Holdings$FairValueLevel;"⟩ : MethodName) (head1 (Jvm.Cond.code (⟨"com/example/stackwright/stackwright/Holdings$FairValueLevel", "read", "(Ljava/lang/String;Ljava/lang/String;)Lcom/example/stackwright/stackwright/Holdings$FairValueLevel;"⟩ : MethodName) prog_11_method_4_code 5 (some (.object "com/example/stackwright/stackwright/Holdings$FairValueLevel")) :: ws) ({ frames := 4, cells := 2, slots := 8, locals := 80 } : Room)) (fun a U => a = #[(.ref u0), (.ref u1)] ∧ Z.Warmed39 U.vm ∧ U.heap = h0 ∧ OwnJ Z Ts [] U.vm) (fun _ _ _ _ _ => True) (fun _ U o U' => ∃ v L, o = .returned v ∧ Q6c Z u0 u1 w0 w1 w2 w3 cS bv kb Ts h0 n0 v U'.heap L ∧ ReturnedEndW U o U' L ({ frames := 4, cells := 2, slots := 8, locals := 80 } : Room).cells ({ frames := 4, cells := 2, slots := 8, locals := 80 } : Room).slots) := by
  refine MetFree.of_bodySF (plainFor_of_name own_pn_com_example_stackwright_stackwright_Holdings_FairValueLevel) hisR ?_
  intro p e s m args below meth c s₁ Bd hml0 hP hK
  obtain ⟨rfl, hZ, hh, hJ⟩ := hP
  have hx := Bd.exec
  have hby := Bd.bytes
  have hml : c.maxLocals = 5 := hml0
  have hown : s.vm.findClass "com/example/stackwright/stackwright/Holdings$FairValueLevel" = some m.cls := findClass_of_methodNamed Bd.named
  have hnm := (name_of_methodNamed Bd.named Bd.method).1
  have X0 : Stand p l e ({ frames := 4, cells := 2, slots := 8, locals := 80 } : Room) s m #[(.ref u0), (.ref u1)] below meth c s₁ [] 0 0 := Stand.of_body Bd
  have e0 : s₁.heap = h0 := by rw [← hh, Bd.state]; rfl
  have N0 := Fr.nil n0
  change Go p.tables e below _ _
  refine own_on (B := s₁.setTop (mkF m 0 #[rv u0, rv u1, un, un, un] [])) (fun tz kz => castTop (own_ef_6c m u0 u1) kz) ?_
  have own_strw : ∀ a ∈ Bundle.stringAtoms, a.before a0 Z = true := by
    intro d hd
    simp only [Bundle.stringAtoms, List.mem_cons, List.not_mem_nil, or_false] at hd
    rcases hd with rfl | rfl | rfl | rfl | rfl | rfl | rfl
    · exact (own_w hw 9 rfl)
    · exact (own_w hw 8 rfl)
    · exact (own_w hw 22 rfl)
    · exact (own_w hw 23 rfl)
    · exact (own_w hw 24 rfl)
    · exact (own_w hw 25 rfl)
    · exact (own_w hw 26 rfl)
  refine own_on (B := s₁.setTop (mkF m 2 #[rv u0, rv u1, un, un, un] [(.ref u1), (.ref u0)])) (fun tz kz => ?_) ?_
  · show sT p e below s₁ (mkF m 0 #[rv u0, rv u1, un, un, un] []) tz
    refine XS.aloadN X0.here hx rfl (hb hby own_d6_0) rfl rfl ?_
    show sT p e below s₁ (mkF m 1 #[rv u0, rv u1, un, un, un] [(.ref u0)]) tz
    refine XS.aloadN X0.here hx rfl (hb hby own_d6_1) rfl rfl ?_
    exact kz
  obtain ⟨cq1, kq1, q1a, q1b, q1c⟩ := isOf hZ e0 E_u0
  obtain ⟨_, _, ⟨T1, L1, k1, n1⟩, -, X1, ⟨Lc1, hQ1, l1, y1, z1⟩, st1⟩ := X0.virtualBack hx (y := (⟨"java/lang/String", "equals", "(Ljava/lang/Object;)Z"⟩ : MethodName)) (z := (⟨"java/lang/String", "equals", "(Ljava/lang/Object;)Z"⟩ : MethodName)) hown (mvT hZ (own_w hw 33 rfl)) (mvT hZ (own_w hw 34 rfl)) (notFace_of_selects (args := #[]) (mvT hZ (own_w hw 36 rfl))) (mvT hZ (own_w hw 36 rfl)) (mvT hZ (own_w hw 35 rfl)) (by decide) (backOf (W := 0) hE hZ (own_w hw 37 rfl) (own_w hw 9 rfl) (by decide) (by decide)) q1a q1c (g := (mkF m 2 #[rv u0, rv u1, un, un, un] [(.ref u1), (.ref u0)])) rfl (by rw [hml]; rfl) (Steps.refl _) (argsL := [(.ref u1)]) (rest := []) (lenOf own_pd10 rfl) rfl (by show 2 * 0 + _ ≤ _; exact Nat.le_of_eq rfl) (hb hby own_d6_2) (fun _ _ => ⟨rfl, e0, (by decide : 0 + 0 ≤ _), (by decide : 0 + 0 ≤ _)⟩)
  dsimp only [Pt.U, Pt.locs, Pt.cells, Pt.slots] at X1 l1 y1 z1 st1 hQ1
  subst l1 y1 z1
  obtain ⟨rfl, Nq1, e1⟩ := hQ1
  have N1 := Fr.app N0 Nq1
  refine own_on (B := T1.setTop (mkF m 5 #[rv u0, rv u1, un, un, un] [(.int 0)])) (fun tz kz => st1.trans kz) ?_
  have nb_u0 : bv ≠ u0 := Ne.symm (Exa.neArv E_u0 Vb (own_w hw 8 rfl))
  refine own_on (B := T1.setTop (mkF m 21 #[rv u0, rv u1, un, rv u0, iv (-1 : Int32)] [(.ref u0)])) (fun tz kz => ?_) ?_
  · show sT p e below T1 (mkF m 5 #[rv u0, rv u1, un, un, un] [(.int 0)]) tz
    refine XS.ifYes X1.here hx rfl (pc0 := 5) (pc' := 15) rfl (hb hby own_d6_5) rfl ((if0 _ _).trans (teq rfl).1) (by decide) (by decide) ?_
    show sT p e below T1 (mkF m 15 #[rv u0, rv u1, un, un, un] []) tz
    refine XS.aloadN X1.here hx rfl (hb hby own_d6_15) rfl rfl ?_
    show sT p e below T1 (mkF m 16 #[rv u0, rv u1, un, un, un] [(.ref u0)]) tz
    refine XS.astoreN X1.here hx rfl (hb hby own_d6_16) rfl rfl (l' := #[rv u0, rv u1, un, rv u0, un]) rfl ?_
    show sT p e below T1 (mkF m 17 #[rv u0, rv u1, un, rv u0, un] []) tz
    refine XS.iconst X1.here hx rfl (hb hby own_d6_17) ?_
    show sT p e below T1 (mkF m 18 #[rv u0, rv u1, un, rv u0, un] [(.int (-1 : Int32))]) tz
    refine XS.istore X1.here hx rfl (hb hby own_d6_18) rfl (l' := #[rv u0, rv u1, un, rv u0, iv (-1 : Int32)]) rfl ?_
    show sT p e below T1 (mkF m 20 #[rv u0, rv u1, un, rv u0, iv (-1 : Int32)] []) tz
    refine XS.aloadN X1.here hx rfl (hb hby own_d6_20) rfl rfl ?_
    exact kz
  obtain ⟨cq2, kq2, q2a, q2b, q2c⟩ := isOf hZ e1 E_u0
  obtain ⟨_, _, ⟨T2, L2, k2, n2⟩, -, X2, ⟨Lc2, hQ2, l2, y2, z2⟩, st2⟩ := X1.virtualBack hx (y := (⟨"java/lang/String", "hashCode", "()I"⟩ : MethodName)) (z := (⟨"java/lang/String", "hashCode", "()I"⟩ : MethodName)) hown (mvT hZ (own_w hw 57 rfl)) (mvT hZ (own_w hw 58 rfl)) (notFace_of_selects (args := #[]) (mvT hZ (own_w hw 60 rfl))) (mvT hZ (own_w hw 60 rfl)) (mvT hZ (own_w hw 59 rfl)) (by decide) (backOf (W := 0) (rm12a l Z a0 hw [] u0 cS bv kb (51 : Int32) (51 : Int32) h0 n0 O0 S_cs hcS E_u0 g_u0 F_value F_coder F_hash F_hashIsZero Vb (by decide)) hZ (own_w hw 61 rfl) (own_w hw 9 rfl) (by decide) (by decide)) q2a q2c (g := (mkF m 21 #[rv u0, rv u1, un, rv u0, iv (-1 : Int32)] [(.ref u0)])) rfl (by rw [hml]; rfl) (Steps.refl _) (argsL := []) (rest := []) (lenOf own_pd11 rfl) rfl (by show 2 * 0 + _ ≤ _; exact Nat.le_of_eq rfl) (hb hby own_d6_21) (fun _ _ => ⟨rfl, e1, (by decide : 0 + 0 ≤ _), (by decide : 0 + 0 ≤ _)⟩)
  dsimp only [Pt.U, Pt.locs, Pt.cells, Pt.slots] at X2 l2 y2 z2 st2 hQ2
  subst l2 y2 z2
  obtain ⟨rfl, Nq2, Kq2, Fv2, Fc2⟩ := hQ2
  have N2 := Fr.app N1 Nq2
  have O3 := O0.keep Kq2 (allS g_u0 all0)
  have K3 : Keep h0 T2.heap [u0] := (Keep.refl h0 [u0]).trans Kq2 (allS (Or.inl (List.mem_of_getElem? (i := 0) rfl)) all0)
  refine own_on (B := T2.setTop (mkF m 24 #[rv u0, rv u1, un, rv u0, iv (-1 : Int32)] [(.int 51)])) (fun tz kz => st2.trans kz) ?_
  refine own_on (B := T2.setTop (mkF m 83 #[rv u0, rv u1, un, rv u0, iv (-1 : Int32)] [(.ref u0)])) (fun tz kz => ?_) ?_
  · show sT p e below T2 (mkF m 24 #[rv u0, rv u1, un, rv u0, iv (-1 : Int32)] [(.int 51)]) tz
    refine XS.tswIn X2.here hx rfl (pc0 := 24) (pc' := 82) (o := 58) rfl (hb hby own_d6_24) rfl (by decide) rfl (by decide) (by decide) ?_
    show sT p e below T2 (mkF m 82 #[rv u0, rv u1, un, rv u0, iv (-1 : Int32)] []) tz
    refine XS.aloadN X2.here hx rfl (hb hby own_d6_82) rfl rfl ?_
    exact kz
  have hS4 : s.Since s.vm 0 := State.WarmedH.since (State.WarmedH.refl s) 0
  obtain ⟨a5, T5, h5, k5, b5, kb5, X5, e5, E5, hS5, hk5, hZ, hown, Ea5, Ca5, Va5, Wa5, lta5, ltb5, Ib5, Li5, st5⟩ := own_ldcT (show Stand p l e ({ frames := 4, cells := 2, slots := 8, locals := 80 } : Room) (s.setVm s.vm) m _ below meth c T2 _ _ _ from X2) hx hZ hown (own_w hw 83 rfl) own_strw rfl hS4 (Nat.zero_le _) O3.2.2 (Ts := Ts) (hJ).1 hT3 held3 hcw (vs := [(.int 51)]) (z := 1) ⟨by decide, rfl⟩ (by decide) rfl (g := (mkF m 83 #[rv u0, rv u1, un, rv u0, iv (-1 : Int32)] [(.ref u0)])) rfl (hb hby own_d6_83) (n := 4) (by decide) (by decide) (by decide) (by decide)
  have O6 := O3.ext E5
  have K6 : Keep h0 h5 [u0] := K3.ext E5
  have Jl5 := OwnJ.lit Ib5 Li5
  refine own_on (B := T5.setTop (mkF m 85 #[rv u0, rv u1, un, rv u0, iv (-1 : Int32)] [(.ref a5), (.ref u0)])) (fun tz kz => st5 _ kz) ?_
  have f_7 := ((E_u0.keep Kq2).ext E5)
  have f_8 := (Fv2.ext E5)
  have f_9 := (Fc2.ext E5)
  have f_10 := ((Vb.keep Kq2 (ninS nb_u0 nin0)).ext E5)
  obtain ⟨cq11, kq11, q11a, q11b, q11c⟩ := isOf hZ e5 f_7
  obtain ⟨_, _, ⟨T11, L11, k11, n11⟩, -, X11, ⟨Lc11, hQ11, l11, y11, z11⟩, st11⟩ := X5.virtualBack hx (y := (⟨"java/lang/String", "equals", "(Ljava/lang/Object;)Z"⟩ : MethodName)) (z := (⟨"java/lang/String", "equals", "(Ljava/lang/Object;)Z"⟩ : MethodName)) hown (mvT hZ (own_w hw 33 rfl)) (mvT hZ (own_w hw 34 rfl)) (notFace_of_selects (args := #[]) (mvT hZ (own_w hw 36 rfl))) (mvT hZ (own_w hw 36 rfl)) (mvT hZ (own_w hw 35 rfl)) (by decide) (backOf (W := 0) (rm7a l Z a0 hw [] u0 a5 cS bv b5 kb kb5 (51 : Int32) h5 n0 O6 S_cs hcS f_7 f_8 f_9 Ea5 Va5 Ca5 f_10 Wa5 ) hZ (own_w hw 37 rfl) (own_w hw 9 rfl) (by decide) (by decide)) q11a q11c (g := (mkF m 85 #[rv u0, rv u1, un, rv u0, iv (-1 : Int32)] [(.ref a5), (.ref u0)])) rfl (by rw [hml]; rfl) (Steps.refl _) (argsL := [(.ref a5)]) (rest := []) (lenOf own_pd10 rfl) rfl (by show 2 * 0 + _ ≤ _; exact Nat.le_of_eq rfl) (hb hby own_d6_85) (fun _ _ => ⟨rfl, e5, (by decide : 2 + 0 ≤ _), (by decide : 8 + 0 ≤ _)⟩)
  dsimp only [Pt.U, Pt.locs, Pt.cells, Pt.slots] at X11 l11 y11 z11 st11 hQ11
  subst l11 y11 z11
  obtain ⟨rfl, Nq11, e11⟩ := hQ11
  have N11 := Fr.app N2 Nq11
  refine own_on (B := T11.setTop (mkF m 88 #[rv u0, rv u1, un, rv u0, iv (-1 : Int32)] [(.int 1)])) (fun tz kz => st11.trans kz) ?_
  refine own_on (B := T11.setTop (mkF m 136 #[rv u0, rv u1, un, rv u0, iv 2] [])) (fun tz kz => ?_) ?_
  · show sT p e below T11 (mkF m 88 #[rv u0, rv u1, un, rv u0, iv (-1 : Int32)] [(.int 1)]) tz
    refine XS.ifNo X11.here hx rfl (hb hby own_d6_88) rfl ((if0 _ _).trans (feq (by decide : ¬ ((1 : Int32) = (0 : Int32)))).1) ?_
    show sT p e below T11 (mkF m 91 #[rv u0, rv u1, un, rv u0, iv (-1 : Int32)] []) tz
    refine XS.iconst X11.here hx rfl (hb hby own_d6_91) ?_
    show sT p e below T11 (mkF m 92 #[rv u0, rv u1, un, rv u0, iv (-1 : Int32)] [(.int 2)]) tz
    refine XS.istore X11.here hx rfl (hb hby own_d6_92) rfl (l' := #[rv u0, rv u1, un, rv u0, iv 2]) rfl ?_
    show sT p e below T11 (mkF m 94 #[rv u0, rv u1, un, rv u0, iv 2] []) tz
    refine XS.iload X11.here hx rfl (hb hby own_d6_94) rfl ?_
    show sT p e below T11 (mkF m 96 #[rv u0, rv u1, un, rv u0, iv 2] [(.int 2)]) tz
    refine XS.tswIn X11.here hx rfl (pc0 := 96) (pc' := 136) (o := 40) rfl (hb hby own_d6_96) rfl (by decide) rfl (by decide) (by decide) ?_
    exact kz
  obtain ⟨T12, X12, e12, st12⟩ := getS2 X11 hx hZ hown (host := "") (Or.inl (own_w hw 84 rfl)) Via.refl e11 (S_LEVEL_3.ext O6.2) (g := (mkF m 136 #[rv u0, rv u1, un, rv u0, iv 2] [])) rfl (hb hby own_d6_136)
  refine own_on (B := T12.setTop (mkF m 139 #[rv u0, rv u1, un, rv u0, iv 2] [(.ref w3)])) (fun tz kz => st12 _ kz) ?_
  refine own_on (B := T12.setTop (mkF m 145 #[rv u0, rv u1, rv w3, rv u0, iv 2] [(.ref w3)])) (fun tz kz => ?_) ?_
  · show sT p e below T12 (mkF m 139 #[rv u0, rv u1, un, rv u0, iv 2] [(.ref w3)]) tz
    refine XS.goto X12.here hx rfl (pc0 := 139) (pc' := 143) rfl (hb hby own_d6_139) (by decide) (by decide) ?_
    show sT p e below T12 (mkF m 143 #[rv u0, rv u1, un, rv u0, iv 2] [(.ref w3)]) tz
    refine XS.astoreN X12.here hx rfl (hb hby own_d6_143) rfl rfl (l' := #[rv u0, rv u1, rv w3, rv u0, iv 2]) rfl ?_
    show sT p e below T12 (mkF m 144 #[rv u0, rv u1, rv w3, rv u0, iv 2] []) tz
    refine XS.aloadN X12.here hx rfl (hb hby own_d6_144) rfl rfl ?_
    exact kz
  obtain ⟨fs, hr, hrun, hended, hRW⟩ := Jvm.Stand.leaveW X12 hS5 (by rw [e12]; exact hk5) (v := some (.ref w3)) (fun h => by rw [Bd.returns] at h; cases h)
  refine own_of ⟨_, _, ?_, hrun, hended, _, _, rfl, ?_, hRW.1, hRW.2.1, hRW.2.2.1, hRW.2.2.2.mono (by decide) (by decide)⟩
  · show sT p e below T12 (mkF m 145 #[rv u0, rv u1, rv w3, rv u0, iv 2] [(.ref w3)]) _
    exact own_retV X12 hx Bd.returns rfl rfl (hb hby own_d6_145) hr
  · show Q6c Z u0 u1 w0 w1 w2 w3 cS bv kb Ts h0 n0 _ T12.heap _
    rw [e12]
    exact ⟨rfl, N11, K6⟩
theorem own_ef_6o (m : MethodId) (x0 : Addr) (x1 : Addr) : entryFrame m #[(.ref x0), (.ref x1)] 5 = mkF m 0 #[rv x0, rv x1, .unset, .unset, .unset] [] := by first | (simp [entryFrame, mkF, argsToLocals, Value.category]; done) | rfl
def Q6o (Z : State) (u0 : Addr) (u1 : Addr) (w0 : Addr) (w1 : Addr) (w2 : Addr) (w3 : Addr) (cS : Int32) (bv : Addr) (kb : ClassId) (y0 : Int32) (x0 : Int32) (h0 : Heap) (n0 : Nat) (v : Option Value) (h : Heap) (L : List Loc) : Prop := v = some .null ∧ Fr n0 L ∧ Keep h0 h [u0]
set_option maxRecDepth 65536 in
set_option maxHeartbeats 40000000 in
theorem rm6o (l : Launch) (Z : State) (a0 : Array Value) (hw : ∀ d ∈ tables_1, d.before a0 Z = true) (ws : List Jvm.Cond) (u0 : Addr) (u1 : Addr) (w0 : Addr) (w1 : Addr) (w2 : Addr) (w3 : Addr) (cS : Int32) (bv : Addr) (kb : ClassId) (y0 : Int32) (x0 : Int32) (h0 : Heap) (n0 : Nat) (O0 : Old Z n0 h0) (S_NONE : Sta Z Z.heap "com/example/stackwright/stackwright/Holdings$FairValueLevel" "NONE" "Lcom/example/stackwright/stackwright/Holdings$FairValueLevel;" (.ref w0)) (S_LEVEL_1 : Sta Z Z.heap "com/example/stackwright/stackwright/Holdings$FairValueLevel" "LEVEL_1" "Lcom/example/stackwright/stackwright/Holdings$FairValueLevel;" (.ref w1)) (S_LEVEL_2 : Sta Z Z.heap "com/example/stackwright/stackwright/Holdings$FairValueLevel" "LEVEL_2" "Lcom/example/stackwright/stackwright/Holdings$FairValueLevel;" (.ref w2)) (S_LEVEL_3 : Sta Z Z.heap "com/example/stackwright/stackwright/Holdings$FairValueLevel" "LEVEL_3" "Lcom/example/stackwright/stackwright/Holdings$FairValueLevel;" (.ref w3)) (S_cs : Sta Z Z.heap "java/lang/String" "COMPACT_STRINGS" "Z" (.int cS)) (hcS : ¬ (cS = (0 : Int32))) (E_u0 : Exa Z h0 u0 "java/lang/String") (g_u0 : n0 ≤ u0) (F_value : Fld Z h0 u0 "java/lang/String" "value" "[B" (.ref bv)) (F_coder : Fld Z h0 u0 "java/lang/String" "coder" "B" (.int (0 : Int32))) (F_hash : Fld Z h0 u0 "java/lang/String" "hash" "I" (.int (0 : Int32))) (F_hashIsZero : Fld Z h0 u0 "java/lang/String" "hashIsZero" "Z" (.int (0 : Int32))) (Vb : Arv Z h0 bv kb .byte (1 : Int32) [(.int y0)] (.int 0)) (hm : y0 &&& (255 : Int32) = x0) (q1 : ¬ (x0 = (49 : Int32))) (q2 : ¬ (x0 = (50 : Int32))) (q3 : ¬ (x0 = (51 : Int32))) (hE : OwnEq l Z u0 u1 h0 n0 0) :
    MetFree l (⟨"com/example/stackwright/stackwright/Holdings$FairValueLevel", "read", "(Ljava/lang/String;Ljava/lang/String;)Lcom/example/stackwright/stackwright/Holdings$FairValueLevel;"⟩ : MethodName) (head1 (Jvm.Cond.code (⟨"com/example/stackwright/stackwright/Holdings$FairValueLevel", "read", "(Ljava/lang/String;Ljava/lang/String;)Lcom/example/stackwright/stackwright/Holdings$FairValueLevel;"⟩ : MethodName) prog_11_method_4_code 5 (some (.object "com/example/stackwright/stackwright/Holdings$FairValueLevel")) :: ws) ({ frames := 4, cells := 2, slots := 8, locals := 80 } : Room)) (fun a U => a = #[(.ref u0), (.ref u1)] ∧ Z.Warmed39 U.vm ∧ U.heap = h0) (fun _ _ _ _ _ => True) (fun _ U o U' => ∃ v L, o = .returned v ∧ Q6o Z u0 u1 w0 w1 w2 w3 cS bv kb y0 x0 h0 n0 v U'.heap L ∧ FrameEnd U o U' L ({ frames := 4, cells := 2, slots := 8, locals := 80 } : Room).cells ({ frames := 4, cells := 2, slots := 8, locals := 80 } : Room).slots) := by
  refine MetFree.of_bodySF (plainFor_of_name own_pn_com_example_stackwright_stackwright_Holdings_FairValueLevel) hisR ?_
  intro p e s m args below meth c s₁ Bd hml0 hP hK
  obtain ⟨rfl, hZ, hh⟩ := hP
  have hx := Bd.exec
  have hby := Bd.bytes
  have hml : c.maxLocals = 5 := hml0
  have hown : s.vm.findClass "com/example/stackwright/stackwright/Holdings$FairValueLevel" = some m.cls := findClass_of_methodNamed Bd.named
  have hnm := (name_of_methodNamed Bd.named Bd.method).1
  have X0 : Stand p l e ({ frames := 4, cells := 2, slots := 8, locals := 80 } : Room) s m #[(.ref u0), (.ref u1)] below meth c s₁ [] 0 0 := Stand.of_body Bd
  have e0 : s₁.heap = h0 := by rw [← hh, Bd.state]; rfl
  have N0 := Fr.nil n0
  change Go p.tables e below _ _
  refine own_on (B := s₁.setTop (mkF m 0 #[rv u0, rv u1, un, un, un] [])) (fun tz kz => castTop (own_ef_6o m u0 u1) kz) ?_
  refine own_on (B := s₁.setTop (mkF m 2 #[rv u0, rv u1, un, un, un] [(.ref u1), (.ref u0)])) (fun tz kz => ?_) ?_
  · show sT p e below s₁ (mkF m 0 #[rv u0, rv u1, un, un, un] []) tz
    refine XS.aloadN X0.here hx rfl (hb hby own_d6_0) rfl rfl ?_
    show sT p e below s₁ (mkF m 1 #[rv u0, rv u1, un, un, un] [(.ref u0)]) tz
    refine XS.aloadN X0.here hx rfl (hb hby own_d6_1) rfl rfl ?_
    exact kz
  obtain ⟨cq1, kq1, q1a, q1b, q1c⟩ := isOf hZ e0 E_u0
  obtain ⟨_, _, ⟨T1, L1, k1, n1⟩, -, X1, ⟨Lc1, hQ1, l1, y1, z1⟩, st1⟩ := X0.virtualBack hx (y := (⟨"java/lang/String", "equals", "(Ljava/lang/Object;)Z"⟩ : MethodName)) (z := (⟨"java/lang/String", "equals", "(Ljava/lang/Object;)Z"⟩ : MethodName)) hown (mvT hZ (own_w hw 33 rfl)) (mvT hZ (own_w hw 34 rfl)) (notFace_of_selects (args := #[]) (mvT hZ (own_w hw 36 rfl))) (mvT hZ (own_w hw 36 rfl)) (mvT hZ (own_w hw 35 rfl)) (by decide) (backOf (W := 0) hE hZ (own_w hw 37 rfl) (own_w hw 9 rfl) (by decide) (by decide)) q1a q1c (g := (mkF m 2 #[rv u0, rv u1, un, un, un] [(.ref u1), (.ref u0)])) rfl (by rw [hml]; rfl) (Steps.refl _) (argsL := [(.ref u1)]) (rest := []) (lenOf own_pd10 rfl) rfl (by show 2 * 0 + _ ≤ _; exact Nat.le_of_eq rfl) (hb hby own_d6_2) (fun _ _ => ⟨rfl, e0, (by decide : 0 + 0 ≤ _), (by decide : 0 + 0 ≤ _)⟩)
  dsimp only [Pt.U, Pt.locs, Pt.cells, Pt.slots] at X1 l1 y1 z1 st1 hQ1
  subst l1 y1 z1
  obtain ⟨rfl, Nq1, e1⟩ := hQ1
  have N1 := Fr.app N0 Nq1
  refine own_on (B := T1.setTop (mkF m 5 #[rv u0, rv u1, un, un, un] [(.int 0)])) (fun tz kz => st1.trans kz) ?_
  have nb_u0 : bv ≠ u0 := Ne.symm (Exa.neArv E_u0 Vb (own_w hw 8 rfl))
  refine own_on (B := T1.setTop (mkF m 21 #[rv u0, rv u1, un, rv u0, iv (-1 : Int32)] [(.ref u0)])) (fun tz kz => ?_) ?_
  · show sT p e below T1 (mkF m 5 #[rv u0, rv u1, un, un, un] [(.int 0)]) tz
    refine XS.ifYes X1.here hx rfl (pc0 := 5) (pc' := 15) rfl (hb hby own_d6_5) rfl ((if0 _ _).trans (teq rfl).1) (by decide) (by decide) ?_
    show sT p e below T1 (mkF m 15 #[rv u0, rv u1, un, un, un] []) tz
    refine XS.aloadN X1.here hx rfl (hb hby own_d6_15) rfl rfl ?_
    show sT p e below T1 (mkF m 16 #[rv u0, rv u1, un, un, un] [(.ref u0)]) tz
    refine XS.astoreN X1.here hx rfl (hb hby own_d6_16) rfl rfl (l' := #[rv u0, rv u1, un, rv u0, un]) rfl ?_
    show sT p e below T1 (mkF m 17 #[rv u0, rv u1, un, rv u0, un] []) tz
    refine XS.iconst X1.here hx rfl (hb hby own_d6_17) ?_
    show sT p e below T1 (mkF m 18 #[rv u0, rv u1, un, rv u0, un] [(.int (-1 : Int32))]) tz
    refine XS.istore X1.here hx rfl (hb hby own_d6_18) rfl (l' := #[rv u0, rv u1, un, rv u0, iv (-1 : Int32)]) rfl ?_
    show sT p e below T1 (mkF m 20 #[rv u0, rv u1, un, rv u0, iv (-1 : Int32)] []) tz
    refine XS.aloadN X1.here hx rfl (hb hby own_d6_20) rfl rfl ?_
    exact kz
  obtain ⟨cq2, kq2, q2a, q2b, q2c⟩ := isOf hZ e1 E_u0
  obtain ⟨_, _, ⟨T2, L2, k2, n2⟩, -, X2, ⟨Lc2, hQ2, l2, y2, z2⟩, st2⟩ := X1.virtualBack hx (y := (⟨"java/lang/String", "hashCode", "()I"⟩ : MethodName)) (z := (⟨"java/lang/String", "hashCode", "()I"⟩ : MethodName)) hown (mvT hZ (own_w hw 57 rfl)) (mvT hZ (own_w hw 58 rfl)) (notFace_of_selects (args := #[]) (mvT hZ (own_w hw 60 rfl))) (mvT hZ (own_w hw 60 rfl)) (mvT hZ (own_w hw 59 rfl)) (by decide) (backOf (W := 0) (rm12a l Z a0 hw [] u0 cS bv kb y0 x0 h0 n0 O0 S_cs hcS E_u0 g_u0 F_value F_coder F_hash F_hashIsZero Vb hm) hZ (own_w hw 61 rfl) (own_w hw 9 rfl) (by decide) (by decide)) q2a q2c (g := (mkF m 21 #[rv u0, rv u1, un, rv u0, iv (-1 : Int32)] [(.ref u0)])) rfl (by rw [hml]; rfl) (Steps.refl _) (argsL := []) (rest := []) (lenOf own_pd11 rfl) rfl (by show 2 * 0 + _ ≤ _; exact Nat.le_of_eq rfl) (hb hby own_d6_21) (fun _ _ => ⟨rfl, e1, (by decide : 0 + 0 ≤ _), (by decide : 0 + 0 ≤ _)⟩)
  dsimp only [Pt.U, Pt.locs, Pt.cells, Pt.slots] at X2 l2 y2 z2 st2 hQ2
  subst l2 y2 z2
  obtain ⟨rfl, Nq2, Kq2, Fv2, Fc2⟩ := hQ2
  have N2 := Fr.app N1 Nq2
  have O3 := O0.keep Kq2 (allS g_u0 all0)
  have K3 : Keep h0 T2.heap [u0] := (Keep.refl h0 [u0]).trans Kq2 (allS (Or.inl (List.mem_of_getElem? (i := 0) rfl)) all0)
  refine own_on (B := T2.setTop (mkF m 24 #[rv u0, rv u1, un, rv u0, iv (-1 : Int32)] [(.int x0)])) (fun tz kz => st2.trans kz) ?_
  refine own_on (B := T2.setTop (mkF m 145 #[rv u0, rv u1, .val .null, rv u0, iv (-1 : Int32)] [.null])) (fun tz kz => ?_) ?_
  · show sT p e below T2 (mkF m 24 #[rv u0, rv u1, un, rv u0, iv (-1 : Int32)] [(.int x0)]) tz
    refine XS.tswOut X2.here hx rfl (pc0 := 24) (pc' := 94) rfl (hb hby own_d6_24) rfl (own_out x0 q1 q2 q3) (by decide) (by decide) ?_
    show sT p e below T2 (mkF m 94 #[rv u0, rv u1, un, rv u0, iv (-1 : Int32)] []) tz
    refine XS.iload X2.here hx rfl (hb hby own_d6_94) rfl ?_
    show sT p e below T2 (mkF m 96 #[rv u0, rv u1, un, rv u0, iv (-1 : Int32)] [(.int (-1 : Int32))]) tz
    refine XS.tswOut X2.here hx rfl (pc0 := 96) (pc' := 142) rfl (hb hby own_d6_96) rfl (by decide) (by decide) (by decide) ?_
    show sT p e below T2 (mkF m 142 #[rv u0, rv u1, un, rv u0, iv (-1 : Int32)] []) tz
    refine XS.aconstNull X2.here hx rfl (hb hby own_d6_142) ?_
    show sT p e below T2 (mkF m 143 #[rv u0, rv u1, un, rv u0, iv (-1 : Int32)] [.null]) tz
    refine XS.astoreN X2.here hx rfl (hb hby own_d6_143) rfl rfl (l' := #[rv u0, rv u1, .val .null, rv u0, iv (-1 : Int32)]) rfl ?_
    show sT p e below T2 (mkF m 144 #[rv u0, rv u1, .val .null, rv u0, iv (-1 : Int32)] []) tz
    refine XS.aloadN X2.here hx rfl (hb hby own_d6_144) rfl rfl ?_
    exact kz
  obtain ⟨fs, hr, hrun, hended, hW, hsame⟩ := X2.leave (v := some .null) (fun h => by rw [Bd.returns] at h; cases h)
  refine own_of ⟨_, _, ?_, hrun, hended, _, _, rfl, ?_, ⟨_, rfl⟩, hW, hsame.mono (by decide) (by decide)⟩
  · show sT p e below T2 (mkF m 145 #[rv u0, rv u1, .val .null, rv u0, iv (-1 : Int32)] [.null]) _
    exact own_retV X2 hx Bd.returns rfl rfl (hb hby own_d6_145) hr
  · show Q6o Z u0 u1 w0 w1 w2 w3 cS bv kb y0 x0 h0 n0 _ T2.heap _
    exact ⟨rfl, N2, K3⟩
theorem own_ef_6p (m : MethodId) (x0 : Addr) (x1 : Addr) : entryFrame m #[(.ref x0), (.ref x1)] 5 = mkF m 0 #[rv x0, rv x1, .unset, .unset, .unset] [] := by first | (simp [entryFrame, mkF, argsToLocals, Value.category]; done) | rfl
def Q6p (Z : State) (u0 : Addr) (u1 : Addr) (w0 : Addr) (w1 : Addr) (w2 : Addr) (w3 : Addr) (cS : Int32) (bv : Addr) (kb : ClassId) (y0 : Int32) (y1 : Int32) (Ts : List String) (h0 : Heap) (n0 : Nat) (v : Option Value) (h : Heap) (L : List Loc) : Prop := v = some .null ∧ Fr n0 L ∧ Keep h0 h [u0]
set_option maxRecDepth 65536 in
set_option maxHeartbeats 40000000 in
theorem rm6p (l : Launch) (Z : State) (a0 : Array Value) (hw : ∀ d ∈ tables_1, d.before a0 Z = true) (ws : List Jvm.Cond) (u0 : Addr) (u1 : Addr) (w0 : Addr) (w1 : Addr) (w2 : Addr) (w3 : Addr) (cS : Int32) (bv : Addr) (kb : ClassId) (y0 : Int32) (y1 : Int32) (Ts : List String) (h0 : Heap) (n0 : Nat) (O0 : Old Z n0 h0) (S_NONE : Sta Z Z.heap "com/example/stackwright/stackwright/Holdings$FairValueLevel" "NONE" "Lcom/example/stackwright/stackwright/Holdings$FairValueLevel;" (.ref w0)) (S_LEVEL_1 : Sta Z Z.heap "com/example/stackwright/stackwright/Holdings$FairValueLevel" "LEVEL_1" "Lcom/example/stackwright/stackwright/Holdings$FairValueLevel;" (.ref w1)) (S_LEVEL_2 : Sta Z Z.heap "com/example/stackwright/stackwright/Holdings$FairValueLevel" "LEVEL_2" "Lcom/example/stackwright/stackwright/Holdings$FairValueLevel;" (.ref w2)) (S_LEVEL_3 : Sta Z Z.heap "com/example/stackwright/stackwright/Holdings$FairValueLevel" "LEVEL_3" "Lcom/example/stackwright/stackwright/Holdings$FairValueLevel;" (.ref w3)) (S_cs : Sta Z Z.heap "java/lang/String" "COMPACT_STRINGS" "Z" (.int cS)) (hcS : ¬ (cS = (0 : Int32))) (E_u0 : Exa Z h0 u0 "java/lang/String") (g_u0 : n0 ≤ u0) (F_value : Fld Z h0 u0 "java/lang/String" "value" "[B" (.ref bv)) (F_coder : Fld Z h0 u0 "java/lang/String" "coder" "B" (.int (0 : Int32))) (F_hash : Fld Z h0 u0 "java/lang/String" "hash" "I" (.int (0 : Int32))) (F_hashIsZero : Fld Z h0 u0 "java/lang/String" "hashIsZero" "Z" (.int (0 : Int32))) (Eb : Exa Z h0 bv "[B") (Vb : Arv Z h0 bv kb .byte (2 : Int32) [(.int y0), (.int y1)] (.int 0)) (hE : OwnEq l Z u0 u1 h0 n0 0) (held1 : Jvm.Lit.constHeld Z "com/example/stackwright/stackwright/Holdings$FairValueLevel" 45) (held2 : Jvm.Lit.constHeld Z "com/example/stackwright/stackwright/Holdings$FairValueLevel" 47) (held3 : Jvm.Lit.constHeld Z "com/example/stackwright/stackwright/Holdings$FairValueLevel" 49) (hcw : Jvm.Lit.compactW.before a0 Z = true) (hT1 : "1" ∉ Ts) (hT2 : "2" ∉ Ts) (hT3 : "3" ∉ Ts) :
    MetFree l (⟨"com/example/stackwright/stackwright/Holdings$FairValueLevel", "read", "(Ljava/lang/String;Ljava/lang/String;)Lcom/example/stackwright/stackwright/Holdings$FairValueLevel;"⟩ : MethodName) (head1 (Jvm.Cond.code (⟨"com/example/stackwright/stackwright/Holdings$FairValueLevel", "read", "(Ljava/lang/String;Ljava/lang/String;)Lcom/example/stackwright/stackwright/Holdings$FairValueLevel;"⟩ : MethodName) prog_11_method_4_code 5 (some (.object "com/example/stackwright/stackwright/Holdings$FairValueLevel")) :: ws) ({ frames := 4, cells := 2, slots := 8, locals := 80 } : Room)) (fun a U => a = #[(.ref u0), (.ref u1)] ∧ Z.Warmed39 U.vm ∧ U.heap = h0 ∧ OwnJ Z Ts [] U.vm) (fun _ _ _ _ _ => True) (fun _ U o U' => ∃ v L, o = .returned v ∧ Q6p Z u0 u1 w0 w1 w2 w3 cS bv kb y0 y1 Ts h0 n0 v U'.heap L ∧ ReturnedEndW U o U' L ({ frames := 4, cells := 2, slots := 8, locals := 80 } : Room).cells ({ frames := 4, cells := 2, slots := 8, locals := 80 } : Room).slots) := by
  refine MetFree.of_bodySF (plainFor_of_name own_pn_com_example_stackwright_stackwright_Holdings_FairValueLevel) hisR ?_
  intro p e s m args below meth c s₁ Bd hml0 hP hK
  obtain ⟨rfl, hZ, hh, hJ⟩ := hP
  have hx := Bd.exec
  have hby := Bd.bytes
  have hml : c.maxLocals = 5 := hml0
  have hown : s.vm.findClass "com/example/stackwright/stackwright/Holdings$FairValueLevel" = some m.cls := findClass_of_methodNamed Bd.named
  have hnm := (name_of_methodNamed Bd.named Bd.method).1
  have X0 : Stand p l e ({ frames := 4, cells := 2, slots := 8, locals := 80 } : Room) s m #[(.ref u0), (.ref u1)] below meth c s₁ [] 0 0 := Stand.of_body Bd
  have e0 : s₁.heap = h0 := by rw [← hh, Bd.state]; rfl
  have N0 := Fr.nil n0
  change Go p.tables e below _ _
  refine own_on (B := s₁.setTop (mkF m 0 #[rv u0, rv u1, un, un, un] [])) (fun tz kz => castTop (own_ef_6p m u0 u1) kz) ?_
  have own_strw : ∀ a ∈ Bundle.stringAtoms, a.before a0 Z = true := by
    intro d hd
    simp only [Bundle.stringAtoms, List.mem_cons, List.not_mem_nil, or_false] at hd
    rcases hd with rfl | rfl | rfl | rfl | rfl | rfl | rfl
    · exact (own_w hw 9 rfl)
    · exact (own_w hw 8 rfl)
    · exact (own_w hw 22 rfl)
    · exact (own_w hw 23 rfl)
    · exact (own_w hw 24 rfl)
    · exact (own_w hw 25 rfl)
    · exact (own_w hw 26 rfl)
  refine own_on (B := s₁.setTop (mkF m 2 #[rv u0, rv u1, un, un, un] [(.ref u1), (.ref u0)])) (fun tz kz => ?_) ?_
  · show sT p e below s₁ (mkF m 0 #[rv u0, rv u1, un, un, un] []) tz
    refine XS.aloadN X0.here hx rfl (hb hby own_d6_0) rfl rfl ?_
    show sT p e below s₁ (mkF m 1 #[rv u0, rv u1, un, un, un] [(.ref u0)]) tz
    refine XS.aloadN X0.here hx rfl (hb hby own_d6_1) rfl rfl ?_
    exact kz
  obtain ⟨cq1, kq1, q1a, q1b, q1c⟩ := isOf hZ e0 E_u0
  obtain ⟨_, _, ⟨T1, L1, k1, n1⟩, -, X1, ⟨Lc1, hQ1, l1, y1, z1⟩, st1⟩ := X0.virtualBack hx (y := (⟨"java/lang/String", "equals", "(Ljava/lang/Object;)Z"⟩ : MethodName)) (z := (⟨"java/lang/String", "equals", "(Ljava/lang/Object;)Z"⟩ : MethodName)) hown (mvT hZ (own_w hw 33 rfl)) (mvT hZ (own_w hw 34 rfl)) (notFace_of_selects (args := #[]) (mvT hZ (own_w hw 36 rfl))) (mvT hZ (own_w hw 36 rfl)) (mvT hZ (own_w hw 35 rfl)) (by decide) (backOf (W := 0) hE hZ (own_w hw 37 rfl) (own_w hw 9 rfl) (by decide) (by decide)) q1a q1c (g := (mkF m 2 #[rv u0, rv u1, un, un, un] [(.ref u1), (.ref u0)])) rfl (by rw [hml]; rfl) (Steps.refl _) (argsL := [(.ref u1)]) (rest := []) (lenOf own_pd10 rfl) rfl (by show 2 * 0 + _ ≤ _; exact Nat.le_of_eq rfl) (hb hby own_d6_2) (fun _ _ => ⟨rfl, e0, (by decide : 0 + 0 ≤ _), (by decide : 0 + 0 ≤ _)⟩)
  dsimp only [Pt.U, Pt.locs, Pt.cells, Pt.slots] at X1 l1 y1 z1 st1 hQ1
  subst l1 y1 z1
  obtain ⟨rfl, Nq1, e1⟩ := hQ1
  have N1 := Fr.app N0 Nq1
  refine own_on (B := T1.setTop (mkF m 5 #[rv u0, rv u1, un, un, un] [(.int 0)])) (fun tz kz => st1.trans kz) ?_
  have nb_u0 : bv ≠ u0 := Ne.symm (Exa.neArv E_u0 Vb (own_w hw 8 rfl))
  refine own_on (B := T1.setTop (mkF m 21 #[rv u0, rv u1, un, rv u0, iv (-1 : Int32)] [(.ref u0)])) (fun tz kz => ?_) ?_
  · show sT p e below T1 (mkF m 5 #[rv u0, rv u1, un, un, un] [(.int 0)]) tz
    refine XS.ifYes X1.here hx rfl (pc0 := 5) (pc' := 15) rfl (hb hby own_d6_5) rfl ((if0 _ _).trans (teq rfl).1) (by decide) (by decide) ?_
    show sT p e below T1 (mkF m 15 #[rv u0, rv u1, un, un, un] []) tz
    refine XS.aloadN X1.here hx rfl (hb hby own_d6_15) rfl rfl ?_
    show sT p e below T1 (mkF m 16 #[rv u0, rv u1, un, un, un] [(.ref u0)]) tz
    refine XS.astoreN X1.here hx rfl (hb hby own_d6_16) rfl rfl (l' := #[rv u0, rv u1, un, rv u0, un]) rfl ?_
    show sT p e below T1 (mkF m 17 #[rv u0, rv u1, un, rv u0, un] []) tz
    refine XS.iconst X1.here hx rfl (hb hby own_d6_17) ?_
    show sT p e below T1 (mkF m 18 #[rv u0, rv u1, un, rv u0, un] [(.int (-1 : Int32))]) tz
    refine XS.istore X1.here hx rfl (hb hby own_d6_18) rfl (l' := #[rv u0, rv u1, un, rv u0, iv (-1 : Int32)]) rfl ?_
    show sT p e below T1 (mkF m 20 #[rv u0, rv u1, un, rv u0, iv (-1 : Int32)] []) tz
    refine XS.aloadN X1.here hx rfl (hb hby own_d6_20) rfl rfl ?_
    exact kz
  obtain ⟨cq2, kq2, q2a, q2b, q2c⟩ := isOf hZ e1 E_u0
  obtain ⟨_, _, ⟨T2, L2, k2, n2⟩, -, X2, ⟨Lc2, hQ2, l2, y2, z2⟩, st2⟩ := X1.virtualBack hx (y := (⟨"java/lang/String", "hashCode", "()I"⟩ : MethodName)) (z := (⟨"java/lang/String", "hashCode", "()I"⟩ : MethodName)) hown (mvT hZ (own_w hw 57 rfl)) (mvT hZ (own_w hw 58 rfl)) (notFace_of_selects (args := #[]) (mvT hZ (own_w hw 60 rfl))) (mvT hZ (own_w hw 60 rfl)) (mvT hZ (own_w hw 59 rfl)) (by decide) (backOf (W := 0) (rm12b l Z a0 hw [] u0 cS bv kb y0 y1 h0 n0 O0 S_cs hcS E_u0 g_u0 F_value F_coder F_hash F_hashIsZero Eb Vb) hZ (own_w hw 61 rfl) (own_w hw 9 rfl) (by decide) (by decide)) q2a q2c (g := (mkF m 21 #[rv u0, rv u1, un, rv u0, iv (-1 : Int32)] [(.ref u0)])) rfl (by rw [hml]; rfl) (Steps.refl _) (argsL := []) (rest := []) (lenOf own_pd11 rfl) rfl (by show 2 * 0 + _ ≤ _; exact Nat.le_of_eq rfl) (hb hby own_d6_21) (fun _ _ => ⟨rfl, e1, (by decide : 0 + 0 ≤ _), (by decide : 0 + 0 ≤ _)⟩)
  dsimp only [Pt.U, Pt.locs, Pt.cells, Pt.slots] at X2 l2 y2 z2 st2 hQ2
  subst l2 y2 z2
  obtain ⟨rfl, Nq2, Kq2, Fv2, Fc2⟩ := hQ2
  have N2 := Fr.app N1 Nq2
  have O3 := O0.keep Kq2 (allS g_u0 all0)
  have K3 : Keep h0 T2.heap [u0] := (Keep.refl h0 [u0]).trans Kq2 (allS (Or.inl (List.mem_of_getElem? (i := 0) rfl)) all0)
  refine own_on (B := T2.setTop (mkF m 24 #[rv u0, rv u1, un, rv u0, iv (-1 : Int32)] [(.int (((31 : Int32) * ((0 : Int32) + (y0 &&& (255 : Int32)))) + (y1 &&& (255 : Int32))))])) (fun tz kz => st2.trans kz) ?_
  generalize hv_hv : (((31 : Int32) * ((0 : Int32) + (y0 &&& (255 : Int32)))) + (y1 &&& (255 : Int32))) = hv
  by_cases s1 : hv = (49 : Int32)
  · refine own_on (B := T2.setTop (mkF m 53 #[rv u0, rv u1, un, rv u0, iv (-1 : Int32)] [(.ref u0)])) (fun tz kz => ?_) ?_
    · show sT p e below T2 (mkF m 24 #[rv u0, rv u1, un, rv u0, iv (-1 : Int32)] [(.int hv)]) tz
      refine XS.tswIn X2.here hx rfl (pc0 := 24) (pc' := 52) (o := 28) rfl (hb hby own_d6_24) rfl (by rw [s1]; decide) (by rw [s1]; rfl) (by decide) (by decide) ?_
      show sT p e below T2 (mkF m 52 #[rv u0, rv u1, un, rv u0, iv (-1 : Int32)] []) tz
      refine XS.aloadN X2.here hx rfl (hb hby own_d6_52) rfl rfl ?_
      exact kz
    have hS4 : s.Since s.vm 0 := State.WarmedH.since (State.WarmedH.refl s) 0
    obtain ⟨a5, T5, h5, k5, b5, kb5, X5, e5, E5, hS5, hk5, hZ, hown, Ea5, Ca5, Va5, Wa5, lta5, ltb5, Ib5, Li5, st5⟩ := own_ldcT (show Stand p l e ({ frames := 4, cells := 2, slots := 8, locals := 80 } : Room) (s.setVm s.vm) m _ below meth c T2 _ _ _ from X2) hx hZ hown (own_w hw 87 rfl) own_strw rfl hS4 (Nat.zero_le _) O3.2.2 (Ts := Ts) (hJ).1 hT1 held1 hcw (vs := [(.int 49)]) (z := 1) ⟨by decide, rfl⟩ (by decide) rfl (g := (mkF m 53 #[rv u0, rv u1, un, rv u0, iv (-1 : Int32)] [(.ref u0)])) rfl (hb hby own_d6_53) (n := 4) (by decide) (by decide) (by decide) (by decide)
    have O6 := O3.ext E5
    have K6 : Keep h0 h5 [u0] := K3.ext E5
    have Jl5 := OwnJ.lit Ib5 Li5
    refine own_on (B := T5.setTop (mkF m 55 #[rv u0, rv u1, un, rv u0, iv (-1 : Int32)] [(.ref a5), (.ref u0)])) (fun tz kz => st5 _ kz) ?_
    have f_7 := ((Vb.keep Kq2 (ninS nb_u0 nin0)).ext E5)
    have nev : bv ≠ b5 := own_arvne f_7 Wa5 (by decide)
    have f_8 := (Fv2.ext E5)
    have neu : u0 ≠ a5 := (f_8).ne (Va5) (fun q => nev (Value.ref.inj q))
    have f_9 := ((E_u0.keep Kq2).ext E5)
    have f_10 := (Fc2.ext E5)
    obtain ⟨cq11, kq11, q11a, q11b, q11c⟩ := isOf hZ e5 f_9
    obtain ⟨_, _, ⟨T11, L11, k11, n11⟩, -, X11, ⟨Lc11, hQ11, l11, y11, z11⟩, st11⟩ := X5.virtualBack hx (y := (⟨"java/lang/String", "equals", "(Ljava/lang/Object;)Z"⟩ : MethodName)) (z := (⟨"java/lang/String", "equals", "(Ljava/lang/Object;)Z"⟩ : MethodName)) hown (mvT hZ (own_w hw 33 rfl)) (mvT hZ (own_w hw 34 rfl)) (notFace_of_selects (args := #[]) (mvT hZ (own_w hw 36 rfl))) (mvT hZ (own_w hw 36 rfl)) (mvT hZ (own_w hw 35 rfl)) (by decide) (backOf (W := 0) (rm7d l Z a0 hw [] u0 a5 cS bv b5 (2 : Int32) (1 : Int32) h5 n0 O6 S_cs hcS f_9 f_8 f_10 Ea5 Va5 Ca5 (OwnArz.of f_7) (OwnArz.of Wa5) (by decide) neu) hZ (own_w hw 37 rfl) (own_w hw 9 rfl) (by decide) (by decide)) q11a q11c (g := (mkF m 55 #[rv u0, rv u1, un, rv u0, iv (-1 : Int32)] [(.ref a5), (.ref u0)])) rfl (by rw [hml]; rfl) (Steps.refl _) (argsL := [(.ref a5)]) (rest := []) (lenOf own_pd10 rfl) rfl (by show 2 * 0 + _ ≤ _; exact Nat.le_of_eq rfl) (hb hby own_d6_55) (fun _ _ => ⟨rfl, e5, (by decide : 2 + 0 ≤ _), (by decide : 8 + 0 ≤ _)⟩)
    dsimp only [Pt.U, Pt.locs, Pt.cells, Pt.slots] at X11 l11 y11 z11 st11 hQ11
    subst l11 y11 z11
    obtain ⟨rfl, Nq11, e11⟩ := hQ11
    have N11 := Fr.app N2 Nq11
    refine own_on (B := T11.setTop (mkF m 58 #[rv u0, rv u1, un, rv u0, iv (-1 : Int32)] [(.int 0)])) (fun tz kz => st11.trans kz) ?_
    refine own_on (B := T11.setTop (mkF m 145 #[rv u0, rv u1, .val .null, rv u0, iv (-1 : Int32)] [.null])) (fun tz kz => ?_) ?_
    · show sT p e below T11 (mkF m 58 #[rv u0, rv u1, un, rv u0, iv (-1 : Int32)] [(.int 0)]) tz
      refine XS.ifYes X11.here hx rfl (pc0 := 58) (pc' := 94) rfl (hb hby own_d6_58) rfl ((if0 _ _).trans (teq rfl).1) (by decide) (by decide) ?_
      show sT p e below T11 (mkF m 94 #[rv u0, rv u1, un, rv u0, iv (-1 : Int32)] []) tz
      refine XS.iload X11.here hx rfl (hb hby own_d6_94) rfl ?_
      show sT p e below T11 (mkF m 96 #[rv u0, rv u1, un, rv u0, iv (-1 : Int32)] [(.int (-1 : Int32))]) tz
      refine XS.tswOut X11.here hx rfl (pc0 := 96) (pc' := 142) rfl (hb hby own_d6_96) rfl (by decide) (by decide) (by decide) ?_
      show sT p e below T11 (mkF m 142 #[rv u0, rv u1, un, rv u0, iv (-1 : Int32)] []) tz
      refine XS.aconstNull X11.here hx rfl (hb hby own_d6_142) ?_
      show sT p e below T11 (mkF m 143 #[rv u0, rv u1, un, rv u0, iv (-1 : Int32)] [.null]) tz
      refine XS.astoreN X11.here hx rfl (hb hby own_d6_143) rfl rfl (l' := #[rv u0, rv u1, .val .null, rv u0, iv (-1 : Int32)]) rfl ?_
      show sT p e below T11 (mkF m 144 #[rv u0, rv u1, .val .null, rv u0, iv (-1 : Int32)] []) tz
      refine XS.aloadN X11.here hx rfl (hb hby own_d6_144) rfl rfl ?_
      exact kz
    obtain ⟨fs, hr, hrun, hended, hRW⟩ := Jvm.Stand.leaveW X11 hS5 (by rw [e11]; exact hk5) (v := some .null) (fun h => by rw [Bd.returns] at h; cases h)
    refine own_of ⟨_, _, ?_, hrun, hended, _, _, rfl, ?_, hRW.1, hRW.2.1, hRW.2.2.1, hRW.2.2.2.mono (by decide) (by decide)⟩
    · show sT p e below T11 (mkF m 145 #[rv u0, rv u1, .val .null, rv u0, iv (-1 : Int32)] [.null]) _
      exact own_retV X11 hx Bd.returns rfl rfl (hb hby own_d6_145) hr
    · show Q6p Z u0 u1 w0 w1 w2 w3 cS bv kb y0 y1 Ts h0 n0 _ T11.heap _
      rw [e11]
      exact ⟨rfl, N11, K6⟩
  · by_cases s2 : hv = (50 : Int32)
    · refine own_on (B := T2.setTop (mkF m 68 #[rv u0, rv u1, un, rv u0, iv (-1 : Int32)] [(.ref u0)])) (fun tz kz => ?_) ?_
      · show sT p e below T2 (mkF m 24 #[rv u0, rv u1, un, rv u0, iv (-1 : Int32)] [(.int hv)]) tz
        refine XS.tswIn X2.here hx rfl (pc0 := 24) (pc' := 67) (o := 43) rfl (hb hby own_d6_24) rfl (by rw [s2]; decide) (by rw [s2]; rfl) (by decide) (by decide) ?_
        show sT p e below T2 (mkF m 67 #[rv u0, rv u1, un, rv u0, iv (-1 : Int32)] []) tz
        refine XS.aloadN X2.here hx rfl (hb hby own_d6_67) rfl rfl ?_
        exact kz
      have hS12 : s.Since s.vm 0 := State.WarmedH.since (State.WarmedH.refl s) 0
      obtain ⟨a13, T13, h13, k13, b13, kb13, X13, e13, E13, hS13, hk13, hZ, hown, Ea13, Ca13, Va13, Wa13, lta13, ltb13, Ib13, Li13, st13⟩ := own_ldcT (show Stand p l e ({ frames := 4, cells := 2, slots := 8, locals := 80 } : Room) (s.setVm s.vm) m _ below meth c T2 _ _ _ from X2) hx hZ hown (own_w hw 91 rfl) own_strw rfl hS12 (Nat.zero_le _) O3.2.2 (Ts := Ts) (hJ).1 hT2 held2 hcw (vs := [(.int 50)]) (z := 1) ⟨by decide, rfl⟩ (by decide) rfl (g := (mkF m 68 #[rv u0, rv u1, un, rv u0, iv (-1 : Int32)] [(.ref u0)])) rfl (hb hby own_d6_68) (n := 4) (by decide) (by decide) (by decide) (by decide)
      have O14 := O3.ext E13
      have K14 : Keep h0 h13 [u0] := K3.ext E13
      have Jl13 := OwnJ.lit Ib13 Li13
      refine own_on (B := T13.setTop (mkF m 70 #[rv u0, rv u1, un, rv u0, iv (-1 : Int32)] [(.ref a13), (.ref u0)])) (fun tz kz => st13 _ kz) ?_
      have f_15 := ((Vb.keep Kq2 (ninS nb_u0 nin0)).ext E13)
      have nev : bv ≠ b13 := own_arvne f_15 Wa13 (by decide)
      have f_16 := (Fv2.ext E13)
      have neu : u0 ≠ a13 := (f_16).ne (Va13) (fun q => nev (Value.ref.inj q))
      have f_17 := ((E_u0.keep Kq2).ext E13)
      have f_18 := (Fc2.ext E13)
      obtain ⟨cq19, kq19, q19a, q19b, q19c⟩ := isOf hZ e13 f_17
      obtain ⟨_, _, ⟨T19, L19, k19, n19⟩, -, X19, ⟨Lc19, hQ19, l19, y19, z19⟩, st19⟩ := X13.virtualBack hx (y := (⟨"java/lang/String", "equals", "(Ljava/lang/Object;)Z"⟩ : MethodName)) (z := (⟨"java/lang/String", "equals", "(Ljava/lang/Object;)Z"⟩ : MethodName)) hown (mvT hZ (own_w hw 33 rfl)) (mvT hZ (own_w hw 34 rfl)) (notFace_of_selects (args := #[]) (mvT hZ (own_w hw 36 rfl))) (mvT hZ (own_w hw 36 rfl)) (mvT hZ (own_w hw 35 rfl)) (by decide) (backOf (W := 0) (rm7d l Z a0 hw [] u0 a13 cS bv b13 (2 : Int32) (1 : Int32) h13 n0 O14 S_cs hcS f_17 f_16 f_18 Ea13 Va13 Ca13 (OwnArz.of f_15) (OwnArz.of Wa13) (by decide) neu) hZ (own_w hw 37 rfl) (own_w hw 9 rfl) (by decide) (by decide)) q19a q19c (g := (mkF m 70 #[rv u0, rv u1, un, rv u0, iv (-1 : Int32)] [(.ref a13), (.ref u0)])) rfl (by rw [hml]; rfl) (Steps.refl _) (argsL := [(.ref a13)]) (rest := []) (lenOf own_pd10 rfl) rfl (by show 2 * 0 + _ ≤ _; exact Nat.le_of_eq rfl) (hb hby own_d6_70) (fun _ _ => ⟨rfl, e13, (by decide : 2 + 0 ≤ _), (by decide : 8 + 0 ≤ _)⟩)
      dsimp only [Pt.U, Pt.locs, Pt.cells, Pt.slots] at X19 l19 y19 z19 st19 hQ19
      subst l19 y19 z19
      obtain ⟨rfl, Nq19, e19⟩ := hQ19
      have N19 := Fr.app N2 Nq19
      refine own_on (B := T19.setTop (mkF m 73 #[rv u0, rv u1, un, rv u0, iv (-1 : Int32)] [(.int 0)])) (fun tz kz => st19.trans kz) ?_
      refine own_on (B := T19.setTop (mkF m 145 #[rv u0, rv u1, .val .null, rv u0, iv (-1 : Int32)] [.null])) (fun tz kz => ?_) ?_
      · show sT p e below T19 (mkF m 73 #[rv u0, rv u1, un, rv u0, iv (-1 : Int32)] [(.int 0)]) tz
        refine XS.ifYes X19.here hx rfl (pc0 := 73) (pc' := 94) rfl (hb hby own_d6_73) rfl ((if0 _ _).trans (teq rfl).1) (by decide) (by decide) ?_
        show sT p e below T19 (mkF m 94 #[rv u0, rv u1, un, rv u0, iv (-1 : Int32)] []) tz
        refine XS.iload X19.here hx rfl (hb hby own_d6_94) rfl ?_
        show sT p e below T19 (mkF m 96 #[rv u0, rv u1, un, rv u0, iv (-1 : Int32)] [(.int (-1 : Int32))]) tz
        refine XS.tswOut X19.here hx rfl (pc0 := 96) (pc' := 142) rfl (hb hby own_d6_96) rfl (by decide) (by decide) (by decide) ?_
        show sT p e below T19 (mkF m 142 #[rv u0, rv u1, un, rv u0, iv (-1 : Int32)] []) tz
        refine XS.aconstNull X19.here hx rfl (hb hby own_d6_142) ?_
        show sT p e below T19 (mkF m 143 #[rv u0, rv u1, un, rv u0, iv (-1 : Int32)] [.null]) tz
        refine XS.astoreN X19.here hx rfl (hb hby own_d6_143) rfl rfl (l' := #[rv u0, rv u1, .val .null, rv u0, iv (-1 : Int32)]) rfl ?_
        show sT p e below T19 (mkF m 144 #[rv u0, rv u1, .val .null, rv u0, iv (-1 : Int32)] []) tz
        refine XS.aloadN X19.here hx rfl (hb hby own_d6_144) rfl rfl ?_
        exact kz
      obtain ⟨fs, hr, hrun, hended, hRW⟩ := Jvm.Stand.leaveW X19 hS13 (by rw [e19]; exact hk13) (v := some .null) (fun h => by rw [Bd.returns] at h; cases h)
      refine own_of ⟨_, _, ?_, hrun, hended, _, _, rfl, ?_, hRW.1, hRW.2.1, hRW.2.2.1, hRW.2.2.2.mono (by decide) (by decide)⟩
      · show sT p e below T19 (mkF m 145 #[rv u0, rv u1, .val .null, rv u0, iv (-1 : Int32)] [.null]) _
        exact own_retV X19 hx Bd.returns rfl rfl (hb hby own_d6_145) hr
      · show Q6p Z u0 u1 w0 w1 w2 w3 cS bv kb y0 y1 Ts h0 n0 _ T19.heap _
        rw [e19]
        exact ⟨rfl, N19, K14⟩
    · by_cases s3 : hv = (51 : Int32)
      · refine own_on (B := T2.setTop (mkF m 83 #[rv u0, rv u1, un, rv u0, iv (-1 : Int32)] [(.ref u0)])) (fun tz kz => ?_) ?_
        · show sT p e below T2 (mkF m 24 #[rv u0, rv u1, un, rv u0, iv (-1 : Int32)] [(.int hv)]) tz
          refine XS.tswIn X2.here hx rfl (pc0 := 24) (pc' := 82) (o := 58) rfl (hb hby own_d6_24) rfl (by rw [s3]; decide) (by rw [s3]; rfl) (by decide) (by decide) ?_
          show sT p e below T2 (mkF m 82 #[rv u0, rv u1, un, rv u0, iv (-1 : Int32)] []) tz
          refine XS.aloadN X2.here hx rfl (hb hby own_d6_82) rfl rfl ?_
          exact kz
        have hS20 : s.Since s.vm 0 := State.WarmedH.since (State.WarmedH.refl s) 0
        obtain ⟨a21, T21, h21, k21, b21, kb21, X21, e21, E21, hS21, hk21, hZ, hown, Ea21, Ca21, Va21, Wa21, lta21, ltb21, Ib21, Li21, st21⟩ := own_ldcT (show Stand p l e ({ frames := 4, cells := 2, slots := 8, locals := 80 } : Room) (s.setVm s.vm) m _ below meth c T2 _ _ _ from X2) hx hZ hown (own_w hw 83 rfl) own_strw rfl hS20 (Nat.zero_le _) O3.2.2 (Ts := Ts) (hJ).1 hT3 held3 hcw (vs := [(.int 51)]) (z := 1) ⟨by decide, rfl⟩ (by decide) rfl (g := (mkF m 83 #[rv u0, rv u1, un, rv u0, iv (-1 : Int32)] [(.ref u0)])) rfl (hb hby own_d6_83) (n := 4) (by decide) (by decide) (by decide) (by decide)
        have O22 := O3.ext E21
        have K22 : Keep h0 h21 [u0] := K3.ext E21
        have Jl21 := OwnJ.lit Ib21 Li21
        refine own_on (B := T21.setTop (mkF m 85 #[rv u0, rv u1, un, rv u0, iv (-1 : Int32)] [(.ref a21), (.ref u0)])) (fun tz kz => st21 _ kz) ?_
        have f_23 := ((Vb.keep Kq2 (ninS nb_u0 nin0)).ext E21)
        have nev : bv ≠ b21 := own_arvne f_23 Wa21 (by decide)
        have f_24 := (Fv2.ext E21)
        have neu : u0 ≠ a21 := (f_24).ne (Va21) (fun q => nev (Value.ref.inj q))
        have f_25 := ((E_u0.keep Kq2).ext E21)
        have f_26 := (Fc2.ext E21)
        obtain ⟨cq27, kq27, q27a, q27b, q27c⟩ := isOf hZ e21 f_25
        obtain ⟨_, _, ⟨T27, L27, k27, n27⟩, -, X27, ⟨Lc27, hQ27, l27, y27, z27⟩, st27⟩ := X21.virtualBack hx (y := (⟨"java/lang/String", "equals", "(Ljava/lang/Object;)Z"⟩ : MethodName)) (z := (⟨"java/lang/String", "equals", "(Ljava/lang/Object;)Z"⟩ : MethodName)) hown (mvT hZ (own_w hw 33 rfl)) (mvT hZ (own_w hw 34 rfl)) (notFace_of_selects (args := #[]) (mvT hZ (own_w hw 36 rfl))) (mvT hZ (own_w hw 36 rfl)) (mvT hZ (own_w hw 35 rfl)) (by decide) (backOf (W := 0) (rm7d l Z a0 hw [] u0 a21 cS bv b21 (2 : Int32) (1 : Int32) h21 n0 O22 S_cs hcS f_25 f_24 f_26 Ea21 Va21 Ca21 (OwnArz.of f_23) (OwnArz.of Wa21) (by decide) neu) hZ (own_w hw 37 rfl) (own_w hw 9 rfl) (by decide) (by decide)) q27a q27c (g := (mkF m 85 #[rv u0, rv u1, un, rv u0, iv (-1 : Int32)] [(.ref a21), (.ref u0)])) rfl (by rw [hml]; rfl) (Steps.refl _) (argsL := [(.ref a21)]) (rest := []) (lenOf own_pd10 rfl) rfl (by show 2 * 0 + _ ≤ _; exact Nat.le_of_eq rfl) (hb hby own_d6_85) (fun _ _ => ⟨rfl, e21, (by decide : 2 + 0 ≤ _), (by decide : 8 + 0 ≤ _)⟩)
        dsimp only [Pt.U, Pt.locs, Pt.cells, Pt.slots] at X27 l27 y27 z27 st27 hQ27
        subst l27 y27 z27
        obtain ⟨rfl, Nq27, e27⟩ := hQ27
        have N27 := Fr.app N2 Nq27
        refine own_on (B := T27.setTop (mkF m 88 #[rv u0, rv u1, un, rv u0, iv (-1 : Int32)] [(.int 0)])) (fun tz kz => st27.trans kz) ?_
        refine own_on (B := T27.setTop (mkF m 145 #[rv u0, rv u1, .val .null, rv u0, iv (-1 : Int32)] [.null])) (fun tz kz => ?_) ?_
        · show sT p e below T27 (mkF m 88 #[rv u0, rv u1, un, rv u0, iv (-1 : Int32)] [(.int 0)]) tz
          refine XS.ifYes X27.here hx rfl (pc0 := 88) (pc' := 94) rfl (hb hby own_d6_88) rfl ((if0 _ _).trans (teq rfl).1) (by decide) (by decide) ?_
          show sT p e below T27 (mkF m 94 #[rv u0, rv u1, un, rv u0, iv (-1 : Int32)] []) tz
          refine XS.iload X27.here hx rfl (hb hby own_d6_94) rfl ?_
          show sT p e below T27 (mkF m 96 #[rv u0, rv u1, un, rv u0, iv (-1 : Int32)] [(.int (-1 : Int32))]) tz
          refine XS.tswOut X27.here hx rfl (pc0 := 96) (pc' := 142) rfl (hb hby own_d6_96) rfl (by decide) (by decide) (by decide) ?_
          show sT p e below T27 (mkF m 142 #[rv u0, rv u1, un, rv u0, iv (-1 : Int32)] []) tz
          refine XS.aconstNull X27.here hx rfl (hb hby own_d6_142) ?_
          show sT p e below T27 (mkF m 143 #[rv u0, rv u1, un, rv u0, iv (-1 : Int32)] [.null]) tz
          refine XS.astoreN X27.here hx rfl (hb hby own_d6_143) rfl rfl (l' := #[rv u0, rv u1, .val .null, rv u0, iv (-1 : Int32)]) rfl ?_
          show sT p e below T27 (mkF m 144 #[rv u0, rv u1, .val .null, rv u0, iv (-1 : Int32)] []) tz
          refine XS.aloadN X27.here hx rfl (hb hby own_d6_144) rfl rfl ?_
          exact kz
        obtain ⟨fs, hr, hrun, hended, hRW⟩ := Jvm.Stand.leaveW X27 hS21 (by rw [e27]; exact hk21) (v := some .null) (fun h => by rw [Bd.returns] at h; cases h)
        refine own_of ⟨_, _, ?_, hrun, hended, _, _, rfl, ?_, hRW.1, hRW.2.1, hRW.2.2.1, hRW.2.2.2.mono (by decide) (by decide)⟩
        · show sT p e below T27 (mkF m 145 #[rv u0, rv u1, .val .null, rv u0, iv (-1 : Int32)] [.null]) _
          exact own_retV X27 hx Bd.returns rfl rfl (hb hby own_d6_145) hr
        · show Q6p Z u0 u1 w0 w1 w2 w3 cS bv kb y0 y1 Ts h0 n0 _ T27.heap _
          rw [e27]
          exact ⟨rfl, N27, K22⟩
      · refine own_on (B := T2.setTop (mkF m 145 #[rv u0, rv u1, .val .null, rv u0, iv (-1 : Int32)] [.null])) (fun tz kz => ?_) ?_
        · show sT p e below T2 (mkF m 24 #[rv u0, rv u1, un, rv u0, iv (-1 : Int32)] [(.int hv)]) tz
          refine XS.tswOut X2.here hx rfl (pc0 := 24) (pc' := 94) rfl (hb hby own_d6_24) rfl (own_out hv s1 s2 s3) (by decide) (by decide) ?_
          show sT p e below T2 (mkF m 94 #[rv u0, rv u1, un, rv u0, iv (-1 : Int32)] []) tz
          refine XS.iload X2.here hx rfl (hb hby own_d6_94) rfl ?_
          show sT p e below T2 (mkF m 96 #[rv u0, rv u1, un, rv u0, iv (-1 : Int32)] [(.int (-1 : Int32))]) tz
          refine XS.tswOut X2.here hx rfl (pc0 := 96) (pc' := 142) rfl (hb hby own_d6_96) rfl (by decide) (by decide) (by decide) ?_
          show sT p e below T2 (mkF m 142 #[rv u0, rv u1, un, rv u0, iv (-1 : Int32)] []) tz
          refine XS.aconstNull X2.here hx rfl (hb hby own_d6_142) ?_
          show sT p e below T2 (mkF m 143 #[rv u0, rv u1, un, rv u0, iv (-1 : Int32)] [.null]) tz
          refine XS.astoreN X2.here hx rfl (hb hby own_d6_143) rfl rfl (l' := #[rv u0, rv u1, .val .null, rv u0, iv (-1 : Int32)]) rfl ?_
          show sT p e below T2 (mkF m 144 #[rv u0, rv u1, .val .null, rv u0, iv (-1 : Int32)] []) tz
          refine XS.aloadN X2.here hx rfl (hb hby own_d6_144) rfl rfl ?_
          exact kz
        obtain ⟨fs, hr, hrun, hended, hW, hsame⟩ := X2.leave (v := some .null) (fun h => by rw [Bd.returns] at h; cases h)
        refine own_of ⟨_, _, ?_, hrun, hended, _, _, rfl, ?_, ReturnedEndW.of_narrow ⟨_, rfl⟩ hW (hsame.mono (by decide) (by decide))⟩
        · show sT p e below T2 (mkF m 145 #[rv u0, rv u1, .val .null, rv u0, iv (-1 : Int32)] [.null]) _
          exact own_retV X2 hx Bd.returns rfl rfl (hb hby own_d6_145) hr
        · show Q6p Z u0 u1 w0 w1 w2 w3 cS bv kb y0 y1 Ts h0 n0 _ T2.heap _
          exact ⟨rfl, N2, K3⟩
theorem own_idx (x k : Int32) (h : (x &&& (3 : Int32)) % (3 : Int32) = k) : k = 0 ∨ k = 1 ∨ k = 2 := by
  have e := c_mask x 3 2 (by decide) (by decide)
  have e2 := (c_irem (x &&& 3) 3 3 (by decide)).1 (by omega)
  rw [h] at e2
  have z : (0 : Int32).toInt = 0 := rfl
  have z1 : (1 : Int32).toInt = 1 := rfl
  have z2 : (2 : Int32).toInt = 2 := rfl
  simp only [← Int32.toInt_inj]; omega
theorem own_byi {x y : Int32} (h0 : ¬ x < 0) (h1 : ¬ (255 : Int32) < x) (h2 : ¬ y < 0) (h3 : ¬ (255 : Int32) < y) (h : ¬ x = y) : ¬ (nar .byte (x.toInt8.toInt32) = nar .byte (y.toInt8.toInt32)) := fun q => h (by rw [← own_by x h0 h1, ← own_by y h2 h3, q])
theorem own_ef_0 (m : MethodId) (x0 : Int32) (x1 : Int32) (x2 : Int32) : entryFrame m #[(.int x0), (.int x1), (.int x2)] maxLocals = mkF m 0 #[iv x0, iv x1, iv x2, .unset, .unset, .unset, .unset, .unset, .unset, .unset, .unset, .unset, .unset, .unset, .unset] [] := by first | (simp [entryFrame, mkF, argsToLocals, Value.category, maxLocals]; done) | rfl
def Q0 (Z : State) (p0 : Int32) (p1 : Int32) (p2 : Int32) (w0 : Addr) (w1 : Addr) (w2 : Addr) (w3 : Addr) (cS : Int32) (h0 : Heap) (n0 : Nat) (v : Option Value) (h : Heap) (L : List Loc) : Prop := v = some (.int 1) ∧ Fr n0 L
theorem own_pd12 : parseMethodDescriptor "(I)C" = some ⟨[.int], some .char⟩ := by decide +kernel
theorem own_pd13 : parseMethodDescriptor "(ICC)Ljava/lang/String;" = some ⟨[.int, .char, .char], some (.object "java/lang/String")⟩ := by decide +kernel
theorem own_pd14 : parseMethodDescriptor "(Ljava/lang/String;Ljava/lang/String;)Lcom/example/stackwright/stackwright/Holdings$FairValueLevel;" = some ⟨[(.object "java/lang/String"), (.object "java/lang/String")], some (.object "com/example/stackwright/stackwright/Holdings$FairValueLevel")⟩ := by decide +kernel
set_option maxRecDepth 65536 in
set_option maxHeartbeats 40000000 in
theorem rm0 (l : Launch) (Z : State) (a0 : Array Value) (hw : ∀ d ∈ tables_1, d.before a0 Z = true) (ws : List Jvm.Cond) (p0 : Int32) (p1 : Int32) (p2 : Int32) (w0 : Addr) (w1 : Addr) (w2 : Addr) (w3 : Addr) (cS : Int32) (h0 : Heap) (n0 : Nat) (O0 : Old Z n0 h0) (S_NONE : Sta Z Z.heap "com/example/stackwright/stackwright/Holdings$FairValueLevel" "NONE" "Lcom/example/stackwright/stackwright/Holdings$FairValueLevel;" (.ref w0)) (S_LEVEL_1 : Sta Z Z.heap "com/example/stackwright/stackwright/Holdings$FairValueLevel" "LEVEL_1" "Lcom/example/stackwright/stackwright/Holdings$FairValueLevel;" (.ref w1)) (S_LEVEL_2 : Sta Z Z.heap "com/example/stackwright/stackwright/Holdings$FairValueLevel" "LEVEL_2" "Lcom/example/stackwright/stackwright/Holdings$FairValueLevel;" (.ref w2)) (S_LEVEL_3 : Sta Z Z.heap "com/example/stackwright/stackwright/Holdings$FairValueLevel" "LEVEL_3" "Lcom/example/stackwright/stackwright/Holdings$FairValueLevel;" (.ref w3)) (S_cs : Sta Z Z.heap "java/lang/String" "COMPACT_STRINGS" "Z" (.int cS)) (hcS : ¬ (cS = (0 : Int32))) (hheld : Jvm.Lit.constHeld Z "java/lang/String" 7) (hcw : Jvm.Lit.compactW.before a0 Z = true) (held1 : Jvm.Lit.constHeld Z "com/example/stackwright/stackwright/Holdings$FairValueLevel" 45) (held2 : Jvm.Lit.constHeld Z "com/example/stackwright/stackwright/Holdings$FairValueLevel" 47) (held3 : Jvm.Lit.constHeld Z "com/example/stackwright/stackwright/Holdings$FairValueLevel" 49) :
    MetFree l x (head1 (Jvm.Cond.code x code maxLocals ret :: ws) room_1) (fun a U => a = #[(.int p0), (.int p1), (.int p2)] ∧ Z.Warmed39 U.vm ∧ U.heap = h0 ∧ OwnJ Z [] [] U.vm) (fun _ _ _ _ _ => True) (fun _ U o U' => ∃ v L, o = .returned v ∧ Q0 Z p0 p1 p2 w0 w1 w2 w3 cS h0 n0 v U'.heap L ∧ ReturnedEndW U o U' L room_1.cells room_1.slots) := by
  refine MetFree.of_bodySF (plainFor_of_name own_pn_com_example_stackwright_stackwright_FairValueLevelReadPinLaw) hisR ?_
  intro p e s m args below meth c s₁ Bd hml0 hP hK
  obtain ⟨rfl, hZ, hh, hJ⟩ := hP
  have hx := Bd.exec
  have hby := Bd.bytes
  have hml : c.maxLocals = 15 := hml0
  have hown : s.vm.findClass "com/example/stackwright/stackwright/FairValueLevelReadPinLaw" = some m.cls := findClass_of_methodNamed Bd.named
  have hnm := (name_of_methodNamed Bd.named Bd.method).1
  have X0 : Stand p l e room_1 s m #[(.int p0), (.int p1), (.int p2)] below meth c s₁ [] 0 0 := Stand.of_body Bd
  have e0 : s₁.heap = h0 := by rw [← hh, Bd.state]; rfl
  have N0 := Fr.nil n0
  change Go p.tables e below _ _
  refine own_on (B := s₁.setTop (mkF m 0 #[iv p0, iv p1, iv p2, un, un, un, un, un, un, un, un, un, un, un, un] [])) (fun tz kz => castTop (own_ef_0 m p0 p1 p2) kz) ?_
  refine own_on (B := s₁.setTop (mkF m 6 #[iv p0, iv p1, iv p2, iv ((p0 &&& (3 : Int32)) % (3 : Int32)), un, un, un, un, un, un, un, un, un, un, un] [])) (fun tz kz => ?_) ?_
  · show sT p e below s₁ (mkF m 0 #[iv p0, iv p1, iv p2, un, un, un, un, un, un, un, un, un, un, un, un] []) tz
    refine XS.iloadN X0.here hx rfl (hb hby at_0) rfl ?_
    show sT p e below s₁ (mkF m 1 #[iv p0, iv p1, iv p2, un, un, un, un, un, un, un, un, un, un, un, un] [(.int p0)]) tz
    refine XS.iconst X0.here hx rfl (hb hby at_1) ?_
    show sT p e below s₁ (mkF m 2 #[iv p0, iv p1, iv p2, un, un, un, un, un, un, un, un, un, un, un, un] [(.int 3), (.int p0)]) tz
    refine XS.iand X0.here hx rfl (hb hby at_2) rfl ?_
    show sT p e below s₁ (mkF m 3 #[iv p0, iv p1, iv p2, un, un, un, un, un, un, un, un, un, un, un, un] [(.int (p0 &&& (3 : Int32)))]) tz
    refine XS.iconst X0.here hx rfl (hb hby at_3) ?_
    show sT p e below s₁ (mkF m 4 #[iv p0, iv p1, iv p2, un, un, un, un, un, un, un, un, un, un, un, un] [(.int 3), (.int (p0 &&& (3 : Int32)))]) tz
    refine iremM (g := (mkF m 4 #[iv p0, iv p1, iv p2, un, un, un, un, un, un, un, un, un, un, un, un] [(.int 3), (.int (p0 &&& (3 : Int32)))])) X0 hx rfl (hb hby at_4) rfl (by decide) ?_
    show sT p e below s₁ (mkF m 5 #[iv p0, iv p1, iv p2, un, un, un, un, un, un, un, un, un, un, un, un] [(.int ((p0 &&& (3 : Int32)) % (3 : Int32)))]) tz
    refine XS.istoreN X0.here hx rfl (hb hby at_5) rfl (l' := #[iv p0, iv p1, iv p2, iv ((p0 &&& (3 : Int32)) % (3 : Int32)), un, un, un, un, un, un, un, un, un, un, un]) rfl ?_
    exact kz
  generalize hv_tl : ((p0 &&& (3 : Int32)) % (3 : Int32)) = tl
  have htl := own_idx _ _ hv_tl
  clear hv_tl
  refine own_on (B := s₁.setTop (mkF m 9 #[iv p0, iv p1, iv p2, iv tl, un, un, un, un, un, un, un, un, un, un, un] [(.int ((p0.toUInt32 >>> ((2 : Int32) &&& 31).toUInt32).toInt32))])) (fun tz kz => ?_) ?_
  · show sT p e below s₁ (mkF m 6 #[iv p0, iv p1, iv p2, iv tl, un, un, un, un, un, un, un, un, un, un, un] []) tz
    refine XS.iloadN X0.here hx rfl (hb hby at_6) rfl ?_
    show sT p e below s₁ (mkF m 7 #[iv p0, iv p1, iv p2, iv tl, un, un, un, un, un, un, un, un, un, un, un] [(.int p0)]) tz
    refine XS.iconst X0.here hx rfl (hb hby at_7) ?_
    show sT p e below s₁ (mkF m 8 #[iv p0, iv p1, iv p2, iv tl, un, un, un, un, un, un, un, un, un, un, un] [(.int 2), (.int p0)]) tz
    refine XS.iushr X0.here hx rfl (hb hby at_8) rfl ?_
    exact kz
  obtain ⟨_, _, ⟨T1, L1, k1, n1⟩, -, X1, ⟨Lc1, hQ1, l1, y1, z1⟩, st1⟩ := Jvm.LawKit.callS X0 hx (y := (⟨"com/example/stackwright/stackwright/FairValueLevelReadPinLaw", "pick", "(I)C"⟩ : MethodName)) hown (mvT hZ (own_w hw 0 rfl)) (mvT hZ (own_w hw 1 rfl)) (mvT hZ (own_w hw 2 rfl)) (mvT hZ (own_w hw 3 rfl)) (by decide) (backOf (W := 0) (rm1 l Z a0 hw [] ((p0.toUInt32 >>> ((2 : Int32) &&& 31).toUInt32).toInt32)  h0 n0 O0 ) hZ (own_w hw 3 rfl) (own_w hw 2 rfl) (by decide) (by decide)) (g := (mkF m 9 #[iv p0, iv p1, iv p2, iv tl, un, un, un, un, un, un, un, un, un, un, un] [(.int ((p0.toUInt32 >>> ((2 : Int32) &&& 31).toUInt32).toInt32))])) rfl (by rw [hml]; rfl) (argsL := [(.int ((p0.toUInt32 >>> ((2 : Int32) &&& 31).toUInt32).toInt32))]) (rest := []) (lenOf own_pd12 rfl) rfl (by show 2 * 0 + _ ≤ _; exact Nat.le_of_eq rfl) (hb hby at_9) (fun _ _ => ⟨rfl, e0, (by decide : 0 + 0 ≤ _), (by decide : 0 + 0 ≤ _)⟩)
  dsimp only [Pt.U, Pt.locs, Pt.cells, Pt.slots] at X1 l1 y1 z1 st1 hQ1
  subst l1 y1 z1
  obtain ⟨r1, rfl, lo1, hi1, Nq1, eq1⟩ := hQ1
  have N1 := Fr.app N0 Nq1
  refine own_on (B := T1.setTop (mkF m 12 #[iv p0, iv p1, iv p2, iv tl, un, un, un, un, un, un, un, un, un, un, un] [(.int r1)])) (fun tz kz => st1 _ kz) ?_
  refine own_on (B := T1.setTop (mkF m 18 #[iv p0, iv p1, iv p2, iv tl, iv r1, un, un, un, un, un, un, un, un, un, un] [(.int ((p0.toUInt32 >>> ((11 : Int32) &&& 31).toUInt32).toInt32))])) (fun tz kz => ?_) ?_
  · show sT p e below T1 (mkF m 12 #[iv p0, iv p1, iv p2, iv tl, un, un, un, un, un, un, un, un, un, un, un] [(.int r1)]) tz
    refine XS.istore X1.here hx rfl (hb hby at_12) rfl (l' := #[iv p0, iv p1, iv p2, iv tl, iv r1, un, un, un, un, un, un, un, un, un, un]) rfl ?_
    show sT p e below T1 (mkF m 14 #[iv p0, iv p1, iv p2, iv tl, iv r1, un, un, un, un, un, un, un, un, un, un] []) tz
    refine XS.iloadN X1.here hx rfl (hb hby at_14) rfl ?_
    show sT p e below T1 (mkF m 15 #[iv p0, iv p1, iv p2, iv tl, iv r1, un, un, un, un, un, un, un, un, un, un] [(.int p0)]) tz
    refine XS.bipush X1.here hx rfl (hb hby at_15) ?_
    show sT p e below T1 (mkF m 17 #[iv p0, iv p1, iv p2, iv tl, iv r1, un, un, un, un, un, un, un, un, un, un] [(.int 11), (.int p0)]) tz
    refine XS.iushr X1.here hx rfl (hb hby at_17) rfl ?_
    exact kz
  obtain ⟨_, _, ⟨T2, L2, k2, n2⟩, -, X2, ⟨Lc2, hQ2, l2, y2, z2⟩, st2⟩ := Jvm.LawKit.callS X1 hx (y := (⟨"com/example/stackwright/stackwright/FairValueLevelReadPinLaw", "pick", "(I)C"⟩ : MethodName)) hown (mvT hZ (own_w hw 0 rfl)) (mvT hZ (own_w hw 1 rfl)) (mvT hZ (own_w hw 2 rfl)) (mvT hZ (own_w hw 3 rfl)) (by decide) (backOf (W := 0) (rm1 l Z a0 hw [] ((p0.toUInt32 >>> ((11 : Int32) &&& 31).toUInt32).toInt32)  h0 n0 O0 ) hZ (own_w hw 3 rfl) (own_w hw 2 rfl) (by decide) (by decide)) (g := (mkF m 18 #[iv p0, iv p1, iv p2, iv tl, iv r1, un, un, un, un, un, un, un, un, un, un] [(.int ((p0.toUInt32 >>> ((11 : Int32) &&& 31).toUInt32).toInt32))])) rfl (by rw [hml]; rfl) (argsL := [(.int ((p0.toUInt32 >>> ((11 : Int32) &&& 31).toUInt32).toInt32))]) (rest := []) (lenOf own_pd12 rfl) rfl (by show 2 * 0 + _ ≤ _; exact Nat.le_of_eq rfl) (hb hby at_18) (fun _ _ => ⟨rfl, eq1, (by decide : 0 + 0 ≤ _), (by decide : 0 + 0 ≤ _)⟩)
  dsimp only [Pt.U, Pt.locs, Pt.cells, Pt.slots] at X2 l2 y2 z2 st2 hQ2
  subst l2 y2 z2
  obtain ⟨r2, rfl, lo2, hi2, Nq2, eq2⟩ := hQ2
  have N2 := Fr.app N1 Nq2
  refine own_on (B := T2.setTop (mkF m 21 #[iv p0, iv p1, iv p2, iv tl, iv r1, un, un, un, un, un, un, un, un, un, un] [(.int r2)])) (fun tz kz => st2 _ kz) ?_
  refine own_on (B := T2.setTop (mkF m 26 #[iv p0, iv p1, iv p2, iv tl, iv r1, iv r2, un, un, un, un, un, un, un, un, un] [(.int (p2 &&& (1 : Int32)))])) (fun tz kz => ?_) ?_
  · show sT p e below T2 (mkF m 21 #[iv p0, iv p1, iv p2, iv tl, iv r1, un, un, un, un, un, un, un, un, un, un] [(.int r2)]) tz
    refine XS.istore X2.here hx rfl (hb hby at_21) rfl (l' := #[iv p0, iv p1, iv p2, iv tl, iv r1, iv r2, un, un, un, un, un, un, un, un, un]) rfl ?_
    show sT p e below T2 (mkF m 23 #[iv p0, iv p1, iv p2, iv tl, iv r1, iv r2, un, un, un, un, un, un, un, un, un] []) tz
    refine XS.iloadN X2.here hx rfl (hb hby at_23) rfl ?_
    show sT p e below T2 (mkF m 24 #[iv p0, iv p1, iv p2, iv tl, iv r1, iv r2, un, un, un, un, un, un, un, un, un] [(.int p2)]) tz
    refine XS.iconst X2.here hx rfl (hb hby at_24) ?_
    show sT p e below T2 (mkF m 25 #[iv p0, iv p1, iv p2, iv tl, iv r1, iv r2, un, un, un, un, un, un, un, un, un] [(.int 1), (.int p2)]) tz
    refine XS.iand X2.here hx rfl (hb hby at_25) rfl ?_
    exact kz
  by_cases hsm : (p2 &&& (1 : Int32)) = (0 : Int32)
  · refine own_on (B := T2.setTop (mkF m 52 #[iv p0, iv p1, iv p2, iv tl, iv r1, iv r2, iv 0, iv ((p1 &&& (3 : Int32)) % (3 : Int32)), un, un, un, un, un, un, un] [])) (fun tz kz => ?_) ?_
    · show sT p e below T2 (mkF m 26 #[iv p0, iv p1, iv p2, iv tl, iv r1, iv r2, un, un, un, un, un, un, un, un, un] [(.int (p2 &&& (1 : Int32)))]) tz
      refine XS.ifYes X2.here hx rfl (pc0 := 26) (pc' := 33) rfl (hb hby at_26) rfl ((if0 _ _).trans (teq hsm).1) (by decide) (by decide) ?_
      show sT p e below T2 (mkF m 33 #[iv p0, iv p1, iv p2, iv tl, iv r1, iv r2, un, un, un, un, un, un, un, un, un] []) tz
      refine XS.iconst X2.here hx rfl (hb hby at_33) ?_
      show sT p e below T2 (mkF m 34 #[iv p0, iv p1, iv p2, iv tl, iv r1, iv r2, un, un, un, un, un, un, un, un, un] [(.int 0)]) tz
      refine XS.istore X2.here hx rfl (hb hby at_34) rfl (l' := #[iv p0, iv p1, iv p2, iv tl, iv r1, iv r2, iv 0, un, un, un, un, un, un, un, un]) rfl ?_
      show sT p e below T2 (mkF m 36 #[iv p0, iv p1, iv p2, iv tl, iv r1, iv r2, iv 0, un, un, un, un, un, un, un, un] []) tz
      refine XS.iload X2.here hx rfl (hb hby at_36) rfl ?_
      show sT p e below T2 (mkF m 38 #[iv p0, iv p1, iv p2, iv tl, iv r1, iv r2, iv 0, un, un, un, un, un, un, un, un] [(.int 0)]) tz
      refine XS.ifYes X2.here hx rfl (pc0 := 38) (pc' := 45) rfl (hb hby at_38) rfl ((if0 _ _).trans (teq rfl).1) (by decide) (by decide) ?_
      show sT p e below T2 (mkF m 45 #[iv p0, iv p1, iv p2, iv tl, iv r1, iv r2, iv 0, un, un, un, un, un, un, un, un] []) tz
      refine XS.iloadN X2.here hx rfl (hb hby at_45) rfl ?_
      show sT p e below T2 (mkF m 46 #[iv p0, iv p1, iv p2, iv tl, iv r1, iv r2, iv 0, un, un, un, un, un, un, un, un] [(.int p1)]) tz
      refine XS.iconst X2.here hx rfl (hb hby at_46) ?_
      show sT p e below T2 (mkF m 47 #[iv p0, iv p1, iv p2, iv tl, iv r1, iv r2, iv 0, un, un, un, un, un, un, un, un] [(.int 3), (.int p1)]) tz
      refine XS.iand X2.here hx rfl (hb hby at_47) rfl ?_
      show sT p e below T2 (mkF m 48 #[iv p0, iv p1, iv p2, iv tl, iv r1, iv r2, iv 0, un, un, un, un, un, un, un, un] [(.int (p1 &&& (3 : Int32)))]) tz
      refine XS.iconst X2.here hx rfl (hb hby at_48) ?_
      show sT p e below T2 (mkF m 49 #[iv p0, iv p1, iv p2, iv tl, iv r1, iv r2, iv 0, un, un, un, un, un, un, un, un] [(.int 3), (.int (p1 &&& (3 : Int32)))]) tz
      refine iremM (g := (mkF m 49 #[iv p0, iv p1, iv p2, iv tl, iv r1, iv r2, iv 0, un, un, un, un, un, un, un, un] [(.int 3), (.int (p1 &&& (3 : Int32)))])) X2 hx rfl (hb hby at_49) rfl (by decide) ?_
      show sT p e below T2 (mkF m 50 #[iv p0, iv p1, iv p2, iv tl, iv r1, iv r2, iv 0, un, un, un, un, un, un, un, un] [(.int ((p1 &&& (3 : Int32)) % (3 : Int32)))]) tz
      refine XS.istore X2.here hx rfl (hb hby at_50) rfl (l' := #[iv p0, iv p1, iv p2, iv tl, iv r1, iv r2, iv 0, iv ((p1 &&& (3 : Int32)) % (3 : Int32)), un, un, un, un, un, un, un]) rfl ?_
      exact kz
    generalize hv_nl : ((p1 &&& (3 : Int32)) % (3 : Int32)) = nl
    have hnl := own_idx _ _ hv_nl
    clear hv_nl
    refine own_on (B := T2.setTop (mkF m 65 #[iv p0, iv p1, iv p2, iv tl, iv r1, iv r2, iv 0, iv nl, un, un, un, un, un, un, un] [(.int ((p1.toUInt32 >>> ((2 : Int32) &&& 31).toUInt32).toInt32))])) (fun tz kz => ?_) ?_
    · show sT p e below T2 (mkF m 52 #[iv p0, iv p1, iv p2, iv tl, iv r1, iv r2, iv 0, iv nl, un, un, un, un, un, un, un] []) tz
      refine XS.iload X2.here hx rfl (hb hby at_52) rfl ?_
      show sT p e below T2 (mkF m 54 #[iv p0, iv p1, iv p2, iv tl, iv r1, iv r2, iv 0, iv nl, un, un, un, un, un, un, un] [(.int 0)]) tz
      refine XS.ifYes X2.here hx rfl (pc0 := 54) (pc' := 62) rfl (hb hby at_54) rfl ((if0 _ _).trans (teq rfl).1) (by decide) (by decide) ?_
      show sT p e below T2 (mkF m 62 #[iv p0, iv p1, iv p2, iv tl, iv r1, iv r2, iv 0, iv nl, un, un, un, un, un, un, un] []) tz
      refine XS.iloadN X2.here hx rfl (hb hby at_62) rfl ?_
      show sT p e below T2 (mkF m 63 #[iv p0, iv p1, iv p2, iv tl, iv r1, iv r2, iv 0, iv nl, un, un, un, un, un, un, un] [(.int p1)]) tz
      refine XS.iconst X2.here hx rfl (hb hby at_63) ?_
      show sT p e below T2 (mkF m 64 #[iv p0, iv p1, iv p2, iv tl, iv r1, iv r2, iv 0, iv nl, un, un, un, un, un, un, un] [(.int 2), (.int p1)]) tz
      refine XS.iushr X2.here hx rfl (hb hby at_64) rfl ?_
      exact kz
    obtain ⟨_, _, ⟨T3, L3, k3, n3⟩, -, X3, ⟨Lc3, hQ3, l3, y3, z3⟩, st3⟩ := Jvm.LawKit.callS X2 hx (y := (⟨"com/example/stackwright/stackwright/FairValueLevelReadPinLaw", "pick", "(I)C"⟩ : MethodName)) hown (mvT hZ (own_w hw 0 rfl)) (mvT hZ (own_w hw 1 rfl)) (mvT hZ (own_w hw 2 rfl)) (mvT hZ (own_w hw 3 rfl)) (by decide) (backOf (W := 0) (rm1 l Z a0 hw [] ((p1.toUInt32 >>> ((2 : Int32) &&& 31).toUInt32).toInt32)  h0 n0 O0 ) hZ (own_w hw 3 rfl) (own_w hw 2 rfl) (by decide) (by decide)) (g := (mkF m 65 #[iv p0, iv p1, iv p2, iv tl, iv r1, iv r2, iv 0, iv nl, un, un, un, un, un, un, un] [(.int ((p1.toUInt32 >>> ((2 : Int32) &&& 31).toUInt32).toInt32))])) rfl (by rw [hml]; rfl) (argsL := [(.int ((p1.toUInt32 >>> ((2 : Int32) &&& 31).toUInt32).toInt32))]) (rest := []) (lenOf own_pd12 rfl) rfl (by show 2 * 0 + _ ≤ _; exact Nat.le_of_eq rfl) (hb hby at_65) (fun _ _ => ⟨rfl, eq2, (by decide : 0 + 0 ≤ _), (by decide : 0 + 0 ≤ _)⟩)
    dsimp only [Pt.U, Pt.locs, Pt.cells, Pt.slots] at X3 l3 y3 z3 st3 hQ3
    subst l3 y3 z3
    obtain ⟨r3, rfl, lo3, hi3, Nq3, eq3⟩ := hQ3
    have N3 := Fr.app N2 Nq3
    refine own_on (B := T3.setTop (mkF m 68 #[iv p0, iv p1, iv p2, iv tl, iv r1, iv r2, iv 0, iv nl, un, un, un, un, un, un, un] [(.int r3)])) (fun tz kz => st3 _ kz) ?_
    refine own_on (B := T3.setTop (mkF m 84 #[iv p0, iv p1, iv p2, iv tl, iv r1, iv r2, iv 0, iv nl, iv r3, un, un, un, un, un, un] [(.int ((p1.toUInt32 >>> ((11 : Int32) &&& 31).toUInt32).toInt32))])) (fun tz kz => ?_) ?_
    · show sT p e below T3 (mkF m 68 #[iv p0, iv p1, iv p2, iv tl, iv r1, iv r2, iv 0, iv nl, un, un, un, un, un, un, un] [(.int r3)]) tz
      refine XS.istore X3.here hx rfl (hb hby at_68) rfl (l' := #[iv p0, iv p1, iv p2, iv tl, iv r1, iv r2, iv 0, iv nl, iv r3, un, un, un, un, un, un]) rfl ?_
      show sT p e below T3 (mkF m 70 #[iv p0, iv p1, iv p2, iv tl, iv r1, iv r2, iv 0, iv nl, iv r3, un, un, un, un, un, un] []) tz
      refine XS.iload X3.here hx rfl (hb hby at_70) rfl ?_
      show sT p e below T3 (mkF m 72 #[iv p0, iv p1, iv p2, iv tl, iv r1, iv r2, iv 0, iv nl, iv r3, un, un, un, un, un, un] [(.int 0)]) tz
      refine XS.ifYes X3.here hx rfl (pc0 := 72) (pc' := 80) rfl (hb hby at_72) rfl ((if0 _ _).trans (teq rfl).1) (by decide) (by decide) ?_
      show sT p e below T3 (mkF m 80 #[iv p0, iv p1, iv p2, iv tl, iv r1, iv r2, iv 0, iv nl, iv r3, un, un, un, un, un, un] []) tz
      refine XS.iloadN X3.here hx rfl (hb hby at_80) rfl ?_
      show sT p e below T3 (mkF m 81 #[iv p0, iv p1, iv p2, iv tl, iv r1, iv r2, iv 0, iv nl, iv r3, un, un, un, un, un, un] [(.int p1)]) tz
      refine XS.bipush X3.here hx rfl (hb hby at_81) ?_
      show sT p e below T3 (mkF m 83 #[iv p0, iv p1, iv p2, iv tl, iv r1, iv r2, iv 0, iv nl, iv r3, un, un, un, un, un, un] [(.int 11), (.int p1)]) tz
      refine XS.iushr X3.here hx rfl (hb hby at_83) rfl ?_
      exact kz
    obtain ⟨_, _, ⟨T4, L4, k4, n4⟩, -, X4, ⟨Lc4, hQ4, l4, y4, z4⟩, st4⟩ := Jvm.LawKit.callS X3 hx (y := (⟨"com/example/stackwright/stackwright/FairValueLevelReadPinLaw", "pick", "(I)C"⟩ : MethodName)) hown (mvT hZ (own_w hw 0 rfl)) (mvT hZ (own_w hw 1 rfl)) (mvT hZ (own_w hw 2 rfl)) (mvT hZ (own_w hw 3 rfl)) (by decide) (backOf (W := 0) (rm1 l Z a0 hw [] ((p1.toUInt32 >>> ((11 : Int32) &&& 31).toUInt32).toInt32)  h0 n0 O0 ) hZ (own_w hw 3 rfl) (own_w hw 2 rfl) (by decide) (by decide)) (g := (mkF m 84 #[iv p0, iv p1, iv p2, iv tl, iv r1, iv r2, iv 0, iv nl, iv r3, un, un, un, un, un, un] [(.int ((p1.toUInt32 >>> ((11 : Int32) &&& 31).toUInt32).toInt32))])) rfl (by rw [hml]; rfl) (argsL := [(.int ((p1.toUInt32 >>> ((11 : Int32) &&& 31).toUInt32).toInt32))]) (rest := []) (lenOf own_pd12 rfl) rfl (by show 2 * 0 + _ ≤ _; exact Nat.le_of_eq rfl) (hb hby at_84) (fun _ _ => ⟨rfl, eq3, (by decide : 0 + 0 ≤ _), (by decide : 0 + 0 ≤ _)⟩)
    dsimp only [Pt.U, Pt.locs, Pt.cells, Pt.slots] at X4 l4 y4 z4 st4 hQ4
    subst l4 y4 z4
    obtain ⟨r4, rfl, lo4, hi4, Nq4, eq4⟩ := hQ4
    have N4 := Fr.app N3 Nq4
    refine own_on (B := T4.setTop (mkF m 87 #[iv p0, iv p1, iv p2, iv tl, iv r1, iv r2, iv 0, iv nl, iv r3, un, un, un, un, un, un] [(.int r4)])) (fun tz kz => st4 _ kz) ?_
    refine own_on (B := T4.setTop (mkF m 89 #[iv p0, iv p1, iv p2, iv tl, iv r1, iv r2, iv 0, iv nl, iv r3, iv r4, un, un, un, un, un] [])) (fun tz kz => ?_) ?_
    · show sT p e below T4 (mkF m 87 #[iv p0, iv p1, iv p2, iv tl, iv r1, iv r2, iv 0, iv nl, iv r3, un, un, un, un, un, un] [(.int r4)]) tz
      refine XS.istore X4.here hx rfl (hb hby at_87) rfl (l' := #[iv p0, iv p1, iv p2, iv tl, iv r1, iv r2, iv 0, iv nl, iv r3, iv r4, un, un, un, un, un]) rfl ?_
      exact kz
    rcases htl with rfl | rfl | rfl
    · rcases hnl with rfl | rfl | rfl
      · refine own_on (B := T4.setTop (mkF m 94 #[iv p0, iv p1, iv p2, iv 0, iv r1, iv r2, iv 0, iv 0, iv r3, iv r4, un, un, un, un, un] [(.int r2), (.int r1), (.int 0)])) (fun tz kz => ?_) ?_
        · show sT p e below T4 (mkF m 89 #[iv p0, iv p1, iv p2, iv 0, iv r1, iv r2, iv 0, iv 0, iv r3, iv r4, un, un, un, un, un] []) tz
          refine XS.iloadN X4.here hx rfl (hb hby at_89) rfl ?_
          show sT p e below T4 (mkF m 90 #[iv p0, iv p1, iv p2, iv 0, iv r1, iv r2, iv 0, iv 0, iv r3, iv r4, un, un, un, un, un] [(.int 0)]) tz
          refine XS.iload X4.here hx rfl (hb hby at_90) rfl ?_
          show sT p e below T4 (mkF m 92 #[iv p0, iv p1, iv p2, iv 0, iv r1, iv r2, iv 0, iv 0, iv r3, iv r4, un, un, un, un, un] [(.int r1), (.int 0)]) tz
          refine XS.iload X4.here hx rfl (hb hby at_92) rfl ?_
          exact kz
        obtain ⟨_, _, ⟨T5, L5, k5, n5⟩, -, X5, hSc5, hgr5, ⟨Lc5, hQ5, l5, y5, z5⟩, st5⟩ := callSS X4 hx (y := (⟨"com/example/stackwright/stackwright/FairValueLevelReadPinLaw", "make", "(ICC)Ljava/lang/String;"⟩ : MethodName)) hown (mvT hZ (own_w hw 4 rfl)) (mvT hZ (own_w hw 5 rfl)) (mvT hZ (own_w hw 2 rfl)) (mvT hZ (own_w hw 6 rfl)) (by decide) (own_backJ (hJ := OwnJ.warm (s := s) hJ) (W := 0) (rm2z l Z a0 hw [] r1 r2  h0 n0 O0 hheld hcw) hZ (own_w hw 6 rfl) (own_w hw 2 rfl) (by decide) (by decide)) (g := (mkF m 94 #[iv p0, iv p1, iv p2, iv 0, iv r1, iv r2, iv 0, iv 0, iv r3, iv r4, un, un, un, un, un] [(.int r2), (.int r1), (.int 0)])) rfl (by rw [hml]; rfl) (argsL := [(.int (0 : Int32)), (.int r1), (.int r2)]) (rest := []) (lenOf own_pd13 rfl) rfl (by show 2 * 0 + _ ≤ _; exact Nat.le_of_eq rfl) (hb hby at_94) (fun _ _ => ⟨rfl, eq4, (by decide : 0 + 4 ≤ _), (by decide : 0 + 8 ≤ _)⟩)
        dsimp only [Pt.U, Pt.locs, Pt.cells, Pt.slots] at X5 l5 y5 z5 st5 hQ5 hSc5 hgr5
        subst l5 y5 z5
        have hS6 : s.Since s.vm 0 := State.WarmedH.since (State.WarmedH.refl s) 0
        obtain ⟨X5, hS5, hZ, hown⟩ := rebS hS6 (by rw [eq4]; exact (Nat.zero_le _)) X5 hSc5 hgr5 hZ hown
        obtain ⟨d5, la5, lb5, lk5, rfl, Nq5, Kq5, zq5, Eq5, Fv5, Fc5, Fh5, Fz5, La5, Lc5, Lv5, Lb5, Jq5⟩ := hQ5
        have N5 := Fr.app N4 Nq5
        have g_d5 : n0 ≤ d5 := Nat.le_trans (own_old O0) zq5
        have sz_d5 : h0.size ≤ d5 := Nat.le_trans (Keep.refl h0 []).1 zq5
        have O7 := O0.keep Kq5 all0
        have K7 : Keep h0 T5.heap [] := (Keep.refl h0 []).trans Kq5 all0
        refine own_on (B := T5.setTop (mkF m 97 #[iv p0, iv p1, iv p2, iv 0, iv r1, iv r2, iv 0, iv 0, iv r3, iv r4, un, un, un, un, un] [(.ref d5)])) (fun tz kz => st5.trans kz) ?_
        refine own_on (B := T5.setTop (mkF m 105 #[iv p0, iv p1, iv p2, iv 0, iv r1, iv r2, iv 0, iv 0, iv r3, iv r4, rv d5, un, un, un, un] [(.int r4), (.int r3), (.int 0)])) (fun tz kz => ?_) ?_
        · show sT p e below T5 (mkF m 97 #[iv p0, iv p1, iv p2, iv 0, iv r1, iv r2, iv 0, iv 0, iv r3, iv r4, un, un, un, un, un] [(.ref d5)]) tz
          refine XS.astore X5.here hx rfl (hb hby at_97) rfl rfl (l' := #[iv p0, iv p1, iv p2, iv 0, iv r1, iv r2, iv 0, iv 0, iv r3, iv r4, rv d5, un, un, un, un]) rfl ?_
          show sT p e below T5 (mkF m 99 #[iv p0, iv p1, iv p2, iv 0, iv r1, iv r2, iv 0, iv 0, iv r3, iv r4, rv d5, un, un, un, un] []) tz
          refine XS.iload X5.here hx rfl (hb hby at_99) rfl ?_
          show sT p e below T5 (mkF m 101 #[iv p0, iv p1, iv p2, iv 0, iv r1, iv r2, iv 0, iv 0, iv r3, iv r4, rv d5, un, un, un, un] [(.int 0)]) tz
          refine XS.iload X5.here hx rfl (hb hby at_101) rfl ?_
          show sT p e below T5 (mkF m 103 #[iv p0, iv p1, iv p2, iv 0, iv r1, iv r2, iv 0, iv 0, iv r3, iv r4, rv d5, un, un, un, un] [(.int r3), (.int 0)]) tz
          refine XS.iload X5.here hx rfl (hb hby at_103) rfl ?_
          exact kz
        obtain ⟨_, _, ⟨T8, L8, k8, n8⟩, -, X8, hSc8, hgr8, ⟨Lc8, hQ8, l8, y8, z8⟩, st8⟩ := callSS X5 hx (y := (⟨"com/example/stackwright/stackwright/FairValueLevelReadPinLaw", "make", "(ICC)Ljava/lang/String;"⟩ : MethodName)) hown (mvT hZ (own_w hw 4 rfl)) (mvT hZ (own_w hw 5 rfl)) (mvT hZ (own_w hw 2 rfl)) (mvT hZ (own_w hw 6 rfl)) (by decide) (own_backK (hJ := OwnJ.warm (s := (s.setVm T5.vm)) Jq5) (W := 0) (rm2y l Z a0 hw [] r3 r4 la5 lb5 lk5 T5.heap n0 O7 La5 Lc5 Lv5 Lb5) hZ (own_w hw 6 rfl) (own_w hw 2 rfl) (by decide) (by decide)) (g := (mkF m 105 #[iv p0, iv p1, iv p2, iv 0, iv r1, iv r2, iv 0, iv 0, iv r3, iv r4, rv d5, un, un, un, un] [(.int r4), (.int r3), (.int 0)])) rfl (by rw [hml]; rfl) (argsL := [(.int (0 : Int32)), (.int r3), (.int r4)]) (rest := []) (lenOf own_pd13 rfl) rfl (by show 2 * 0 + _ ≤ _; exact Nat.le_of_eq rfl) (hb hby at_105) (fun _ _ => ⟨rfl, rfl, (by decide : 4 + 4 ≤ _), (by decide : 8 + 8 ≤ _)⟩)
        dsimp only [Pt.U, Pt.locs, Pt.cells, Pt.slots] at X8 l8 y8 z8 st8 hQ8 hSc8 hgr8
        subst l8 y8 z8
        obtain ⟨X8, hS8, hZ, hown⟩ := rebS hS5 (Nat.le_refl T5.heap.size) X8 hSc8 hgr8 hZ hown
        obtain ⟨d8, rfl, Nq8, Kq8, zq8, Eq8, Fv8, Fc8, Fh8, Fz8⟩ := hQ8
        have N8 := Fr.app N5 Nq8
        have ne_la5_d8 : la5 ≠ d8 := Nat.ne_of_lt (Nat.lt_of_lt_of_le (La5).lt zq8)
        have ne_lb5_d8 : lb5 ≠ d8 := Nat.ne_of_lt (Nat.lt_of_lt_of_le (Lb5).lt zq8)
        have ne_d5_d8 : d5 ≠ d8 := Nat.ne_of_lt (Nat.lt_of_lt_of_le (Eq5).lt zq8)
        have g_d8 : n0 ≤ d8 := Nat.le_trans (own_old O7) zq8
        have sz_d8 : h0.size ≤ d8 := Nat.le_trans K7.1 zq8
        have O9 := O7.keep Kq8 all0
        have K9 : Keep h0 T8.heap [] := K7.trans Kq8 all0
        refine own_on (B := T8.setTop (mkF m 108 #[iv p0, iv p1, iv p2, iv 0, iv r1, iv r2, iv 0, iv 0, iv r3, iv r4, rv d5, un, un, un, un] [(.ref d8)])) (fun tz kz => st8.trans kz) ?_
        have f_10 := (Lb5.keep Kq8 nin0)
        have f_11 := (Eq5.keep Kq8)
        have f_12 := (Fv5.keep Kq8 nin0)
        have f_13 := (Fc5.keep Kq8 nin0)
        refine own_on (B := T8.setTop (mkF m 114 #[iv p0, iv p1, iv p2, iv 0, iv r1, iv r2, iv 0, iv 0, iv r3, iv r4, rv d5, rv d8, un, un, un] [(.ref d8), (.ref d5)])) (fun tz kz => ?_) ?_
        · show sT p e below T8 (mkF m 108 #[iv p0, iv p1, iv p2, iv 0, iv r1, iv r2, iv 0, iv 0, iv r3, iv r4, rv d5, un, un, un, un] [(.ref d8)]) tz
          refine XS.astore X8.here hx rfl (hb hby at_108) rfl rfl (l' := #[iv p0, iv p1, iv p2, iv 0, iv r1, iv r2, iv 0, iv 0, iv r3, iv r4, rv d5, rv d8, un, un, un]) rfl ?_
          show sT p e below T8 (mkF m 110 #[iv p0, iv p1, iv p2, iv 0, iv r1, iv r2, iv 0, iv 0, iv r3, iv r4, rv d5, rv d8, un, un, un] []) tz
          refine XS.aload X8.here hx rfl (hb hby at_110) rfl rfl ?_
          show sT p e below T8 (mkF m 112 #[iv p0, iv p1, iv p2, iv 0, iv r1, iv r2, iv 0, iv 0, iv r3, iv r4, rv d5, rv d8, un, un, un] [(.ref d5)]) tz
          refine XS.aload X8.here hx rfl (hb hby at_112) rfl rfl ?_
          exact kz
        obtain ⟨_, _, ⟨T14, L14, k14, n14⟩, -, X14, ⟨Lc14, hQ14, l14, y14, z14⟩, st14⟩ := Jvm.LawKit.callS X8 hx (y := (⟨"com/example/stackwright/stackwright/Holdings$FairValueLevel", "read", "(Ljava/lang/String;Ljava/lang/String;)Lcom/example/stackwright/stackwright/Holdings$FairValueLevel;"⟩ : MethodName)) hown (mvT hZ (own_w hw 29 rfl)) (mvT hZ (own_w hw 30 rfl)) (mvT hZ (own_w hw 31 rfl)) (mvT hZ (own_w hw 32 rfl)) (by decide) (backOf (W := 0) (rm6e l Z a0 hw [] d5 d8 w0 w1 w2 w3 T8.heap n0 O9 S_NONE S_LEVEL_1 S_LEVEL_2 S_LEVEL_3 f_11 (rm7z l Z a0 hw [] d5 d8 cS lb5 lb5 lk5 lk5  T8.heap n0 O9 S_cs hcS f_11 f_12 f_13 Eq8 Fv8 Fc8 f_10 f_10 )) hZ (own_w hw 32 rfl) (own_w hw 31 rfl) (by decide) (by decide)) (g := (mkF m 114 #[iv p0, iv p1, iv p2, iv 0, iv r1, iv r2, iv 0, iv 0, iv r3, iv r4, rv d5, rv d8, un, un, un] [(.ref d8), (.ref d5)])) rfl (by rw [hml]; rfl) (argsL := [(.ref d5), (.ref d8)]) (rest := []) (lenOf own_pd14 rfl) rfl (by show 2 * 0 + _ ≤ _; exact Nat.le_of_eq rfl) (hb hby at_114) (fun _ _ => ⟨rfl, rfl, (by decide : 8 + 2 ≤ _), (by decide : 16 + 8 ≤ _)⟩)
        dsimp only [Pt.U, Pt.locs, Pt.cells, Pt.slots] at X14 l14 y14 z14 st14 hQ14
        subst l14 y14 z14
        obtain ⟨rfl, Nq14, e14⟩ := hQ14
        have N14 := Fr.app N8 Nq14
        refine own_on (B := T14.setTop (mkF m 117 #[iv p0, iv p1, iv p2, iv 0, iv r1, iv r2, iv 0, iv 0, iv r3, iv r4, rv d5, rv d8, un, un, un] [(.ref w0)])) (fun tz kz => st14 _ kz) ?_
        refine own_on (B := T14.setTop (mkF m 161 #[iv p0, iv p1, iv p2, iv 0, iv r1, iv r2, iv 0, iv 0, iv r3, iv r4, rv d5, rv d8, rv w0, iv 1, un] [])) (fun tz kz => ?_) ?_
        · show sT p e below T14 (mkF m 117 #[iv p0, iv p1, iv p2, iv 0, iv r1, iv r2, iv 0, iv 0, iv r3, iv r4, rv d5, rv d8, un, un, un] [(.ref w0)]) tz
          refine XS.astore X14.here hx rfl (hb hby at_117) rfl rfl (l' := #[iv p0, iv p1, iv p2, iv 0, iv r1, iv r2, iv 0, iv 0, iv r3, iv r4, rv d5, rv d8, rv w0, un, un]) rfl ?_
          show sT p e below T14 (mkF m 119 #[iv p0, iv p1, iv p2, iv 0, iv r1, iv r2, iv 0, iv 0, iv r3, iv r4, rv d5, rv d8, rv w0, un, un] []) tz
          refine XS.iloadN X14.here hx rfl (hb hby at_119) rfl ?_
          show sT p e below T14 (mkF m 120 #[iv p0, iv p1, iv p2, iv 0, iv r1, iv r2, iv 0, iv 0, iv r3, iv r4, rv d5, rv d8, rv w0, un, un] [(.int 0)]) tz
          refine XS.iload X14.here hx rfl (hb hby at_120) rfl ?_
          show sT p e below T14 (mkF m 122 #[iv p0, iv p1, iv p2, iv 0, iv r1, iv r2, iv 0, iv 0, iv r3, iv r4, rv d5, rv d8, rv w0, un, un] [(.int 0), (.int 0)]) tz
          refine XS.icmpNo X14.here hx rfl (hb hby at_122) rfl (teq rfl).2 ?_
          show sT p e below T14 (mkF m 125 #[iv p0, iv p1, iv p2, iv 0, iv r1, iv r2, iv 0, iv 0, iv r3, iv r4, rv d5, rv d8, rv w0, un, un] []) tz
          refine XS.iloadN X14.here hx rfl (hb hby at_125) rfl ?_
          show sT p e below T14 (mkF m 126 #[iv p0, iv p1, iv p2, iv 0, iv r1, iv r2, iv 0, iv 0, iv r3, iv r4, rv d5, rv d8, rv w0, un, un] [(.int 0)]) tz
          refine XS.iconst X14.here hx rfl (hb hby at_126) ?_
          show sT p e below T14 (mkF m 127 #[iv p0, iv p1, iv p2, iv 0, iv r1, iv r2, iv 0, iv 0, iv r3, iv r4, rv d5, rv d8, rv w0, un, un] [(.int 1), (.int 0)]) tz
          refine XS.icmpYes X14.here hx rfl (pc0 := 127) (pc' := 137) rfl (hb hby at_127) rfl (tlt (by decide : (0 : Int32) < (1 : Int32))).1 (by decide) (by decide) ?_
          show sT p e below T14 (mkF m 137 #[iv p0, iv p1, iv p2, iv 0, iv r1, iv r2, iv 0, iv 0, iv r3, iv r4, rv d5, rv d8, rv w0, un, un] []) tz
          refine XS.iloadN X14.here hx rfl (hb hby at_137) rfl ?_
          show sT p e below T14 (mkF m 138 #[iv p0, iv p1, iv p2, iv 0, iv r1, iv r2, iv 0, iv 0, iv r3, iv r4, rv d5, rv d8, rv w0, un, un] [(.int 0)]) tz
          refine XS.iconst X14.here hx rfl (hb hby at_138) ?_
          show sT p e below T14 (mkF m 139 #[iv p0, iv p1, iv p2, iv 0, iv r1, iv r2, iv 0, iv 0, iv r3, iv r4, rv d5, rv d8, rv w0, un, un] [(.int 2), (.int 0)]) tz
          refine XS.icmpYes X14.here hx rfl (pc0 := 139) (pc' := 149) rfl (hb hby at_139) rfl (tlt (by decide : (0 : Int32) < (2 : Int32))).1 (by decide) (by decide) ?_
          show sT p e below T14 (mkF m 149 #[iv p0, iv p1, iv p2, iv 0, iv r1, iv r2, iv 0, iv 0, iv r3, iv r4, rv d5, rv d8, rv w0, un, un] []) tz
          refine XS.iconst X14.here hx rfl (hb hby at_149) ?_
          show sT p e below T14 (mkF m 150 #[iv p0, iv p1, iv p2, iv 0, iv r1, iv r2, iv 0, iv 0, iv r3, iv r4, rv d5, rv d8, rv w0, un, un] [(.int 1)]) tz
          refine XS.goto X14.here hx rfl (pc0 := 150) (pc' := 154) rfl (hb hby at_150) (by decide) (by decide) ?_
          show sT p e below T14 (mkF m 154 #[iv p0, iv p1, iv p2, iv 0, iv r1, iv r2, iv 0, iv 0, iv r3, iv r4, rv d5, rv d8, rv w0, un, un] [(.int 1)]) tz
          refine XS.istore X14.here hx rfl (hb hby at_154) rfl (l' := #[iv p0, iv p1, iv p2, iv 0, iv r1, iv r2, iv 0, iv 0, iv r3, iv r4, rv d5, rv d8, rv w0, iv 1, un]) rfl ?_
          show sT p e below T14 (mkF m 156 #[iv p0, iv p1, iv p2, iv 0, iv r1, iv r2, iv 0, iv 0, iv r3, iv r4, rv d5, rv d8, rv w0, iv 1, un] []) tz
          refine XS.iload X14.here hx rfl (hb hby at_156) rfl ?_
          show sT p e below T14 (mkF m 158 #[iv p0, iv p1, iv p2, iv 0, iv r1, iv r2, iv 0, iv 0, iv r3, iv r4, rv d5, rv d8, rv w0, iv 1, un] [(.int 1)]) tz
          refine XS.ifNo X14.here hx rfl (hb hby at_158) rfl ((if0 _ _).trans (feq (by decide : ¬ ((1 : Int32) = (0 : Int32)))).1) ?_
          exact kz
        obtain ⟨T15, X15, e15, st15⟩ := getS2 X14 hx hZ hown (host := "") (Or.inl (own_w hw 46 rfl)) Via.refl e14 (S_NONE.ext O9.2) (g := (mkF m 161 #[iv p0, iv p1, iv p2, iv 0, iv r1, iv r2, iv 0, iv 0, iv r3, iv r4, rv d5, rv d8, rv w0, iv 1, un] [])) rfl (hb hby at_161)
        refine own_on (B := T15.setTop (mkF m 164 #[iv p0, iv p1, iv p2, iv 0, iv r1, iv r2, iv 0, iv 0, iv r3, iv r4, rv d5, rv d8, rv w0, iv 1, un] [(.ref w0)])) (fun tz kz => st15 _ kz) ?_
        refine own_on (B := T15.setTop (mkF m 244 #[iv p0, iv p1, iv p2, iv 0, iv r1, iv r2, iv 0, iv 0, iv r3, iv r4, rv d5, rv d8, rv w0, iv 1, rv w0] [(.int 1)])) (fun tz kz => ?_) ?_
        · show sT p e below T15 (mkF m 164 #[iv p0, iv p1, iv p2, iv 0, iv r1, iv r2, iv 0, iv 0, iv r3, iv r4, rv d5, rv d8, rv w0, iv 1, un] [(.ref w0)]) tz
          refine XS.astore X15.here hx rfl (hb hby at_164) rfl rfl (l' := #[iv p0, iv p1, iv p2, iv 0, iv r1, iv r2, iv 0, iv 0, iv r3, iv r4, rv d5, rv d8, rv w0, iv 1, rv w0]) rfl ?_
          show sT p e below T15 (mkF m 166 #[iv p0, iv p1, iv p2, iv 0, iv r1, iv r2, iv 0, iv 0, iv r3, iv r4, rv d5, rv d8, rv w0, iv 1, rv w0] []) tz
          refine XS.goto X15.here hx rfl (pc0 := 166) (pc' := 232) rfl (hb hby at_166) (by decide) (by decide) ?_
          show sT p e below T15 (mkF m 232 #[iv p0, iv p1, iv p2, iv 0, iv r1, iv r2, iv 0, iv 0, iv r3, iv r4, rv d5, rv d8, rv w0, iv 1, rv w0] []) tz
          refine XS.aload X15.here hx rfl (hb hby at_232) rfl rfl ?_
          show sT p e below T15 (mkF m 234 #[iv p0, iv p1, iv p2, iv 0, iv r1, iv r2, iv 0, iv 0, iv r3, iv r4, rv d5, rv d8, rv w0, iv 1, rv w0] [(.ref w0)]) tz
          refine XS.aload X15.here hx rfl (hb hby at_234) rfl rfl ?_
          show sT p e below T15 (mkF m 236 #[iv p0, iv p1, iv p2, iv 0, iv r1, iv r2, iv 0, iv 0, iv r3, iv r4, rv d5, rv d8, rv w0, iv 1, rv w0] [(.ref w0), (.ref w0)]) tz
          refine Jvm.RoadKit.acmp (g := (mkF m 236 #[iv p0, iv p1, iv p2, iv 0, iv r1, iv r2, iv 0, iv 0, iv r3, iv r4, rv d5, rv d8, rv w0, iv 1, rv w0] [(.ref w0), (.ref w0)])) X15 hx rfl rfl rfl (pc0 := 236) (pc' := 239) (same := true) rfl (hb hby at_236) rfl (decide_eq_true (congrArg Value.ref rfl)) (by decide) (by decide) ?_
          show sT p e below T15 (mkF m 239 #[iv p0, iv p1, iv p2, iv 0, iv r1, iv r2, iv 0, iv 0, iv r3, iv r4, rv d5, rv d8, rv w0, iv 1, rv w0] []) tz
          refine XS.iconst X15.here hx rfl (hb hby at_239) ?_
          show sT p e below T15 (mkF m 240 #[iv p0, iv p1, iv p2, iv 0, iv r1, iv r2, iv 0, iv 0, iv r3, iv r4, rv d5, rv d8, rv w0, iv 1, rv w0] [(.int 1)]) tz
          refine XS.goto X15.here hx rfl (pc0 := 240) (pc' := 244) rfl (hb hby at_240) (by decide) (by decide) ?_
          exact kz
        obtain ⟨fs, hr, hrun, hended, hRW⟩ := Jvm.Stand.leaveW X15 hS8 (by rw [e15]; exact (Nat.le_refl T8.heap.size)) (v := some (.int (1 : Int32))) (fun h => by rw [Bd.returns] at h; cases h)
        refine own_of ⟨_, _, ?_, hrun, hended, _, _, rfl, ?_, hRW.1, hRW.2.1, hRW.2.2.1, hRW.2.2.2.mono (by decide) (by decide)⟩
        · show sT p e below T15 (mkF m 244 #[iv p0, iv p1, iv p2, iv 0, iv r1, iv r2, iv 0, iv 0, iv r3, iv r4, rv d5, rv d8, rv w0, iv 1, rv w0] [(.int 1)]) _
          exact own_retN X15 hx (t := .boolean) Bd.returns (by simp) (by first | rfl | (split <;> first | rfl | (split <;> first | rfl | (split <;> rfl)))) (hb hby at_244) hr
        · show Q0 Z p0 p1 p2 w0 w1 w2 w3 cS h0 n0 _ T15.heap _
          rw [e15]
          exact ⟨rfl, N14⟩
      · refine own_on (B := T4.setTop (mkF m 94 #[iv p0, iv p1, iv p2, iv 0, iv r1, iv r2, iv 0, iv 1, iv r3, iv r4, un, un, un, un, un] [(.int r2), (.int r1), (.int 0)])) (fun tz kz => ?_) ?_
        · show sT p e below T4 (mkF m 89 #[iv p0, iv p1, iv p2, iv 0, iv r1, iv r2, iv 0, iv 1, iv r3, iv r4, un, un, un, un, un] []) tz
          refine XS.iloadN X4.here hx rfl (hb hby at_89) rfl ?_
          show sT p e below T4 (mkF m 90 #[iv p0, iv p1, iv p2, iv 0, iv r1, iv r2, iv 0, iv 1, iv r3, iv r4, un, un, un, un, un] [(.int 0)]) tz
          refine XS.iload X4.here hx rfl (hb hby at_90) rfl ?_
          show sT p e below T4 (mkF m 92 #[iv p0, iv p1, iv p2, iv 0, iv r1, iv r2, iv 0, iv 1, iv r3, iv r4, un, un, un, un, un] [(.int r1), (.int 0)]) tz
          refine XS.iload X4.here hx rfl (hb hby at_92) rfl ?_
          exact kz
        obtain ⟨_, _, ⟨T16, L16, k16, n16⟩, -, X16, hSc16, hgr16, ⟨Lc16, hQ16, l16, y16, z16⟩, st16⟩ := callSS X4 hx (y := (⟨"com/example/stackwright/stackwright/FairValueLevelReadPinLaw", "make", "(ICC)Ljava/lang/String;"⟩ : MethodName)) hown (mvT hZ (own_w hw 4 rfl)) (mvT hZ (own_w hw 5 rfl)) (mvT hZ (own_w hw 2 rfl)) (mvT hZ (own_w hw 6 rfl)) (by decide) (own_backJ (hJ := OwnJ.warm (s := s) hJ) (W := 0) (rm2z l Z a0 hw [] r1 r2  h0 n0 O0 hheld hcw) hZ (own_w hw 6 rfl) (own_w hw 2 rfl) (by decide) (by decide)) (g := (mkF m 94 #[iv p0, iv p1, iv p2, iv 0, iv r1, iv r2, iv 0, iv 1, iv r3, iv r4, un, un, un, un, un] [(.int r2), (.int r1), (.int 0)])) rfl (by rw [hml]; rfl) (argsL := [(.int (0 : Int32)), (.int r1), (.int r2)]) (rest := []) (lenOf own_pd13 rfl) rfl (by show 2 * 0 + _ ≤ _; exact Nat.le_of_eq rfl) (hb hby at_94) (fun _ _ => ⟨rfl, eq4, (by decide : 0 + 4 ≤ _), (by decide : 0 + 8 ≤ _)⟩)
        dsimp only [Pt.U, Pt.locs, Pt.cells, Pt.slots] at X16 l16 y16 z16 st16 hQ16 hSc16 hgr16
        subst l16 y16 z16
        have hS17 : s.Since s.vm 0 := State.WarmedH.since (State.WarmedH.refl s) 0
        obtain ⟨X16, hS16, hZ, hown⟩ := rebS hS17 (by rw [eq4]; exact (Nat.zero_le _)) X16 hSc16 hgr16 hZ hown
        obtain ⟨d16, la16, lb16, lk16, rfl, Nq16, Kq16, zq16, Eq16, Fv16, Fc16, Fh16, Fz16, La16, Lc16, Lv16, Lb16, Jq16⟩ := hQ16
        have N16 := Fr.app N4 Nq16
        have g_d16 : n0 ≤ d16 := Nat.le_trans (own_old O0) zq16
        have sz_d16 : h0.size ≤ d16 := Nat.le_trans (Keep.refl h0 []).1 zq16
        have O18 := O0.keep Kq16 all0
        have K18 : Keep h0 T16.heap [] := (Keep.refl h0 []).trans Kq16 all0
        refine own_on (B := T16.setTop (mkF m 97 #[iv p0, iv p1, iv p2, iv 0, iv r1, iv r2, iv 0, iv 1, iv r3, iv r4, un, un, un, un, un] [(.ref d16)])) (fun tz kz => st16.trans kz) ?_
        refine own_on (B := T16.setTop (mkF m 105 #[iv p0, iv p1, iv p2, iv 0, iv r1, iv r2, iv 0, iv 1, iv r3, iv r4, rv d16, un, un, un, un] [(.int r4), (.int r3), (.int 1)])) (fun tz kz => ?_) ?_
        · show sT p e below T16 (mkF m 97 #[iv p0, iv p1, iv p2, iv 0, iv r1, iv r2, iv 0, iv 1, iv r3, iv r4, un, un, un, un, un] [(.ref d16)]) tz
          refine XS.astore X16.here hx rfl (hb hby at_97) rfl rfl (l' := #[iv p0, iv p1, iv p2, iv 0, iv r1, iv r2, iv 0, iv 1, iv r3, iv r4, rv d16, un, un, un, un]) rfl ?_
          show sT p e below T16 (mkF m 99 #[iv p0, iv p1, iv p2, iv 0, iv r1, iv r2, iv 0, iv 1, iv r3, iv r4, rv d16, un, un, un, un] []) tz
          refine XS.iload X16.here hx rfl (hb hby at_99) rfl ?_
          show sT p e below T16 (mkF m 101 #[iv p0, iv p1, iv p2, iv 0, iv r1, iv r2, iv 0, iv 1, iv r3, iv r4, rv d16, un, un, un, un] [(.int 1)]) tz
          refine XS.iload X16.here hx rfl (hb hby at_101) rfl ?_
          show sT p e below T16 (mkF m 103 #[iv p0, iv p1, iv p2, iv 0, iv r1, iv r2, iv 0, iv 1, iv r3, iv r4, rv d16, un, un, un, un] [(.int r3), (.int 1)]) tz
          refine XS.iload X16.here hx rfl (hb hby at_103) rfl ?_
          exact kz
        obtain ⟨_, _, ⟨T19, L19, k19, n19⟩, -, X19, ⟨Lc19, hQ19, l19, y19, z19⟩, st19⟩ := Jvm.LawKit.callS X16 hx (y := (⟨"com/example/stackwright/stackwright/FairValueLevelReadPinLaw", "make", "(ICC)Ljava/lang/String;"⟩ : MethodName)) hown (mvT hZ (own_w hw 4 rfl)) (mvT hZ (own_w hw 5 rfl)) (mvT hZ (own_w hw 2 rfl)) (mvT hZ (own_w hw 6 rfl)) (by decide) (backOf (W := 0) (rm2a l Z a0 hw [] r3 r4 cS T16.heap n0 O18 S_cs hcS lo3 hi3) hZ (own_w hw 6 rfl) (own_w hw 2 rfl) (by decide) (by decide)) (g := (mkF m 105 #[iv p0, iv p1, iv p2, iv 0, iv r1, iv r2, iv 0, iv 1, iv r3, iv r4, rv d16, un, un, un, un] [(.int r4), (.int r3), (.int 1)])) rfl (by rw [hml]; rfl) (argsL := [(.int (1 : Int32)), (.int r3), (.int r4)]) (rest := []) (lenOf own_pd13 rfl) rfl (by show 2 * 0 + _ ≤ _; exact Nat.le_of_eq rfl) (hb hby at_105) (fun _ _ => ⟨rfl, rfl, (by decide : 4 + 4 ≤ _), (by decide : 8 + 8 ≤ _)⟩)
        dsimp only [Pt.U, Pt.locs, Pt.cells, Pt.slots] at X19 l19 y19 z19 st19 hQ19
        subst l19 y19 z19
        obtain ⟨d19, b19, kb19, rfl, Nq19, Kq19, zq19, Eq19, Fv19, Fc19, Fh19, Fz19, Eb19, Vb19⟩ := hQ19
        have N19 := Fr.app N16 Nq19
        have ne_la16_d19 : la16 ≠ d19 := Nat.ne_of_lt (Nat.lt_of_lt_of_le (La16).lt zq19)
        have ne_lb16_d19 : lb16 ≠ d19 := Nat.ne_of_lt (Nat.lt_of_lt_of_le (Lb16).lt zq19)
        have ne_d16_d19 : d16 ≠ d19 := Nat.ne_of_lt (Nat.lt_of_lt_of_le (Eq16).lt zq19)
        have g_d19 : n0 ≤ d19 := Nat.le_trans (own_old O18) zq19
        have sz_d19 : h0.size ≤ d19 := Nat.le_trans K18.1 zq19
        have O20 := O18.keep Kq19 all0
        have K20 : Keep h0 T19.heap [] := K18.trans Kq19 all0
        refine own_on (B := T19.setTop (mkF m 108 #[iv p0, iv p1, iv p2, iv 0, iv r1, iv r2, iv 0, iv 1, iv r3, iv r4, rv d16, un, un, un, un] [(.ref d19)])) (fun tz kz => st19 _ kz) ?_
        have f_21 := (Lb16.keep Kq19 nin0)
        have f_22 := (Eq16.keep Kq19)
        have f_23 := (Fv16.keep Kq19 nin0)
        have f_24 := (Fc16.keep Kq19 nin0)
        have f_25 := (Fh16.keep Kq19 nin0)
        have f_26 := (Fz16.keep Kq19 nin0)
        refine own_on (B := T19.setTop (mkF m 114 #[iv p0, iv p1, iv p2, iv 0, iv r1, iv r2, iv 0, iv 1, iv r3, iv r4, rv d16, rv d19, un, un, un] [(.ref d19), (.ref d16)])) (fun tz kz => ?_) ?_
        · show sT p e below T19 (mkF m 108 #[iv p0, iv p1, iv p2, iv 0, iv r1, iv r2, iv 0, iv 1, iv r3, iv r4, rv d16, un, un, un, un] [(.ref d19)]) tz
          refine XS.astore X19.here hx rfl (hb hby at_108) rfl rfl (l' := #[iv p0, iv p1, iv p2, iv 0, iv r1, iv r2, iv 0, iv 1, iv r3, iv r4, rv d16, rv d19, un, un, un]) rfl ?_
          show sT p e below T19 (mkF m 110 #[iv p0, iv p1, iv p2, iv 0, iv r1, iv r2, iv 0, iv 1, iv r3, iv r4, rv d16, rv d19, un, un, un] []) tz
          refine XS.aload X19.here hx rfl (hb hby at_110) rfl rfl ?_
          show sT p e below T19 (mkF m 112 #[iv p0, iv p1, iv p2, iv 0, iv r1, iv r2, iv 0, iv 1, iv r3, iv r4, rv d16, rv d19, un, un, un] [(.ref d16)]) tz
          refine XS.aload X19.here hx rfl (hb hby at_112) rfl rfl ?_
          exact kz
        obtain ⟨_, _, ⟨T27, L27, k27, n27⟩, -, X27, ⟨Lc27, hQ27, l27, y27, z27⟩, st27⟩ := Jvm.LawKit.callS X19 hx (y := (⟨"com/example/stackwright/stackwright/Holdings$FairValueLevel", "read", "(Ljava/lang/String;Ljava/lang/String;)Lcom/example/stackwright/stackwright/Holdings$FairValueLevel;"⟩ : MethodName)) hown (mvT hZ (own_w hw 29 rfl)) (mvT hZ (own_w hw 30 rfl)) (mvT hZ (own_w hw 31 rfl)) (mvT hZ (own_w hw 32 rfl)) (by decide) (backOf (W := 0) (rm6z l Z a0 hw [] d16 d19 w0 w1 w2 w3 cS lb16 lk16   T19.heap n0 O20 S_NONE S_LEVEL_1 S_LEVEL_2 S_LEVEL_3 S_cs hcS f_22 g_d16 f_23 f_24 f_25 f_26 f_21 (rm7d l Z a0 hw [] d16 d19 cS lb16 b19 (0 : Int32) (1 : Int32) T19.heap n0 O20 S_cs hcS f_22 f_23 f_24 Eq19 Fv19 Fc19 (OwnArz.of f_21) (OwnArz.of Vb19) (by decide) ne_d16_d19) ) hZ (own_w hw 32 rfl) (own_w hw 31 rfl) (by decide) (by decide)) (g := (mkF m 114 #[iv p0, iv p1, iv p2, iv 0, iv r1, iv r2, iv 0, iv 1, iv r3, iv r4, rv d16, rv d19, un, un, un] [(.ref d19), (.ref d16)])) rfl (by rw [hml]; rfl) (argsL := [(.ref d16), (.ref d19)]) (rest := []) (lenOf own_pd14 rfl) rfl (by show 2 * 0 + _ ≤ _; exact Nat.le_of_eq rfl) (hb hby at_114) (fun _ _ => ⟨rfl, rfl, (by decide : 8 + 2 ≤ _), (by decide : 16 + 8 ≤ _)⟩)
        dsimp only [Pt.U, Pt.locs, Pt.cells, Pt.slots] at X27 l27 y27 z27 st27 hQ27
        subst l27 y27 z27
        obtain ⟨rfl, Nq27, Kq27⟩ := hQ27
        have N27 := Fr.app N19 Nq27
        have O28 := O20.keep Kq27 (allS g_d16 all0)
        have K28 : Keep h0 T27.heap [] := K20.trans Kq27 (allS (Or.inr sz_d16) all0)
        refine own_on (B := T27.setTop (mkF m 117 #[iv p0, iv p1, iv p2, iv 0, iv r1, iv r2, iv 0, iv 1, iv r3, iv r4, rv d16, rv d19, un, un, un] [.null])) (fun tz kz => st27 _ kz) ?_
        refine own_on (B := T27.setTop (mkF m 244 #[iv p0, iv p1, iv p2, iv 0, iv r1, iv r2, iv 0, iv 1, iv r3, iv r4, rv d16, rv d19, .val .null, iv 0, .val .null] [(.int 1)])) (fun tz kz => ?_) ?_
        · show sT p e below T27 (mkF m 117 #[iv p0, iv p1, iv p2, iv 0, iv r1, iv r2, iv 0, iv 1, iv r3, iv r4, rv d16, rv d19, un, un, un] [.null]) tz
          refine XS.astore X27.here hx rfl (hb hby at_117) rfl rfl (l' := #[iv p0, iv p1, iv p2, iv 0, iv r1, iv r2, iv 0, iv 1, iv r3, iv r4, rv d16, rv d19, .val .null, un, un]) rfl ?_
          show sT p e below T27 (mkF m 119 #[iv p0, iv p1, iv p2, iv 0, iv r1, iv r2, iv 0, iv 1, iv r3, iv r4, rv d16, rv d19, .val .null, un, un] []) tz
          refine XS.iloadN X27.here hx rfl (hb hby at_119) rfl ?_
          show sT p e below T27 (mkF m 120 #[iv p0, iv p1, iv p2, iv 0, iv r1, iv r2, iv 0, iv 1, iv r3, iv r4, rv d16, rv d19, .val .null, un, un] [(.int 0)]) tz
          refine XS.iload X27.here hx rfl (hb hby at_120) rfl ?_
          show sT p e below T27 (mkF m 122 #[iv p0, iv p1, iv p2, iv 0, iv r1, iv r2, iv 0, iv 1, iv r3, iv r4, rv d16, rv d19, .val .null, un, un] [(.int 1), (.int 0)]) tz
          refine XS.icmpYes X27.here hx rfl (pc0 := 122) (pc' := 153) rfl (hb hby at_122) rfl (feq (by decide : ¬ ((0 : Int32) = (1 : Int32)))).2 (by decide) (by decide) ?_
          show sT p e below T27 (mkF m 153 #[iv p0, iv p1, iv p2, iv 0, iv r1, iv r2, iv 0, iv 1, iv r3, iv r4, rv d16, rv d19, .val .null, un, un] []) tz
          refine XS.iconst X27.here hx rfl (hb hby at_153) ?_
          show sT p e below T27 (mkF m 154 #[iv p0, iv p1, iv p2, iv 0, iv r1, iv r2, iv 0, iv 1, iv r3, iv r4, rv d16, rv d19, .val .null, un, un] [(.int 0)]) tz
          refine XS.istore X27.here hx rfl (hb hby at_154) rfl (l' := #[iv p0, iv p1, iv p2, iv 0, iv r1, iv r2, iv 0, iv 1, iv r3, iv r4, rv d16, rv d19, .val .null, iv 0, un]) rfl ?_
          show sT p e below T27 (mkF m 156 #[iv p0, iv p1, iv p2, iv 0, iv r1, iv r2, iv 0, iv 1, iv r3, iv r4, rv d16, rv d19, .val .null, iv 0, un] []) tz
          refine XS.iload X27.here hx rfl (hb hby at_156) rfl ?_
          show sT p e below T27 (mkF m 158 #[iv p0, iv p1, iv p2, iv 0, iv r1, iv r2, iv 0, iv 1, iv r3, iv r4, rv d16, rv d19, .val .null, iv 0, un] [(.int 0)]) tz
          refine XS.ifYes X27.here hx rfl (pc0 := 158) (pc' := 169) rfl (hb hby at_158) rfl ((if0 _ _).trans (teq rfl).1) (by decide) (by decide) ?_
          show sT p e below T27 (mkF m 169 #[iv p0, iv p1, iv p2, iv 0, iv r1, iv r2, iv 0, iv 1, iv r3, iv r4, rv d16, rv d19, .val .null, iv 0, un] []) tz
          refine XS.iloadN X27.here hx rfl (hb hby at_169) rfl ?_
          show sT p e below T27 (mkF m 170 #[iv p0, iv p1, iv p2, iv 0, iv r1, iv r2, iv 0, iv 1, iv r3, iv r4, rv d16, rv d19, .val .null, iv 0, un] [(.int 0)]) tz
          refine XS.iconst X27.here hx rfl (hb hby at_170) ?_
          show sT p e below T27 (mkF m 171 #[iv p0, iv p1, iv p2, iv 0, iv r1, iv r2, iv 0, iv 1, iv r3, iv r4, rv d16, rv d19, .val .null, iv 0, un] [(.int 1), (.int 0)]) tz
          refine XS.icmpYes X27.here hx rfl (pc0 := 171) (pc' := 189) rfl (hb hby at_171) rfl (feq (by decide : ¬ ((0 : Int32) = (1 : Int32)))).2 (by decide) (by decide) ?_
          show sT p e below T27 (mkF m 189 #[iv p0, iv p1, iv p2, iv 0, iv r1, iv r2, iv 0, iv 1, iv r3, iv r4, rv d16, rv d19, .val .null, iv 0, un] []) tz
          refine XS.iloadN X27.here hx rfl (hb hby at_189) rfl ?_
          show sT p e below T27 (mkF m 190 #[iv p0, iv p1, iv p2, iv 0, iv r1, iv r2, iv 0, iv 1, iv r3, iv r4, rv d16, rv d19, .val .null, iv 0, un] [(.int 0)]) tz
          refine XS.iconst X27.here hx rfl (hb hby at_190) ?_
          show sT p e below T27 (mkF m 191 #[iv p0, iv p1, iv p2, iv 0, iv r1, iv r2, iv 0, iv 1, iv r3, iv r4, rv d16, rv d19, .val .null, iv 0, un] [(.int 1), (.int 0)]) tz
          refine XS.icmpYes X27.here hx rfl (pc0 := 191) (pc' := 209) rfl (hb hby at_191) rfl (feq (by decide : ¬ ((0 : Int32) = (1 : Int32)))).2 (by decide) (by decide) ?_
          show sT p e below T27 (mkF m 209 #[iv p0, iv p1, iv p2, iv 0, iv r1, iv r2, iv 0, iv 1, iv r3, iv r4, rv d16, rv d19, .val .null, iv 0, un] []) tz
          refine XS.iloadN X27.here hx rfl (hb hby at_209) rfl ?_
          show sT p e below T27 (mkF m 210 #[iv p0, iv p1, iv p2, iv 0, iv r1, iv r2, iv 0, iv 1, iv r3, iv r4, rv d16, rv d19, .val .null, iv 0, un] [(.int 0)]) tz
          refine XS.iconst X27.here hx rfl (hb hby at_210) ?_
          show sT p e below T27 (mkF m 211 #[iv p0, iv p1, iv p2, iv 0, iv r1, iv r2, iv 0, iv 1, iv r3, iv r4, rv d16, rv d19, .val .null, iv 0, un] [(.int 1), (.int 0)]) tz
          refine XS.icmpYes X27.here hx rfl (pc0 := 211) (pc' := 229) rfl (hb hby at_211) rfl (feq (by decide : ¬ ((0 : Int32) = (1 : Int32)))).2 (by decide) (by decide) ?_
          show sT p e below T27 (mkF m 229 #[iv p0, iv p1, iv p2, iv 0, iv r1, iv r2, iv 0, iv 1, iv r3, iv r4, rv d16, rv d19, .val .null, iv 0, un] []) tz
          refine XS.aconstNull X27.here hx rfl (hb hby at_229) ?_
          show sT p e below T27 (mkF m 230 #[iv p0, iv p1, iv p2, iv 0, iv r1, iv r2, iv 0, iv 1, iv r3, iv r4, rv d16, rv d19, .val .null, iv 0, un] [.null]) tz
          refine XS.astore X27.here hx rfl (hb hby at_230) rfl rfl (l' := #[iv p0, iv p1, iv p2, iv 0, iv r1, iv r2, iv 0, iv 1, iv r3, iv r4, rv d16, rv d19, .val .null, iv 0, .val .null]) rfl ?_
          show sT p e below T27 (mkF m 232 #[iv p0, iv p1, iv p2, iv 0, iv r1, iv r2, iv 0, iv 1, iv r3, iv r4, rv d16, rv d19, .val .null, iv 0, .val .null] []) tz
          refine XS.aload X27.here hx rfl (hb hby at_232) rfl rfl ?_
          show sT p e below T27 (mkF m 234 #[iv p0, iv p1, iv p2, iv 0, iv r1, iv r2, iv 0, iv 1, iv r3, iv r4, rv d16, rv d19, .val .null, iv 0, .val .null] [.null]) tz
          refine XS.aload X27.here hx rfl (hb hby at_234) rfl rfl ?_
          show sT p e below T27 (mkF m 236 #[iv p0, iv p1, iv p2, iv 0, iv r1, iv r2, iv 0, iv 1, iv r3, iv r4, rv d16, rv d19, .val .null, iv 0, .val .null] [.null, .null]) tz
          refine Jvm.RoadKit.acmp (g := (mkF m 236 #[iv p0, iv p1, iv p2, iv 0, iv r1, iv r2, iv 0, iv 1, iv r3, iv r4, rv d16, rv d19, .val .null, iv 0, .val .null] [.null, .null])) X27 hx rfl rfl rfl (pc0 := 236) (pc' := 239) (same := true) rfl (hb hby at_236) rfl (decide_eq_true rfl) (by decide) (by decide) ?_
          show sT p e below T27 (mkF m 239 #[iv p0, iv p1, iv p2, iv 0, iv r1, iv r2, iv 0, iv 1, iv r3, iv r4, rv d16, rv d19, .val .null, iv 0, .val .null] []) tz
          refine XS.iconst X27.here hx rfl (hb hby at_239) ?_
          show sT p e below T27 (mkF m 240 #[iv p0, iv p1, iv p2, iv 0, iv r1, iv r2, iv 0, iv 1, iv r3, iv r4, rv d16, rv d19, .val .null, iv 0, .val .null] [(.int 1)]) tz
          refine XS.goto X27.here hx rfl (pc0 := 240) (pc' := 244) rfl (hb hby at_240) (by decide) (by decide) ?_
          exact kz
        have f_29 := (Nat.le_trans (Nat.le_trans (Nat.le_refl T16.heap.size) Kq19.1) Kq27.1)
        obtain ⟨fs, hr, hrun, hended, hRW⟩ := Jvm.Stand.leaveW X27 hS16 (f_29) (v := some (.int (1 : Int32))) (fun h => by rw [Bd.returns] at h; cases h)
        refine own_of ⟨_, _, ?_, hrun, hended, _, _, rfl, ?_, hRW.1, hRW.2.1, hRW.2.2.1, hRW.2.2.2.mono (by decide) (by decide)⟩
        · show sT p e below T27 (mkF m 244 #[iv p0, iv p1, iv p2, iv 0, iv r1, iv r2, iv 0, iv 1, iv r3, iv r4, rv d16, rv d19, .val .null, iv 0, .val .null] [(.int 1)]) _
          exact own_retN X27 hx (t := .boolean) Bd.returns (by simp) (by first | rfl | (split <;> first | rfl | (split <;> first | rfl | (split <;> rfl)))) (hb hby at_244) hr
        · show Q0 Z p0 p1 p2 w0 w1 w2 w3 cS h0 n0 _ T27.heap _
          exact ⟨rfl, N27⟩
      · refine own_on (B := T4.setTop (mkF m 94 #[iv p0, iv p1, iv p2, iv 0, iv r1, iv r2, iv 0, iv 2, iv r3, iv r4, un, un, un, un, un] [(.int r2), (.int r1), (.int 0)])) (fun tz kz => ?_) ?_
        · show sT p e below T4 (mkF m 89 #[iv p0, iv p1, iv p2, iv 0, iv r1, iv r2, iv 0, iv 2, iv r3, iv r4, un, un, un, un, un] []) tz
          refine XS.iloadN X4.here hx rfl (hb hby at_89) rfl ?_
          show sT p e below T4 (mkF m 90 #[iv p0, iv p1, iv p2, iv 0, iv r1, iv r2, iv 0, iv 2, iv r3, iv r4, un, un, un, un, un] [(.int 0)]) tz
          refine XS.iload X4.here hx rfl (hb hby at_90) rfl ?_
          show sT p e below T4 (mkF m 92 #[iv p0, iv p1, iv p2, iv 0, iv r1, iv r2, iv 0, iv 2, iv r3, iv r4, un, un, un, un, un] [(.int r1), (.int 0)]) tz
          refine XS.iload X4.here hx rfl (hb hby at_92) rfl ?_
          exact kz
        obtain ⟨_, _, ⟨T30, L30, k30, n30⟩, -, X30, hSc30, hgr30, ⟨Lc30, hQ30, l30, y30, z30⟩, st30⟩ := callSS X4 hx (y := (⟨"com/example/stackwright/stackwright/FairValueLevelReadPinLaw", "make", "(ICC)Ljava/lang/String;"⟩ : MethodName)) hown (mvT hZ (own_w hw 4 rfl)) (mvT hZ (own_w hw 5 rfl)) (mvT hZ (own_w hw 2 rfl)) (mvT hZ (own_w hw 6 rfl)) (by decide) (own_backJ (hJ := OwnJ.warm (s := s) hJ) (W := 0) (rm2z l Z a0 hw [] r1 r2  h0 n0 O0 hheld hcw) hZ (own_w hw 6 rfl) (own_w hw 2 rfl) (by decide) (by decide)) (g := (mkF m 94 #[iv p0, iv p1, iv p2, iv 0, iv r1, iv r2, iv 0, iv 2, iv r3, iv r4, un, un, un, un, un] [(.int r2), (.int r1), (.int 0)])) rfl (by rw [hml]; rfl) (argsL := [(.int (0 : Int32)), (.int r1), (.int r2)]) (rest := []) (lenOf own_pd13 rfl) rfl (by show 2 * 0 + _ ≤ _; exact Nat.le_of_eq rfl) (hb hby at_94) (fun _ _ => ⟨rfl, eq4, (by decide : 0 + 4 ≤ _), (by decide : 0 + 8 ≤ _)⟩)
        dsimp only [Pt.U, Pt.locs, Pt.cells, Pt.slots] at X30 l30 y30 z30 st30 hQ30 hSc30 hgr30
        subst l30 y30 z30
        have hS31 : s.Since s.vm 0 := State.WarmedH.since (State.WarmedH.refl s) 0
        obtain ⟨X30, hS30, hZ, hown⟩ := rebS hS31 (by rw [eq4]; exact (Nat.zero_le _)) X30 hSc30 hgr30 hZ hown
        obtain ⟨d30, la30, lb30, lk30, rfl, Nq30, Kq30, zq30, Eq30, Fv30, Fc30, Fh30, Fz30, La30, Lc30, Lv30, Lb30, Jq30⟩ := hQ30
        have N30 := Fr.app N4 Nq30
        have g_d30 : n0 ≤ d30 := Nat.le_trans (own_old O0) zq30
        have sz_d30 : h0.size ≤ d30 := Nat.le_trans (Keep.refl h0 []).1 zq30
        have O32 := O0.keep Kq30 all0
        have K32 : Keep h0 T30.heap [] := (Keep.refl h0 []).trans Kq30 all0
        refine own_on (B := T30.setTop (mkF m 97 #[iv p0, iv p1, iv p2, iv 0, iv r1, iv r2, iv 0, iv 2, iv r3, iv r4, un, un, un, un, un] [(.ref d30)])) (fun tz kz => st30.trans kz) ?_
        refine own_on (B := T30.setTop (mkF m 105 #[iv p0, iv p1, iv p2, iv 0, iv r1, iv r2, iv 0, iv 2, iv r3, iv r4, rv d30, un, un, un, un] [(.int r4), (.int r3), (.int 2)])) (fun tz kz => ?_) ?_
        · show sT p e below T30 (mkF m 97 #[iv p0, iv p1, iv p2, iv 0, iv r1, iv r2, iv 0, iv 2, iv r3, iv r4, un, un, un, un, un] [(.ref d30)]) tz
          refine XS.astore X30.here hx rfl (hb hby at_97) rfl rfl (l' := #[iv p0, iv p1, iv p2, iv 0, iv r1, iv r2, iv 0, iv 2, iv r3, iv r4, rv d30, un, un, un, un]) rfl ?_
          show sT p e below T30 (mkF m 99 #[iv p0, iv p1, iv p2, iv 0, iv r1, iv r2, iv 0, iv 2, iv r3, iv r4, rv d30, un, un, un, un] []) tz
          refine XS.iload X30.here hx rfl (hb hby at_99) rfl ?_
          show sT p e below T30 (mkF m 101 #[iv p0, iv p1, iv p2, iv 0, iv r1, iv r2, iv 0, iv 2, iv r3, iv r4, rv d30, un, un, un, un] [(.int 2)]) tz
          refine XS.iload X30.here hx rfl (hb hby at_101) rfl ?_
          show sT p e below T30 (mkF m 103 #[iv p0, iv p1, iv p2, iv 0, iv r1, iv r2, iv 0, iv 2, iv r3, iv r4, rv d30, un, un, un, un] [(.int r3), (.int 2)]) tz
          refine XS.iload X30.here hx rfl (hb hby at_103) rfl ?_
          exact kz
        obtain ⟨_, _, ⟨T33, L33, k33, n33⟩, -, X33, ⟨Lc33, hQ33, l33, y33, z33⟩, st33⟩ := Jvm.LawKit.callS X30 hx (y := (⟨"com/example/stackwright/stackwright/FairValueLevelReadPinLaw", "make", "(ICC)Ljava/lang/String;"⟩ : MethodName)) hown (mvT hZ (own_w hw 4 rfl)) (mvT hZ (own_w hw 5 rfl)) (mvT hZ (own_w hw 2 rfl)) (mvT hZ (own_w hw 6 rfl)) (by decide) (backOf (W := 0) (rm2b l Z a0 hw [] r3 r4 cS T30.heap n0 O32 S_cs hcS lo3 hi3 lo4 hi4) hZ (own_w hw 6 rfl) (own_w hw 2 rfl) (by decide) (by decide)) (g := (mkF m 105 #[iv p0, iv p1, iv p2, iv 0, iv r1, iv r2, iv 0, iv 2, iv r3, iv r4, rv d30, un, un, un, un] [(.int r4), (.int r3), (.int 2)])) rfl (by rw [hml]; rfl) (argsL := [(.int (2 : Int32)), (.int r3), (.int r4)]) (rest := []) (lenOf own_pd13 rfl) rfl (by show 2 * 0 + _ ≤ _; exact Nat.le_of_eq rfl) (hb hby at_105) (fun _ _ => ⟨rfl, rfl, (by decide : 4 + 4 ≤ _), (by decide : 8 + 8 ≤ _)⟩)
        dsimp only [Pt.U, Pt.locs, Pt.cells, Pt.slots] at X33 l33 y33 z33 st33 hQ33
        subst l33 y33 z33
        obtain ⟨d33, b33, kb33, rfl, Nq33, Kq33, zq33, Eq33, Fv33, Fc33, Fh33, Fz33, Eb33, Vb33⟩ := hQ33
        have N33 := Fr.app N30 Nq33
        have ne_la30_d33 : la30 ≠ d33 := Nat.ne_of_lt (Nat.lt_of_lt_of_le (La30).lt zq33)
        have ne_lb30_d33 : lb30 ≠ d33 := Nat.ne_of_lt (Nat.lt_of_lt_of_le (Lb30).lt zq33)
        have ne_d30_d33 : d30 ≠ d33 := Nat.ne_of_lt (Nat.lt_of_lt_of_le (Eq30).lt zq33)
        have g_d33 : n0 ≤ d33 := Nat.le_trans (own_old O32) zq33
        have sz_d33 : h0.size ≤ d33 := Nat.le_trans K32.1 zq33
        have O34 := O32.keep Kq33 all0
        have K34 : Keep h0 T33.heap [] := K32.trans Kq33 all0
        refine own_on (B := T33.setTop (mkF m 108 #[iv p0, iv p1, iv p2, iv 0, iv r1, iv r2, iv 0, iv 2, iv r3, iv r4, rv d30, un, un, un, un] [(.ref d33)])) (fun tz kz => st33 _ kz) ?_
        have f_35 := (Lb30.keep Kq33 nin0)
        have f_36 := (Eq30.keep Kq33)
        have f_37 := (Fv30.keep Kq33 nin0)
        have f_38 := (Fc30.keep Kq33 nin0)
        have f_39 := (Fh30.keep Kq33 nin0)
        have f_40 := (Fz30.keep Kq33 nin0)
        refine own_on (B := T33.setTop (mkF m 114 #[iv p0, iv p1, iv p2, iv 0, iv r1, iv r2, iv 0, iv 2, iv r3, iv r4, rv d30, rv d33, un, un, un] [(.ref d33), (.ref d30)])) (fun tz kz => ?_) ?_
        · show sT p e below T33 (mkF m 108 #[iv p0, iv p1, iv p2, iv 0, iv r1, iv r2, iv 0, iv 2, iv r3, iv r4, rv d30, un, un, un, un] [(.ref d33)]) tz
          refine XS.astore X33.here hx rfl (hb hby at_108) rfl rfl (l' := #[iv p0, iv p1, iv p2, iv 0, iv r1, iv r2, iv 0, iv 2, iv r3, iv r4, rv d30, rv d33, un, un, un]) rfl ?_
          show sT p e below T33 (mkF m 110 #[iv p0, iv p1, iv p2, iv 0, iv r1, iv r2, iv 0, iv 2, iv r3, iv r4, rv d30, rv d33, un, un, un] []) tz
          refine XS.aload X33.here hx rfl (hb hby at_110) rfl rfl ?_
          show sT p e below T33 (mkF m 112 #[iv p0, iv p1, iv p2, iv 0, iv r1, iv r2, iv 0, iv 2, iv r3, iv r4, rv d30, rv d33, un, un, un] [(.ref d30)]) tz
          refine XS.aload X33.here hx rfl (hb hby at_112) rfl rfl ?_
          exact kz
        obtain ⟨_, _, ⟨T41, L41, k41, n41⟩, -, X41, ⟨Lc41, hQ41, l41, y41, z41⟩, st41⟩ := Jvm.LawKit.callS X33 hx (y := (⟨"com/example/stackwright/stackwright/Holdings$FairValueLevel", "read", "(Ljava/lang/String;Ljava/lang/String;)Lcom/example/stackwright/stackwright/Holdings$FairValueLevel;"⟩ : MethodName)) hown (mvT hZ (own_w hw 29 rfl)) (mvT hZ (own_w hw 30 rfl)) (mvT hZ (own_w hw 31 rfl)) (mvT hZ (own_w hw 32 rfl)) (by decide) (backOf (W := 0) (rm6z l Z a0 hw [] d30 d33 w0 w1 w2 w3 cS lb30 lk30   T33.heap n0 O34 S_NONE S_LEVEL_1 S_LEVEL_2 S_LEVEL_3 S_cs hcS f_36 g_d30 f_37 f_38 f_39 f_40 f_35 (rm7d l Z a0 hw [] d30 d33 cS lb30 b33 (0 : Int32) (2 : Int32) T33.heap n0 O34 S_cs hcS f_36 f_37 f_38 Eq33 Fv33 Fc33 (OwnArz.of f_35) (OwnArz.of Vb33) (by decide) ne_d30_d33) ) hZ (own_w hw 32 rfl) (own_w hw 31 rfl) (by decide) (by decide)) (g := (mkF m 114 #[iv p0, iv p1, iv p2, iv 0, iv r1, iv r2, iv 0, iv 2, iv r3, iv r4, rv d30, rv d33, un, un, un] [(.ref d33), (.ref d30)])) rfl (by rw [hml]; rfl) (argsL := [(.ref d30), (.ref d33)]) (rest := []) (lenOf own_pd14 rfl) rfl (by show 2 * 0 + _ ≤ _; exact Nat.le_of_eq rfl) (hb hby at_114) (fun _ _ => ⟨rfl, rfl, (by decide : 8 + 2 ≤ _), (by decide : 16 + 8 ≤ _)⟩)
        dsimp only [Pt.U, Pt.locs, Pt.cells, Pt.slots] at X41 l41 y41 z41 st41 hQ41
        subst l41 y41 z41
        obtain ⟨rfl, Nq41, Kq41⟩ := hQ41
        have N41 := Fr.app N33 Nq41
        have O42 := O34.keep Kq41 (allS g_d30 all0)
        have K42 : Keep h0 T41.heap [] := K34.trans Kq41 (allS (Or.inr sz_d30) all0)
        refine own_on (B := T41.setTop (mkF m 117 #[iv p0, iv p1, iv p2, iv 0, iv r1, iv r2, iv 0, iv 2, iv r3, iv r4, rv d30, rv d33, un, un, un] [.null])) (fun tz kz => st41 _ kz) ?_
        refine own_on (B := T41.setTop (mkF m 244 #[iv p0, iv p1, iv p2, iv 0, iv r1, iv r2, iv 0, iv 2, iv r3, iv r4, rv d30, rv d33, .val .null, iv 0, .val .null] [(.int 1)])) (fun tz kz => ?_) ?_
        · show sT p e below T41 (mkF m 117 #[iv p0, iv p1, iv p2, iv 0, iv r1, iv r2, iv 0, iv 2, iv r3, iv r4, rv d30, rv d33, un, un, un] [.null]) tz
          refine XS.astore X41.here hx rfl (hb hby at_117) rfl rfl (l' := #[iv p0, iv p1, iv p2, iv 0, iv r1, iv r2, iv 0, iv 2, iv r3, iv r4, rv d30, rv d33, .val .null, un, un]) rfl ?_
          show sT p e below T41 (mkF m 119 #[iv p0, iv p1, iv p2, iv 0, iv r1, iv r2, iv 0, iv 2, iv r3, iv r4, rv d30, rv d33, .val .null, un, un] []) tz
          refine XS.iloadN X41.here hx rfl (hb hby at_119) rfl ?_
          show sT p e below T41 (mkF m 120 #[iv p0, iv p1, iv p2, iv 0, iv r1, iv r2, iv 0, iv 2, iv r3, iv r4, rv d30, rv d33, .val .null, un, un] [(.int 0)]) tz
          refine XS.iload X41.here hx rfl (hb hby at_120) rfl ?_
          show sT p e below T41 (mkF m 122 #[iv p0, iv p1, iv p2, iv 0, iv r1, iv r2, iv 0, iv 2, iv r3, iv r4, rv d30, rv d33, .val .null, un, un] [(.int 2), (.int 0)]) tz
          refine XS.icmpYes X41.here hx rfl (pc0 := 122) (pc' := 153) rfl (hb hby at_122) rfl (feq (by decide : ¬ ((0 : Int32) = (2 : Int32)))).2 (by decide) (by decide) ?_
          show sT p e below T41 (mkF m 153 #[iv p0, iv p1, iv p2, iv 0, iv r1, iv r2, iv 0, iv 2, iv r3, iv r4, rv d30, rv d33, .val .null, un, un] []) tz
          refine XS.iconst X41.here hx rfl (hb hby at_153) ?_
          show sT p e below T41 (mkF m 154 #[iv p0, iv p1, iv p2, iv 0, iv r1, iv r2, iv 0, iv 2, iv r3, iv r4, rv d30, rv d33, .val .null, un, un] [(.int 0)]) tz
          refine XS.istore X41.here hx rfl (hb hby at_154) rfl (l' := #[iv p0, iv p1, iv p2, iv 0, iv r1, iv r2, iv 0, iv 2, iv r3, iv r4, rv d30, rv d33, .val .null, iv 0, un]) rfl ?_
          show sT p e below T41 (mkF m 156 #[iv p0, iv p1, iv p2, iv 0, iv r1, iv r2, iv 0, iv 2, iv r3, iv r4, rv d30, rv d33, .val .null, iv 0, un] []) tz
          refine XS.iload X41.here hx rfl (hb hby at_156) rfl ?_
          show sT p e below T41 (mkF m 158 #[iv p0, iv p1, iv p2, iv 0, iv r1, iv r2, iv 0, iv 2, iv r3, iv r4, rv d30, rv d33, .val .null, iv 0, un] [(.int 0)]) tz
          refine XS.ifYes X41.here hx rfl (pc0 := 158) (pc' := 169) rfl (hb hby at_158) rfl ((if0 _ _).trans (teq rfl).1) (by decide) (by decide) ?_
          show sT p e below T41 (mkF m 169 #[iv p0, iv p1, iv p2, iv 0, iv r1, iv r2, iv 0, iv 2, iv r3, iv r4, rv d30, rv d33, .val .null, iv 0, un] []) tz
          refine XS.iloadN X41.here hx rfl (hb hby at_169) rfl ?_
          show sT p e below T41 (mkF m 170 #[iv p0, iv p1, iv p2, iv 0, iv r1, iv r2, iv 0, iv 2, iv r3, iv r4, rv d30, rv d33, .val .null, iv 0, un] [(.int 0)]) tz
          refine XS.iconst X41.here hx rfl (hb hby at_170) ?_
          show sT p e below T41 (mkF m 171 #[iv p0, iv p1, iv p2, iv 0, iv r1, iv r2, iv 0, iv 2, iv r3, iv r4, rv d30, rv d33, .val .null, iv 0, un] [(.int 1), (.int 0)]) tz
          refine XS.icmpYes X41.here hx rfl (pc0 := 171) (pc' := 189) rfl (hb hby at_171) rfl (feq (by decide : ¬ ((0 : Int32) = (1 : Int32)))).2 (by decide) (by decide) ?_
          show sT p e below T41 (mkF m 189 #[iv p0, iv p1, iv p2, iv 0, iv r1, iv r2, iv 0, iv 2, iv r3, iv r4, rv d30, rv d33, .val .null, iv 0, un] []) tz
          refine XS.iloadN X41.here hx rfl (hb hby at_189) rfl ?_
          show sT p e below T41 (mkF m 190 #[iv p0, iv p1, iv p2, iv 0, iv r1, iv r2, iv 0, iv 2, iv r3, iv r4, rv d30, rv d33, .val .null, iv 0, un] [(.int 0)]) tz
          refine XS.iconst X41.here hx rfl (hb hby at_190) ?_
          show sT p e below T41 (mkF m 191 #[iv p0, iv p1, iv p2, iv 0, iv r1, iv r2, iv 0, iv 2, iv r3, iv r4, rv d30, rv d33, .val .null, iv 0, un] [(.int 1), (.int 0)]) tz
          refine XS.icmpYes X41.here hx rfl (pc0 := 191) (pc' := 209) rfl (hb hby at_191) rfl (feq (by decide : ¬ ((0 : Int32) = (1 : Int32)))).2 (by decide) (by decide) ?_
          show sT p e below T41 (mkF m 209 #[iv p0, iv p1, iv p2, iv 0, iv r1, iv r2, iv 0, iv 2, iv r3, iv r4, rv d30, rv d33, .val .null, iv 0, un] []) tz
          refine XS.iloadN X41.here hx rfl (hb hby at_209) rfl ?_
          show sT p e below T41 (mkF m 210 #[iv p0, iv p1, iv p2, iv 0, iv r1, iv r2, iv 0, iv 2, iv r3, iv r4, rv d30, rv d33, .val .null, iv 0, un] [(.int 0)]) tz
          refine XS.iconst X41.here hx rfl (hb hby at_210) ?_
          show sT p e below T41 (mkF m 211 #[iv p0, iv p1, iv p2, iv 0, iv r1, iv r2, iv 0, iv 2, iv r3, iv r4, rv d30, rv d33, .val .null, iv 0, un] [(.int 1), (.int 0)]) tz
          refine XS.icmpYes X41.here hx rfl (pc0 := 211) (pc' := 229) rfl (hb hby at_211) rfl (feq (by decide : ¬ ((0 : Int32) = (1 : Int32)))).2 (by decide) (by decide) ?_
          show sT p e below T41 (mkF m 229 #[iv p0, iv p1, iv p2, iv 0, iv r1, iv r2, iv 0, iv 2, iv r3, iv r4, rv d30, rv d33, .val .null, iv 0, un] []) tz
          refine XS.aconstNull X41.here hx rfl (hb hby at_229) ?_
          show sT p e below T41 (mkF m 230 #[iv p0, iv p1, iv p2, iv 0, iv r1, iv r2, iv 0, iv 2, iv r3, iv r4, rv d30, rv d33, .val .null, iv 0, un] [.null]) tz
          refine XS.astore X41.here hx rfl (hb hby at_230) rfl rfl (l' := #[iv p0, iv p1, iv p2, iv 0, iv r1, iv r2, iv 0, iv 2, iv r3, iv r4, rv d30, rv d33, .val .null, iv 0, .val .null]) rfl ?_
          show sT p e below T41 (mkF m 232 #[iv p0, iv p1, iv p2, iv 0, iv r1, iv r2, iv 0, iv 2, iv r3, iv r4, rv d30, rv d33, .val .null, iv 0, .val .null] []) tz
          refine XS.aload X41.here hx rfl (hb hby at_232) rfl rfl ?_
          show sT p e below T41 (mkF m 234 #[iv p0, iv p1, iv p2, iv 0, iv r1, iv r2, iv 0, iv 2, iv r3, iv r4, rv d30, rv d33, .val .null, iv 0, .val .null] [.null]) tz
          refine XS.aload X41.here hx rfl (hb hby at_234) rfl rfl ?_
          show sT p e below T41 (mkF m 236 #[iv p0, iv p1, iv p2, iv 0, iv r1, iv r2, iv 0, iv 2, iv r3, iv r4, rv d30, rv d33, .val .null, iv 0, .val .null] [.null, .null]) tz
          refine Jvm.RoadKit.acmp (g := (mkF m 236 #[iv p0, iv p1, iv p2, iv 0, iv r1, iv r2, iv 0, iv 2, iv r3, iv r4, rv d30, rv d33, .val .null, iv 0, .val .null] [.null, .null])) X41 hx rfl rfl rfl (pc0 := 236) (pc' := 239) (same := true) rfl (hb hby at_236) rfl (decide_eq_true rfl) (by decide) (by decide) ?_
          show sT p e below T41 (mkF m 239 #[iv p0, iv p1, iv p2, iv 0, iv r1, iv r2, iv 0, iv 2, iv r3, iv r4, rv d30, rv d33, .val .null, iv 0, .val .null] []) tz
          refine XS.iconst X41.here hx rfl (hb hby at_239) ?_
          show sT p e below T41 (mkF m 240 #[iv p0, iv p1, iv p2, iv 0, iv r1, iv r2, iv 0, iv 2, iv r3, iv r4, rv d30, rv d33, .val .null, iv 0, .val .null] [(.int 1)]) tz
          refine XS.goto X41.here hx rfl (pc0 := 240) (pc' := 244) rfl (hb hby at_240) (by decide) (by decide) ?_
          exact kz
        have f_43 := (Nat.le_trans (Nat.le_trans (Nat.le_refl T30.heap.size) Kq33.1) Kq41.1)
        obtain ⟨fs, hr, hrun, hended, hRW⟩ := Jvm.Stand.leaveW X41 hS30 (f_43) (v := some (.int (1 : Int32))) (fun h => by rw [Bd.returns] at h; cases h)
        refine own_of ⟨_, _, ?_, hrun, hended, _, _, rfl, ?_, hRW.1, hRW.2.1, hRW.2.2.1, hRW.2.2.2.mono (by decide) (by decide)⟩
        · show sT p e below T41 (mkF m 244 #[iv p0, iv p1, iv p2, iv 0, iv r1, iv r2, iv 0, iv 2, iv r3, iv r4, rv d30, rv d33, .val .null, iv 0, .val .null] [(.int 1)]) _
          exact own_retN X41 hx (t := .boolean) Bd.returns (by simp) (by first | rfl | (split <;> first | rfl | (split <;> first | rfl | (split <;> rfl)))) (hb hby at_244) hr
        · show Q0 Z p0 p1 p2 w0 w1 w2 w3 cS h0 n0 _ T41.heap _
          exact ⟨rfl, N41⟩
    · rcases hnl with rfl | rfl | rfl
      · refine own_on (B := T4.setTop (mkF m 94 #[iv p0, iv p1, iv p2, iv 1, iv r1, iv r2, iv 0, iv 0, iv r3, iv r4, un, un, un, un, un] [(.int r2), (.int r1), (.int 1)])) (fun tz kz => ?_) ?_
        · show sT p e below T4 (mkF m 89 #[iv p0, iv p1, iv p2, iv 1, iv r1, iv r2, iv 0, iv 0, iv r3, iv r4, un, un, un, un, un] []) tz
          refine XS.iloadN X4.here hx rfl (hb hby at_89) rfl ?_
          show sT p e below T4 (mkF m 90 #[iv p0, iv p1, iv p2, iv 1, iv r1, iv r2, iv 0, iv 0, iv r3, iv r4, un, un, un, un, un] [(.int 1)]) tz
          refine XS.iload X4.here hx rfl (hb hby at_90) rfl ?_
          show sT p e below T4 (mkF m 92 #[iv p0, iv p1, iv p2, iv 1, iv r1, iv r2, iv 0, iv 0, iv r3, iv r4, un, un, un, un, un] [(.int r1), (.int 1)]) tz
          refine XS.iload X4.here hx rfl (hb hby at_92) rfl ?_
          exact kz
        obtain ⟨_, _, ⟨T44, L44, k44, n44⟩, -, X44, ⟨Lc44, hQ44, l44, y44, z44⟩, st44⟩ := Jvm.LawKit.callS X4 hx (y := (⟨"com/example/stackwright/stackwright/FairValueLevelReadPinLaw", "make", "(ICC)Ljava/lang/String;"⟩ : MethodName)) hown (mvT hZ (own_w hw 4 rfl)) (mvT hZ (own_w hw 5 rfl)) (mvT hZ (own_w hw 2 rfl)) (mvT hZ (own_w hw 6 rfl)) (by decide) (backOf (W := 0) (rm2a l Z a0 hw [] r1 r2 cS h0 n0 O0 S_cs hcS lo1 hi1) hZ (own_w hw 6 rfl) (own_w hw 2 rfl) (by decide) (by decide)) (g := (mkF m 94 #[iv p0, iv p1, iv p2, iv 1, iv r1, iv r2, iv 0, iv 0, iv r3, iv r4, un, un, un, un, un] [(.int r2), (.int r1), (.int 1)])) rfl (by rw [hml]; rfl) (argsL := [(.int (1 : Int32)), (.int r1), (.int r2)]) (rest := []) (lenOf own_pd13 rfl) rfl (by show 2 * 0 + _ ≤ _; exact Nat.le_of_eq rfl) (hb hby at_94) (fun _ _ => ⟨rfl, eq4, (by decide : 0 + 4 ≤ _), (by decide : 0 + 8 ≤ _)⟩)
        dsimp only [Pt.U, Pt.locs, Pt.cells, Pt.slots] at X44 l44 y44 z44 st44 hQ44
        subst l44 y44 z44
        obtain ⟨d44, b44, kb44, rfl, Nq44, Kq44, zq44, Eq44, Fv44, Fc44, Fh44, Fz44, Eb44, Vb44⟩ := hQ44
        have N44 := Fr.app N4 Nq44
        have g_d44 : n0 ≤ d44 := Nat.le_trans (own_old O0) zq44
        have sz_d44 : h0.size ≤ d44 := Nat.le_trans (Keep.refl h0 []).1 zq44
        have O45 := O0.keep Kq44 all0
        have K45 : Keep h0 T44.heap [] := (Keep.refl h0 []).trans Kq44 all0
        refine own_on (B := T44.setTop (mkF m 97 #[iv p0, iv p1, iv p2, iv 1, iv r1, iv r2, iv 0, iv 0, iv r3, iv r4, un, un, un, un, un] [(.ref d44)])) (fun tz kz => st44 _ kz) ?_
        refine own_on (B := T44.setTop (mkF m 105 #[iv p0, iv p1, iv p2, iv 1, iv r1, iv r2, iv 0, iv 0, iv r3, iv r4, rv d44, un, un, un, un] [(.int r4), (.int r3), (.int 0)])) (fun tz kz => ?_) ?_
        · show sT p e below T44 (mkF m 97 #[iv p0, iv p1, iv p2, iv 1, iv r1, iv r2, iv 0, iv 0, iv r3, iv r4, un, un, un, un, un] [(.ref d44)]) tz
          refine XS.astore X44.here hx rfl (hb hby at_97) rfl rfl (l' := #[iv p0, iv p1, iv p2, iv 1, iv r1, iv r2, iv 0, iv 0, iv r3, iv r4, rv d44, un, un, un, un]) rfl ?_
          show sT p e below T44 (mkF m 99 #[iv p0, iv p1, iv p2, iv 1, iv r1, iv r2, iv 0, iv 0, iv r3, iv r4, rv d44, un, un, un, un] []) tz
          refine XS.iload X44.here hx rfl (hb hby at_99) rfl ?_
          show sT p e below T44 (mkF m 101 #[iv p0, iv p1, iv p2, iv 1, iv r1, iv r2, iv 0, iv 0, iv r3, iv r4, rv d44, un, un, un, un] [(.int 0)]) tz
          refine XS.iload X44.here hx rfl (hb hby at_101) rfl ?_
          show sT p e below T44 (mkF m 103 #[iv p0, iv p1, iv p2, iv 1, iv r1, iv r2, iv 0, iv 0, iv r3, iv r4, rv d44, un, un, un, un] [(.int r3), (.int 0)]) tz
          refine XS.iload X44.here hx rfl (hb hby at_103) rfl ?_
          exact kz
        obtain ⟨_, _, ⟨T46, L46, k46, n46⟩, -, X46, hSc46, hgr46, ⟨Lc46, hQ46, l46, y46, z46⟩, st46⟩ := callSS X44 hx (y := (⟨"com/example/stackwright/stackwright/FairValueLevelReadPinLaw", "make", "(ICC)Ljava/lang/String;"⟩ : MethodName)) hown (mvT hZ (own_w hw 4 rfl)) (mvT hZ (own_w hw 5 rfl)) (mvT hZ (own_w hw 2 rfl)) (mvT hZ (own_w hw 6 rfl)) (by decide) (own_backJ (hJ := OwnJ.warm (s := s) hJ) (W := 0) (rm2z l Z a0 hw [] r3 r4  T44.heap n0 O45 hheld hcw) hZ (own_w hw 6 rfl) (own_w hw 2 rfl) (by decide) (by decide)) (g := (mkF m 105 #[iv p0, iv p1, iv p2, iv 1, iv r1, iv r2, iv 0, iv 0, iv r3, iv r4, rv d44, un, un, un, un] [(.int r4), (.int r3), (.int 0)])) rfl (by rw [hml]; rfl) (argsL := [(.int (0 : Int32)), (.int r3), (.int r4)]) (rest := []) (lenOf own_pd13 rfl) rfl (by show 2 * 0 + _ ≤ _; exact Nat.le_of_eq rfl) (hb hby at_105) (fun _ _ => ⟨rfl, rfl, (by decide : 4 + 4 ≤ _), (by decide : 8 + 8 ≤ _)⟩)
        dsimp only [Pt.U, Pt.locs, Pt.cells, Pt.slots] at X46 l46 y46 z46 st46 hQ46 hSc46 hgr46
        subst l46 y46 z46
        have hS47 : s.Since s.vm 0 := State.WarmedH.since (State.WarmedH.refl s) 0
        obtain ⟨X46, hS46, hZ, hown⟩ := rebS hS47 (Nat.zero_le _) X46 hSc46 hgr46 hZ hown
        obtain ⟨d46, la46, lb46, lk46, rfl, Nq46, Kq46, zq46, Eq46, Fv46, Fc46, Fh46, Fz46, La46, Lc46, Lv46, Lb46, Jq46⟩ := hQ46
        have N46 := Fr.app N44 Nq46
        have ne_b44_d46 : b44 ≠ d46 := Nat.ne_of_lt (Nat.lt_of_lt_of_le (Eb44).lt zq46)
        have ne_d44_d46 : d44 ≠ d46 := Nat.ne_of_lt (Nat.lt_of_lt_of_le (Eq44).lt zq46)
        have g_d46 : n0 ≤ d46 := Nat.le_trans (own_old O45) zq46
        have sz_d46 : h0.size ≤ d46 := Nat.le_trans K45.1 zq46
        have O48 := O45.keep Kq46 all0
        have K48 : Keep h0 T46.heap [] := K45.trans Kq46 all0
        refine own_on (B := T46.setTop (mkF m 108 #[iv p0, iv p1, iv p2, iv 1, iv r1, iv r2, iv 0, iv 0, iv r3, iv r4, rv d44, un, un, un, un] [(.ref d46)])) (fun tz kz => st46.trans kz) ?_
        have f_49 := (Vb44.keep Kq46 nin0)
        have f_50 := (Eq44.keep Kq46)
        have f_51 := (Fv44.keep Kq46 nin0)
        have f_52 := (Fc44.keep Kq46 nin0)
        have f_53 := (Fh44.keep Kq46 nin0)
        have f_54 := (Fz44.keep Kq46 nin0)
        refine own_on (B := T46.setTop (mkF m 114 #[iv p0, iv p1, iv p2, iv 1, iv r1, iv r2, iv 0, iv 0, iv r3, iv r4, rv d44, rv d46, un, un, un] [(.ref d46), (.ref d44)])) (fun tz kz => ?_) ?_
        · show sT p e below T46 (mkF m 108 #[iv p0, iv p1, iv p2, iv 1, iv r1, iv r2, iv 0, iv 0, iv r3, iv r4, rv d44, un, un, un, un] [(.ref d46)]) tz
          refine XS.astore X46.here hx rfl (hb hby at_108) rfl rfl (l' := #[iv p0, iv p1, iv p2, iv 1, iv r1, iv r2, iv 0, iv 0, iv r3, iv r4, rv d44, rv d46, un, un, un]) rfl ?_
          show sT p e below T46 (mkF m 110 #[iv p0, iv p1, iv p2, iv 1, iv r1, iv r2, iv 0, iv 0, iv r3, iv r4, rv d44, rv d46, un, un, un] []) tz
          refine XS.aload X46.here hx rfl (hb hby at_110) rfl rfl ?_
          show sT p e below T46 (mkF m 112 #[iv p0, iv p1, iv p2, iv 1, iv r1, iv r2, iv 0, iv 0, iv r3, iv r4, rv d44, rv d46, un, un, un] [(.ref d44)]) tz
          refine XS.aload X46.here hx rfl (hb hby at_112) rfl rfl ?_
          exact kz
        by_cases l1 : r1 = (49 : Int32)
        · have Vl : Arv Z T46.heap b44 kb44 .byte (1 : Int32) [(.int (49 : Int32))] (.int 0) := by have q := f_49; rw [l1, (by decide : nar .byte ((49 : Int32).toInt8.toInt32) = (49 : Int32))] at q; exact q
          obtain ⟨_, _, ⟨T55, L55, k55, n55⟩, -, X55, hSc55, hgr55, ⟨Lc55, hQ55, l55, y55, z55⟩, st55⟩ := callSS X46 hx (y := (⟨"com/example/stackwright/stackwright/Holdings$FairValueLevel", "read", "(Ljava/lang/String;Ljava/lang/String;)Lcom/example/stackwright/stackwright/Holdings$FairValueLevel;"⟩ : MethodName)) hown (mvT hZ (own_w hw 29 rfl)) (mvT hZ (own_w hw 30 rfl)) (mvT hZ (own_w hw 31 rfl)) (mvT hZ (own_w hw 32 rfl)) (by decide) (own_backK (hJ := OwnJ.warm (s := (s.setVm T46.vm)) (OwnJ.sub Jq46)) (W := 0) (rm6a l Z a0 hw [] d44 d46 w0 w1 w2 w3 cS b44 kb44  [""] T46.heap n0 O48 S_NONE S_LEVEL_1 S_LEVEL_2 S_LEVEL_3 S_cs hcS f_50 g_d44 f_51 f_52 f_53 f_54 Vl (rm7d l Z a0 hw [] d44 d46 cS b44 lb46 (1 : Int32) (0 : Int32) T46.heap n0 O48 S_cs hcS f_50 f_51 f_52 Eq46 Fv46 Fc46 (OwnArz.of f_49) (OwnArz.of Lb46) (by decide) ne_d44_d46) held1 held2 held3 hcw (by decide) (by decide) (by decide)) hZ (own_w hw 32 rfl) (own_w hw 31 rfl) (by decide) (by decide)) (g := (mkF m 114 #[iv p0, iv p1, iv p2, iv 1, iv r1, iv r2, iv 0, iv 0, iv r3, iv r4, rv d44, rv d46, un, un, un] [(.ref d46), (.ref d44)])) rfl (by rw [hml]; rfl) (argsL := [(.ref d44), (.ref d46)]) (rest := []) (lenOf own_pd14 rfl) rfl (by show 2 * 0 + _ ≤ _; exact Nat.le_of_eq rfl) (hb hby at_114) (fun _ _ => ⟨rfl, rfl, (by decide : 8 + 2 ≤ _), (by decide : 16 + 8 ≤ _)⟩)
          dsimp only [Pt.U, Pt.locs, Pt.cells, Pt.slots] at X55 l55 y55 z55 st55 hQ55 hSc55 hgr55
          subst l55 y55 z55
          obtain ⟨X55, hS55, hZ, hown⟩ := rebS hS46 (Nat.le_refl T46.heap.size) X55 hSc55 hgr55 hZ hown
          obtain ⟨rfl, Nq55, Kq55⟩ := hQ55
          have N55 := Fr.app N46 Nq55
          have O56 := O48.keep Kq55 (allS g_d44 all0)
          have K56 : Keep h0 T55.heap [] := K48.trans Kq55 (allS (Or.inr sz_d44) all0)
          refine own_on (B := T55.setTop (mkF m 117 #[iv p0, iv p1, iv p2, iv 1, iv r1, iv r2, iv 0, iv 0, iv r3, iv r4, rv d44, rv d46, un, un, un] [(.ref w1)])) (fun tz kz => st55.trans kz) ?_
          refine own_on (B := T55.setTop (mkF m 181 #[iv p0, iv p1, iv p2, iv 1, iv r1, iv r2, iv 0, iv 0, iv r3, iv r4, rv d44, rv d46, rv w1, iv 0, un] [])) (fun tz kz => ?_) ?_
          · show sT p e below T55 (mkF m 117 #[iv p0, iv p1, iv p2, iv 1, iv r1, iv r2, iv 0, iv 0, iv r3, iv r4, rv d44, rv d46, un, un, un] [(.ref w1)]) tz
            refine XS.astore X55.here hx rfl (hb hby at_117) rfl rfl (l' := #[iv p0, iv p1, iv p2, iv 1, iv r1, iv r2, iv 0, iv 0, iv r3, iv r4, rv d44, rv d46, rv w1, un, un]) rfl ?_
            show sT p e below T55 (mkF m 119 #[iv p0, iv p1, iv p2, iv 1, iv r1, iv r2, iv 0, iv 0, iv r3, iv r4, rv d44, rv d46, rv w1, un, un] []) tz
            refine XS.iloadN X55.here hx rfl (hb hby at_119) rfl ?_
            show sT p e below T55 (mkF m 120 #[iv p0, iv p1, iv p2, iv 1, iv r1, iv r2, iv 0, iv 0, iv r3, iv r4, rv d44, rv d46, rv w1, un, un] [(.int 1)]) tz
            refine XS.iload X55.here hx rfl (hb hby at_120) rfl ?_
            show sT p e below T55 (mkF m 122 #[iv p0, iv p1, iv p2, iv 1, iv r1, iv r2, iv 0, iv 0, iv r3, iv r4, rv d44, rv d46, rv w1, un, un] [(.int 0), (.int 1)]) tz
            refine XS.icmpYes X55.here hx rfl (pc0 := 122) (pc' := 153) rfl (hb hby at_122) rfl (feq (by decide : ¬ ((1 : Int32) = (0 : Int32)))).2 (by decide) (by decide) ?_
            show sT p e below T55 (mkF m 153 #[iv p0, iv p1, iv p2, iv 1, iv r1, iv r2, iv 0, iv 0, iv r3, iv r4, rv d44, rv d46, rv w1, un, un] []) tz
            refine XS.iconst X55.here hx rfl (hb hby at_153) ?_
            show sT p e below T55 (mkF m 154 #[iv p0, iv p1, iv p2, iv 1, iv r1, iv r2, iv 0, iv 0, iv r3, iv r4, rv d44, rv d46, rv w1, un, un] [(.int 0)]) tz
            refine XS.istore X55.here hx rfl (hb hby at_154) rfl (l' := #[iv p0, iv p1, iv p2, iv 1, iv r1, iv r2, iv 0, iv 0, iv r3, iv r4, rv d44, rv d46, rv w1, iv 0, un]) rfl ?_
            show sT p e below T55 (mkF m 156 #[iv p0, iv p1, iv p2, iv 1, iv r1, iv r2, iv 0, iv 0, iv r3, iv r4, rv d44, rv d46, rv w1, iv 0, un] []) tz
            refine XS.iload X55.here hx rfl (hb hby at_156) rfl ?_
            show sT p e below T55 (mkF m 158 #[iv p0, iv p1, iv p2, iv 1, iv r1, iv r2, iv 0, iv 0, iv r3, iv r4, rv d44, rv d46, rv w1, iv 0, un] [(.int 0)]) tz
            refine XS.ifYes X55.here hx rfl (pc0 := 158) (pc' := 169) rfl (hb hby at_158) rfl ((if0 _ _).trans (teq rfl).1) (by decide) (by decide) ?_
            show sT p e below T55 (mkF m 169 #[iv p0, iv p1, iv p2, iv 1, iv r1, iv r2, iv 0, iv 0, iv r3, iv r4, rv d44, rv d46, rv w1, iv 0, un] []) tz
            refine XS.iloadN X55.here hx rfl (hb hby at_169) rfl ?_
            show sT p e below T55 (mkF m 170 #[iv p0, iv p1, iv p2, iv 1, iv r1, iv r2, iv 0, iv 0, iv r3, iv r4, rv d44, rv d46, rv w1, iv 0, un] [(.int 1)]) tz
            refine XS.iconst X55.here hx rfl (hb hby at_170) ?_
            show sT p e below T55 (mkF m 171 #[iv p0, iv p1, iv p2, iv 1, iv r1, iv r2, iv 0, iv 0, iv r3, iv r4, rv d44, rv d46, rv w1, iv 0, un] [(.int 1), (.int 1)]) tz
            refine XS.icmpNo X55.here hx rfl (hb hby at_171) rfl (teq rfl).2 ?_
            show sT p e below T55 (mkF m 174 #[iv p0, iv p1, iv p2, iv 1, iv r1, iv r2, iv 0, iv 0, iv r3, iv r4, rv d44, rv d46, rv w1, iv 0, un] []) tz
            refine XS.iload X55.here hx rfl (hb hby at_174) rfl ?_
            show sT p e below T55 (mkF m 176 #[iv p0, iv p1, iv p2, iv 1, iv r1, iv r2, iv 0, iv 0, iv r3, iv r4, rv d44, rv d46, rv w1, iv 0, un] [(.int r1)]) tz
            refine XS.bipush X55.here hx rfl (hb hby at_176) ?_
            show sT p e below T55 (mkF m 178 #[iv p0, iv p1, iv p2, iv 1, iv r1, iv r2, iv 0, iv 0, iv r3, iv r4, rv d44, rv d46, rv w1, iv 0, un] [(.int 49), (.int r1)]) tz
            refine XS.icmpNo X55.here hx rfl (hb hby at_178) rfl (teq l1).2 ?_
            exact kz
          obtain ⟨T57, X57, e57, st57⟩ := getS2 X55 hx hZ hown (host := "") (Or.inl (own_w hw 90 rfl)) Via.refl rfl (S_LEVEL_1.ext O56.2) (g := (mkF m 181 #[iv p0, iv p1, iv p2, iv 1, iv r1, iv r2, iv 0, iv 0, iv r3, iv r4, rv d44, rv d46, rv w1, iv 0, un] [])) rfl (hb hby at_181)
          refine own_on (B := T57.setTop (mkF m 184 #[iv p0, iv p1, iv p2, iv 1, iv r1, iv r2, iv 0, iv 0, iv r3, iv r4, rv d44, rv d46, rv w1, iv 0, un] [(.ref w1)])) (fun tz kz => st57 _ kz) ?_
          refine own_on (B := T57.setTop (mkF m 244 #[iv p0, iv p1, iv p2, iv 1, iv r1, iv r2, iv 0, iv 0, iv r3, iv r4, rv d44, rv d46, rv w1, iv 0, rv w1] [(.int 1)])) (fun tz kz => ?_) ?_
          · show sT p e below T57 (mkF m 184 #[iv p0, iv p1, iv p2, iv 1, iv r1, iv r2, iv 0, iv 0, iv r3, iv r4, rv d44, rv d46, rv w1, iv 0, un] [(.ref w1)]) tz
            refine XS.astore X57.here hx rfl (hb hby at_184) rfl rfl (l' := #[iv p0, iv p1, iv p2, iv 1, iv r1, iv r2, iv 0, iv 0, iv r3, iv r4, rv d44, rv d46, rv w1, iv 0, rv w1]) rfl ?_
            show sT p e below T57 (mkF m 186 #[iv p0, iv p1, iv p2, iv 1, iv r1, iv r2, iv 0, iv 0, iv r3, iv r4, rv d44, rv d46, rv w1, iv 0, rv w1] []) tz
            refine XS.goto X57.here hx rfl (pc0 := 186) (pc' := 232) rfl (hb hby at_186) (by decide) (by decide) ?_
            show sT p e below T57 (mkF m 232 #[iv p0, iv p1, iv p2, iv 1, iv r1, iv r2, iv 0, iv 0, iv r3, iv r4, rv d44, rv d46, rv w1, iv 0, rv w1] []) tz
            refine XS.aload X57.here hx rfl (hb hby at_232) rfl rfl ?_
            show sT p e below T57 (mkF m 234 #[iv p0, iv p1, iv p2, iv 1, iv r1, iv r2, iv 0, iv 0, iv r3, iv r4, rv d44, rv d46, rv w1, iv 0, rv w1] [(.ref w1)]) tz
            refine XS.aload X57.here hx rfl (hb hby at_234) rfl rfl ?_
            show sT p e below T57 (mkF m 236 #[iv p0, iv p1, iv p2, iv 1, iv r1, iv r2, iv 0, iv 0, iv r3, iv r4, rv d44, rv d46, rv w1, iv 0, rv w1] [(.ref w1), (.ref w1)]) tz
            refine Jvm.RoadKit.acmp (g := (mkF m 236 #[iv p0, iv p1, iv p2, iv 1, iv r1, iv r2, iv 0, iv 0, iv r3, iv r4, rv d44, rv d46, rv w1, iv 0, rv w1] [(.ref w1), (.ref w1)])) X57 hx rfl rfl rfl (pc0 := 236) (pc' := 239) (same := true) rfl (hb hby at_236) rfl (decide_eq_true (congrArg Value.ref rfl)) (by decide) (by decide) ?_
            show sT p e below T57 (mkF m 239 #[iv p0, iv p1, iv p2, iv 1, iv r1, iv r2, iv 0, iv 0, iv r3, iv r4, rv d44, rv d46, rv w1, iv 0, rv w1] []) tz
            refine XS.iconst X57.here hx rfl (hb hby at_239) ?_
            show sT p e below T57 (mkF m 240 #[iv p0, iv p1, iv p2, iv 1, iv r1, iv r2, iv 0, iv 0, iv r3, iv r4, rv d44, rv d46, rv w1, iv 0, rv w1] [(.int 1)]) tz
            refine XS.goto X57.here hx rfl (pc0 := 240) (pc' := 244) rfl (hb hby at_240) (by decide) (by decide) ?_
            exact kz
          obtain ⟨fs, hr, hrun, hended, hRW⟩ := Jvm.Stand.leaveW X57 hS55 (by rw [e57]; exact (Nat.le_refl T55.heap.size)) (v := some (.int (1 : Int32))) (fun h => by rw [Bd.returns] at h; cases h)
          refine own_of ⟨_, _, ?_, hrun, hended, _, _, rfl, ?_, hRW.1, hRW.2.1, hRW.2.2.1, hRW.2.2.2.mono (by decide) (by decide)⟩
          · show sT p e below T57 (mkF m 244 #[iv p0, iv p1, iv p2, iv 1, iv r1, iv r2, iv 0, iv 0, iv r3, iv r4, rv d44, rv d46, rv w1, iv 0, rv w1] [(.int 1)]) _
            exact own_retN X57 hx (t := .boolean) Bd.returns (by simp) (by first | rfl | (split <;> first | rfl | (split <;> first | rfl | (split <;> rfl)))) (hb hby at_244) hr
          · show Q0 Z p0 p1 p2 w0 w1 w2 w3 cS h0 n0 _ T57.heap _
            rw [e57]
            exact ⟨rfl, N55⟩
        · by_cases l2 : r1 = (50 : Int32)
          · have Vl : Arv Z T46.heap b44 kb44 .byte (1 : Int32) [(.int (50 : Int32))] (.int 0) := by have q := f_49; rw [l2, (by decide : nar .byte ((50 : Int32).toInt8.toInt32) = (50 : Int32))] at q; exact q
            obtain ⟨_, _, ⟨T58, L58, k58, n58⟩, -, X58, hSc58, hgr58, ⟨Lc58, hQ58, l58, y58, z58⟩, st58⟩ := callSS X46 hx (y := (⟨"com/example/stackwright/stackwright/Holdings$FairValueLevel", "read", "(Ljava/lang/String;Ljava/lang/String;)Lcom/example/stackwright/stackwright/Holdings$FairValueLevel;"⟩ : MethodName)) hown (mvT hZ (own_w hw 29 rfl)) (mvT hZ (own_w hw 30 rfl)) (mvT hZ (own_w hw 31 rfl)) (mvT hZ (own_w hw 32 rfl)) (by decide) (own_backK (hJ := OwnJ.warm (s := (s.setVm T46.vm)) (OwnJ.sub Jq46)) (W := 0) (rm6b l Z a0 hw [] d44 d46 w0 w1 w2 w3 cS b44 kb44  [""] T46.heap n0 O48 S_NONE S_LEVEL_1 S_LEVEL_2 S_LEVEL_3 S_cs hcS f_50 g_d44 f_51 f_52 f_53 f_54 Vl (rm7d l Z a0 hw [] d44 d46 cS b44 lb46 (1 : Int32) (0 : Int32) T46.heap n0 O48 S_cs hcS f_50 f_51 f_52 Eq46 Fv46 Fc46 (OwnArz.of f_49) (OwnArz.of Lb46) (by decide) ne_d44_d46) held1 held2 held3 hcw (by decide) (by decide) (by decide)) hZ (own_w hw 32 rfl) (own_w hw 31 rfl) (by decide) (by decide)) (g := (mkF m 114 #[iv p0, iv p1, iv p2, iv 1, iv r1, iv r2, iv 0, iv 0, iv r3, iv r4, rv d44, rv d46, un, un, un] [(.ref d46), (.ref d44)])) rfl (by rw [hml]; rfl) (argsL := [(.ref d44), (.ref d46)]) (rest := []) (lenOf own_pd14 rfl) rfl (by show 2 * 0 + _ ≤ _; exact Nat.le_of_eq rfl) (hb hby at_114) (fun _ _ => ⟨rfl, rfl, (by decide : 8 + 2 ≤ _), (by decide : 16 + 8 ≤ _)⟩)
            dsimp only [Pt.U, Pt.locs, Pt.cells, Pt.slots] at X58 l58 y58 z58 st58 hQ58 hSc58 hgr58
            subst l58 y58 z58
            obtain ⟨X58, hS58, hZ, hown⟩ := rebS hS46 (Nat.le_refl T46.heap.size) X58 hSc58 hgr58 hZ hown
            obtain ⟨rfl, Nq58, Kq58⟩ := hQ58
            have N58 := Fr.app N46 Nq58
            have O59 := O48.keep Kq58 (allS g_d44 all0)
            have K59 : Keep h0 T58.heap [] := K48.trans Kq58 (allS (Or.inr sz_d44) all0)
            refine own_on (B := T58.setTop (mkF m 117 #[iv p0, iv p1, iv p2, iv 1, iv r1, iv r2, iv 0, iv 0, iv r3, iv r4, rv d44, rv d46, un, un, un] [(.ref w2)])) (fun tz kz => st58.trans kz) ?_
            refine own_on (B := T58.setTop (mkF m 201 #[iv p0, iv p1, iv p2, iv 1, iv r1, iv r2, iv 0, iv 0, iv r3, iv r4, rv d44, rv d46, rv w2, iv 0, un] [])) (fun tz kz => ?_) ?_
            · show sT p e below T58 (mkF m 117 #[iv p0, iv p1, iv p2, iv 1, iv r1, iv r2, iv 0, iv 0, iv r3, iv r4, rv d44, rv d46, un, un, un] [(.ref w2)]) tz
              refine XS.astore X58.here hx rfl (hb hby at_117) rfl rfl (l' := #[iv p0, iv p1, iv p2, iv 1, iv r1, iv r2, iv 0, iv 0, iv r3, iv r4, rv d44, rv d46, rv w2, un, un]) rfl ?_
              show sT p e below T58 (mkF m 119 #[iv p0, iv p1, iv p2, iv 1, iv r1, iv r2, iv 0, iv 0, iv r3, iv r4, rv d44, rv d46, rv w2, un, un] []) tz
              refine XS.iloadN X58.here hx rfl (hb hby at_119) rfl ?_
              show sT p e below T58 (mkF m 120 #[iv p0, iv p1, iv p2, iv 1, iv r1, iv r2, iv 0, iv 0, iv r3, iv r4, rv d44, rv d46, rv w2, un, un] [(.int 1)]) tz
              refine XS.iload X58.here hx rfl (hb hby at_120) rfl ?_
              show sT p e below T58 (mkF m 122 #[iv p0, iv p1, iv p2, iv 1, iv r1, iv r2, iv 0, iv 0, iv r3, iv r4, rv d44, rv d46, rv w2, un, un] [(.int 0), (.int 1)]) tz
              refine XS.icmpYes X58.here hx rfl (pc0 := 122) (pc' := 153) rfl (hb hby at_122) rfl (feq (by decide : ¬ ((1 : Int32) = (0 : Int32)))).2 (by decide) (by decide) ?_
              show sT p e below T58 (mkF m 153 #[iv p0, iv p1, iv p2, iv 1, iv r1, iv r2, iv 0, iv 0, iv r3, iv r4, rv d44, rv d46, rv w2, un, un] []) tz
              refine XS.iconst X58.here hx rfl (hb hby at_153) ?_
              show sT p e below T58 (mkF m 154 #[iv p0, iv p1, iv p2, iv 1, iv r1, iv r2, iv 0, iv 0, iv r3, iv r4, rv d44, rv d46, rv w2, un, un] [(.int 0)]) tz
              refine XS.istore X58.here hx rfl (hb hby at_154) rfl (l' := #[iv p0, iv p1, iv p2, iv 1, iv r1, iv r2, iv 0, iv 0, iv r3, iv r4, rv d44, rv d46, rv w2, iv 0, un]) rfl ?_
              show sT p e below T58 (mkF m 156 #[iv p0, iv p1, iv p2, iv 1, iv r1, iv r2, iv 0, iv 0, iv r3, iv r4, rv d44, rv d46, rv w2, iv 0, un] []) tz
              refine XS.iload X58.here hx rfl (hb hby at_156) rfl ?_
              show sT p e below T58 (mkF m 158 #[iv p0, iv p1, iv p2, iv 1, iv r1, iv r2, iv 0, iv 0, iv r3, iv r4, rv d44, rv d46, rv w2, iv 0, un] [(.int 0)]) tz
              refine XS.ifYes X58.here hx rfl (pc0 := 158) (pc' := 169) rfl (hb hby at_158) rfl ((if0 _ _).trans (teq rfl).1) (by decide) (by decide) ?_
              show sT p e below T58 (mkF m 169 #[iv p0, iv p1, iv p2, iv 1, iv r1, iv r2, iv 0, iv 0, iv r3, iv r4, rv d44, rv d46, rv w2, iv 0, un] []) tz
              refine XS.iloadN X58.here hx rfl (hb hby at_169) rfl ?_
              show sT p e below T58 (mkF m 170 #[iv p0, iv p1, iv p2, iv 1, iv r1, iv r2, iv 0, iv 0, iv r3, iv r4, rv d44, rv d46, rv w2, iv 0, un] [(.int 1)]) tz
              refine XS.iconst X58.here hx rfl (hb hby at_170) ?_
              show sT p e below T58 (mkF m 171 #[iv p0, iv p1, iv p2, iv 1, iv r1, iv r2, iv 0, iv 0, iv r3, iv r4, rv d44, rv d46, rv w2, iv 0, un] [(.int 1), (.int 1)]) tz
              refine XS.icmpNo X58.here hx rfl (hb hby at_171) rfl (teq rfl).2 ?_
              show sT p e below T58 (mkF m 174 #[iv p0, iv p1, iv p2, iv 1, iv r1, iv r2, iv 0, iv 0, iv r3, iv r4, rv d44, rv d46, rv w2, iv 0, un] []) tz
              refine XS.iload X58.here hx rfl (hb hby at_174) rfl ?_
              show sT p e below T58 (mkF m 176 #[iv p0, iv p1, iv p2, iv 1, iv r1, iv r2, iv 0, iv 0, iv r3, iv r4, rv d44, rv d46, rv w2, iv 0, un] [(.int r1)]) tz
              refine XS.bipush X58.here hx rfl (hb hby at_176) ?_
              show sT p e below T58 (mkF m 178 #[iv p0, iv p1, iv p2, iv 1, iv r1, iv r2, iv 0, iv 0, iv r3, iv r4, rv d44, rv d46, rv w2, iv 0, un] [(.int 49), (.int r1)]) tz
              refine XS.icmpYes X58.here hx rfl (pc0 := 178) (pc' := 189) rfl (hb hby at_178) rfl (feq l1).2 (by decide) (by decide) ?_
              show sT p e below T58 (mkF m 189 #[iv p0, iv p1, iv p2, iv 1, iv r1, iv r2, iv 0, iv 0, iv r3, iv r4, rv d44, rv d46, rv w2, iv 0, un] []) tz
              refine XS.iloadN X58.here hx rfl (hb hby at_189) rfl ?_
              show sT p e below T58 (mkF m 190 #[iv p0, iv p1, iv p2, iv 1, iv r1, iv r2, iv 0, iv 0, iv r3, iv r4, rv d44, rv d46, rv w2, iv 0, un] [(.int 1)]) tz
              refine XS.iconst X58.here hx rfl (hb hby at_190) ?_
              show sT p e below T58 (mkF m 191 #[iv p0, iv p1, iv p2, iv 1, iv r1, iv r2, iv 0, iv 0, iv r3, iv r4, rv d44, rv d46, rv w2, iv 0, un] [(.int 1), (.int 1)]) tz
              refine XS.icmpNo X58.here hx rfl (hb hby at_191) rfl (teq rfl).2 ?_
              show sT p e below T58 (mkF m 194 #[iv p0, iv p1, iv p2, iv 1, iv r1, iv r2, iv 0, iv 0, iv r3, iv r4, rv d44, rv d46, rv w2, iv 0, un] []) tz
              refine XS.iload X58.here hx rfl (hb hby at_194) rfl ?_
              show sT p e below T58 (mkF m 196 #[iv p0, iv p1, iv p2, iv 1, iv r1, iv r2, iv 0, iv 0, iv r3, iv r4, rv d44, rv d46, rv w2, iv 0, un] [(.int r1)]) tz
              refine XS.bipush X58.here hx rfl (hb hby at_196) ?_
              show sT p e below T58 (mkF m 198 #[iv p0, iv p1, iv p2, iv 1, iv r1, iv r2, iv 0, iv 0, iv r3, iv r4, rv d44, rv d46, rv w2, iv 0, un] [(.int 50), (.int r1)]) tz
              refine XS.icmpNo X58.here hx rfl (hb hby at_198) rfl (teq l2).2 ?_
              exact kz
            obtain ⟨T60, X60, e60, st60⟩ := getS2 X58 hx hZ hown (host := "") (Or.inl (own_w hw 94 rfl)) Via.refl rfl (S_LEVEL_2.ext O59.2) (g := (mkF m 201 #[iv p0, iv p1, iv p2, iv 1, iv r1, iv r2, iv 0, iv 0, iv r3, iv r4, rv d44, rv d46, rv w2, iv 0, un] [])) rfl (hb hby at_201)
            refine own_on (B := T60.setTop (mkF m 204 #[iv p0, iv p1, iv p2, iv 1, iv r1, iv r2, iv 0, iv 0, iv r3, iv r4, rv d44, rv d46, rv w2, iv 0, un] [(.ref w2)])) (fun tz kz => st60 _ kz) ?_
            refine own_on (B := T60.setTop (mkF m 244 #[iv p0, iv p1, iv p2, iv 1, iv r1, iv r2, iv 0, iv 0, iv r3, iv r4, rv d44, rv d46, rv w2, iv 0, rv w2] [(.int 1)])) (fun tz kz => ?_) ?_
            · show sT p e below T60 (mkF m 204 #[iv p0, iv p1, iv p2, iv 1, iv r1, iv r2, iv 0, iv 0, iv r3, iv r4, rv d44, rv d46, rv w2, iv 0, un] [(.ref w2)]) tz
              refine XS.astore X60.here hx rfl (hb hby at_204) rfl rfl (l' := #[iv p0, iv p1, iv p2, iv 1, iv r1, iv r2, iv 0, iv 0, iv r3, iv r4, rv d44, rv d46, rv w2, iv 0, rv w2]) rfl ?_
              show sT p e below T60 (mkF m 206 #[iv p0, iv p1, iv p2, iv 1, iv r1, iv r2, iv 0, iv 0, iv r3, iv r4, rv d44, rv d46, rv w2, iv 0, rv w2] []) tz
              refine XS.goto X60.here hx rfl (pc0 := 206) (pc' := 232) rfl (hb hby at_206) (by decide) (by decide) ?_
              show sT p e below T60 (mkF m 232 #[iv p0, iv p1, iv p2, iv 1, iv r1, iv r2, iv 0, iv 0, iv r3, iv r4, rv d44, rv d46, rv w2, iv 0, rv w2] []) tz
              refine XS.aload X60.here hx rfl (hb hby at_232) rfl rfl ?_
              show sT p e below T60 (mkF m 234 #[iv p0, iv p1, iv p2, iv 1, iv r1, iv r2, iv 0, iv 0, iv r3, iv r4, rv d44, rv d46, rv w2, iv 0, rv w2] [(.ref w2)]) tz
              refine XS.aload X60.here hx rfl (hb hby at_234) rfl rfl ?_
              show sT p e below T60 (mkF m 236 #[iv p0, iv p1, iv p2, iv 1, iv r1, iv r2, iv 0, iv 0, iv r3, iv r4, rv d44, rv d46, rv w2, iv 0, rv w2] [(.ref w2), (.ref w2)]) tz
              refine Jvm.RoadKit.acmp (g := (mkF m 236 #[iv p0, iv p1, iv p2, iv 1, iv r1, iv r2, iv 0, iv 0, iv r3, iv r4, rv d44, rv d46, rv w2, iv 0, rv w2] [(.ref w2), (.ref w2)])) X60 hx rfl rfl rfl (pc0 := 236) (pc' := 239) (same := true) rfl (hb hby at_236) rfl (decide_eq_true (congrArg Value.ref rfl)) (by decide) (by decide) ?_
              show sT p e below T60 (mkF m 239 #[iv p0, iv p1, iv p2, iv 1, iv r1, iv r2, iv 0, iv 0, iv r3, iv r4, rv d44, rv d46, rv w2, iv 0, rv w2] []) tz
              refine XS.iconst X60.here hx rfl (hb hby at_239) ?_
              show sT p e below T60 (mkF m 240 #[iv p0, iv p1, iv p2, iv 1, iv r1, iv r2, iv 0, iv 0, iv r3, iv r4, rv d44, rv d46, rv w2, iv 0, rv w2] [(.int 1)]) tz
              refine XS.goto X60.here hx rfl (pc0 := 240) (pc' := 244) rfl (hb hby at_240) (by decide) (by decide) ?_
              exact kz
            obtain ⟨fs, hr, hrun, hended, hRW⟩ := Jvm.Stand.leaveW X60 hS58 (by rw [e60]; exact (Nat.le_refl T58.heap.size)) (v := some (.int (1 : Int32))) (fun h => by rw [Bd.returns] at h; cases h)
            refine own_of ⟨_, _, ?_, hrun, hended, _, _, rfl, ?_, hRW.1, hRW.2.1, hRW.2.2.1, hRW.2.2.2.mono (by decide) (by decide)⟩
            · show sT p e below T60 (mkF m 244 #[iv p0, iv p1, iv p2, iv 1, iv r1, iv r2, iv 0, iv 0, iv r3, iv r4, rv d44, rv d46, rv w2, iv 0, rv w2] [(.int 1)]) _
              exact own_retN X60 hx (t := .boolean) Bd.returns (by simp) (by first | rfl | (split <;> first | rfl | (split <;> first | rfl | (split <;> rfl)))) (hb hby at_244) hr
            · show Q0 Z p0 p1 p2 w0 w1 w2 w3 cS h0 n0 _ T60.heap _
              rw [e60]
              exact ⟨rfl, N58⟩
          · by_cases l3 : r1 = (51 : Int32)
            · have Vl : Arv Z T46.heap b44 kb44 .byte (1 : Int32) [(.int (51 : Int32))] (.int 0) := by have q := f_49; rw [l3, (by decide : nar .byte ((51 : Int32).toInt8.toInt32) = (51 : Int32))] at q; exact q
              obtain ⟨_, _, ⟨T61, L61, k61, n61⟩, -, X61, hSc61, hgr61, ⟨Lc61, hQ61, l61, y61, z61⟩, st61⟩ := callSS X46 hx (y := (⟨"com/example/stackwright/stackwright/Holdings$FairValueLevel", "read", "(Ljava/lang/String;Ljava/lang/String;)Lcom/example/stackwright/stackwright/Holdings$FairValueLevel;"⟩ : MethodName)) hown (mvT hZ (own_w hw 29 rfl)) (mvT hZ (own_w hw 30 rfl)) (mvT hZ (own_w hw 31 rfl)) (mvT hZ (own_w hw 32 rfl)) (by decide) (own_backK (hJ := OwnJ.warm (s := (s.setVm T46.vm)) (OwnJ.sub Jq46)) (W := 0) (rm6c l Z a0 hw [] d44 d46 w0 w1 w2 w3 cS b44 kb44  [""] T46.heap n0 O48 S_NONE S_LEVEL_1 S_LEVEL_2 S_LEVEL_3 S_cs hcS f_50 g_d44 f_51 f_52 f_53 f_54 Vl (rm7d l Z a0 hw [] d44 d46 cS b44 lb46 (1 : Int32) (0 : Int32) T46.heap n0 O48 S_cs hcS f_50 f_51 f_52 Eq46 Fv46 Fc46 (OwnArz.of f_49) (OwnArz.of Lb46) (by decide) ne_d44_d46) held1 held2 held3 hcw (by decide) (by decide) (by decide)) hZ (own_w hw 32 rfl) (own_w hw 31 rfl) (by decide) (by decide)) (g := (mkF m 114 #[iv p0, iv p1, iv p2, iv 1, iv r1, iv r2, iv 0, iv 0, iv r3, iv r4, rv d44, rv d46, un, un, un] [(.ref d46), (.ref d44)])) rfl (by rw [hml]; rfl) (argsL := [(.ref d44), (.ref d46)]) (rest := []) (lenOf own_pd14 rfl) rfl (by show 2 * 0 + _ ≤ _; exact Nat.le_of_eq rfl) (hb hby at_114) (fun _ _ => ⟨rfl, rfl, (by decide : 8 + 2 ≤ _), (by decide : 16 + 8 ≤ _)⟩)
              dsimp only [Pt.U, Pt.locs, Pt.cells, Pt.slots] at X61 l61 y61 z61 st61 hQ61 hSc61 hgr61
              subst l61 y61 z61
              obtain ⟨X61, hS61, hZ, hown⟩ := rebS hS46 (Nat.le_refl T46.heap.size) X61 hSc61 hgr61 hZ hown
              obtain ⟨rfl, Nq61, Kq61⟩ := hQ61
              have N61 := Fr.app N46 Nq61
              have O62 := O48.keep Kq61 (allS g_d44 all0)
              have K62 : Keep h0 T61.heap [] := K48.trans Kq61 (allS (Or.inr sz_d44) all0)
              refine own_on (B := T61.setTop (mkF m 117 #[iv p0, iv p1, iv p2, iv 1, iv r1, iv r2, iv 0, iv 0, iv r3, iv r4, rv d44, rv d46, un, un, un] [(.ref w3)])) (fun tz kz => st61.trans kz) ?_
              refine own_on (B := T61.setTop (mkF m 221 #[iv p0, iv p1, iv p2, iv 1, iv r1, iv r2, iv 0, iv 0, iv r3, iv r4, rv d44, rv d46, rv w3, iv 0, un] [])) (fun tz kz => ?_) ?_
              · show sT p e below T61 (mkF m 117 #[iv p0, iv p1, iv p2, iv 1, iv r1, iv r2, iv 0, iv 0, iv r3, iv r4, rv d44, rv d46, un, un, un] [(.ref w3)]) tz
                refine XS.astore X61.here hx rfl (hb hby at_117) rfl rfl (l' := #[iv p0, iv p1, iv p2, iv 1, iv r1, iv r2, iv 0, iv 0, iv r3, iv r4, rv d44, rv d46, rv w3, un, un]) rfl ?_
                show sT p e below T61 (mkF m 119 #[iv p0, iv p1, iv p2, iv 1, iv r1, iv r2, iv 0, iv 0, iv r3, iv r4, rv d44, rv d46, rv w3, un, un] []) tz
                refine XS.iloadN X61.here hx rfl (hb hby at_119) rfl ?_
                show sT p e below T61 (mkF m 120 #[iv p0, iv p1, iv p2, iv 1, iv r1, iv r2, iv 0, iv 0, iv r3, iv r4, rv d44, rv d46, rv w3, un, un] [(.int 1)]) tz
                refine XS.iload X61.here hx rfl (hb hby at_120) rfl ?_
                show sT p e below T61 (mkF m 122 #[iv p0, iv p1, iv p2, iv 1, iv r1, iv r2, iv 0, iv 0, iv r3, iv r4, rv d44, rv d46, rv w3, un, un] [(.int 0), (.int 1)]) tz
                refine XS.icmpYes X61.here hx rfl (pc0 := 122) (pc' := 153) rfl (hb hby at_122) rfl (feq (by decide : ¬ ((1 : Int32) = (0 : Int32)))).2 (by decide) (by decide) ?_
                show sT p e below T61 (mkF m 153 #[iv p0, iv p1, iv p2, iv 1, iv r1, iv r2, iv 0, iv 0, iv r3, iv r4, rv d44, rv d46, rv w3, un, un] []) tz
                refine XS.iconst X61.here hx rfl (hb hby at_153) ?_
                show sT p e below T61 (mkF m 154 #[iv p0, iv p1, iv p2, iv 1, iv r1, iv r2, iv 0, iv 0, iv r3, iv r4, rv d44, rv d46, rv w3, un, un] [(.int 0)]) tz
                refine XS.istore X61.here hx rfl (hb hby at_154) rfl (l' := #[iv p0, iv p1, iv p2, iv 1, iv r1, iv r2, iv 0, iv 0, iv r3, iv r4, rv d44, rv d46, rv w3, iv 0, un]) rfl ?_
                show sT p e below T61 (mkF m 156 #[iv p0, iv p1, iv p2, iv 1, iv r1, iv r2, iv 0, iv 0, iv r3, iv r4, rv d44, rv d46, rv w3, iv 0, un] []) tz
                refine XS.iload X61.here hx rfl (hb hby at_156) rfl ?_
                show sT p e below T61 (mkF m 158 #[iv p0, iv p1, iv p2, iv 1, iv r1, iv r2, iv 0, iv 0, iv r3, iv r4, rv d44, rv d46, rv w3, iv 0, un] [(.int 0)]) tz
                refine XS.ifYes X61.here hx rfl (pc0 := 158) (pc' := 169) rfl (hb hby at_158) rfl ((if0 _ _).trans (teq rfl).1) (by decide) (by decide) ?_
                show sT p e below T61 (mkF m 169 #[iv p0, iv p1, iv p2, iv 1, iv r1, iv r2, iv 0, iv 0, iv r3, iv r4, rv d44, rv d46, rv w3, iv 0, un] []) tz
                refine XS.iloadN X61.here hx rfl (hb hby at_169) rfl ?_
                show sT p e below T61 (mkF m 170 #[iv p0, iv p1, iv p2, iv 1, iv r1, iv r2, iv 0, iv 0, iv r3, iv r4, rv d44, rv d46, rv w3, iv 0, un] [(.int 1)]) tz
                refine XS.iconst X61.here hx rfl (hb hby at_170) ?_
                show sT p e below T61 (mkF m 171 #[iv p0, iv p1, iv p2, iv 1, iv r1, iv r2, iv 0, iv 0, iv r3, iv r4, rv d44, rv d46, rv w3, iv 0, un] [(.int 1), (.int 1)]) tz
                refine XS.icmpNo X61.here hx rfl (hb hby at_171) rfl (teq rfl).2 ?_
                show sT p e below T61 (mkF m 174 #[iv p0, iv p1, iv p2, iv 1, iv r1, iv r2, iv 0, iv 0, iv r3, iv r4, rv d44, rv d46, rv w3, iv 0, un] []) tz
                refine XS.iload X61.here hx rfl (hb hby at_174) rfl ?_
                show sT p e below T61 (mkF m 176 #[iv p0, iv p1, iv p2, iv 1, iv r1, iv r2, iv 0, iv 0, iv r3, iv r4, rv d44, rv d46, rv w3, iv 0, un] [(.int r1)]) tz
                refine XS.bipush X61.here hx rfl (hb hby at_176) ?_
                show sT p e below T61 (mkF m 178 #[iv p0, iv p1, iv p2, iv 1, iv r1, iv r2, iv 0, iv 0, iv r3, iv r4, rv d44, rv d46, rv w3, iv 0, un] [(.int 49), (.int r1)]) tz
                refine XS.icmpYes X61.here hx rfl (pc0 := 178) (pc' := 189) rfl (hb hby at_178) rfl (feq l1).2 (by decide) (by decide) ?_
                show sT p e below T61 (mkF m 189 #[iv p0, iv p1, iv p2, iv 1, iv r1, iv r2, iv 0, iv 0, iv r3, iv r4, rv d44, rv d46, rv w3, iv 0, un] []) tz
                refine XS.iloadN X61.here hx rfl (hb hby at_189) rfl ?_
                show sT p e below T61 (mkF m 190 #[iv p0, iv p1, iv p2, iv 1, iv r1, iv r2, iv 0, iv 0, iv r3, iv r4, rv d44, rv d46, rv w3, iv 0, un] [(.int 1)]) tz
                refine XS.iconst X61.here hx rfl (hb hby at_190) ?_
                show sT p e below T61 (mkF m 191 #[iv p0, iv p1, iv p2, iv 1, iv r1, iv r2, iv 0, iv 0, iv r3, iv r4, rv d44, rv d46, rv w3, iv 0, un] [(.int 1), (.int 1)]) tz
                refine XS.icmpNo X61.here hx rfl (hb hby at_191) rfl (teq rfl).2 ?_
                show sT p e below T61 (mkF m 194 #[iv p0, iv p1, iv p2, iv 1, iv r1, iv r2, iv 0, iv 0, iv r3, iv r4, rv d44, rv d46, rv w3, iv 0, un] []) tz
                refine XS.iload X61.here hx rfl (hb hby at_194) rfl ?_
                show sT p e below T61 (mkF m 196 #[iv p0, iv p1, iv p2, iv 1, iv r1, iv r2, iv 0, iv 0, iv r3, iv r4, rv d44, rv d46, rv w3, iv 0, un] [(.int r1)]) tz
                refine XS.bipush X61.here hx rfl (hb hby at_196) ?_
                show sT p e below T61 (mkF m 198 #[iv p0, iv p1, iv p2, iv 1, iv r1, iv r2, iv 0, iv 0, iv r3, iv r4, rv d44, rv d46, rv w3, iv 0, un] [(.int 50), (.int r1)]) tz
                refine XS.icmpYes X61.here hx rfl (pc0 := 198) (pc' := 209) rfl (hb hby at_198) rfl (feq l2).2 (by decide) (by decide) ?_
                show sT p e below T61 (mkF m 209 #[iv p0, iv p1, iv p2, iv 1, iv r1, iv r2, iv 0, iv 0, iv r3, iv r4, rv d44, rv d46, rv w3, iv 0, un] []) tz
                refine XS.iloadN X61.here hx rfl (hb hby at_209) rfl ?_
                show sT p e below T61 (mkF m 210 #[iv p0, iv p1, iv p2, iv 1, iv r1, iv r2, iv 0, iv 0, iv r3, iv r4, rv d44, rv d46, rv w3, iv 0, un] [(.int 1)]) tz
                refine XS.iconst X61.here hx rfl (hb hby at_210) ?_
                show sT p e below T61 (mkF m 211 #[iv p0, iv p1, iv p2, iv 1, iv r1, iv r2, iv 0, iv 0, iv r3, iv r4, rv d44, rv d46, rv w3, iv 0, un] [(.int 1), (.int 1)]) tz
                refine XS.icmpNo X61.here hx rfl (hb hby at_211) rfl (teq rfl).2 ?_
                show sT p e below T61 (mkF m 214 #[iv p0, iv p1, iv p2, iv 1, iv r1, iv r2, iv 0, iv 0, iv r3, iv r4, rv d44, rv d46, rv w3, iv 0, un] []) tz
                refine XS.iload X61.here hx rfl (hb hby at_214) rfl ?_
                show sT p e below T61 (mkF m 216 #[iv p0, iv p1, iv p2, iv 1, iv r1, iv r2, iv 0, iv 0, iv r3, iv r4, rv d44, rv d46, rv w3, iv 0, un] [(.int r1)]) tz
                refine XS.bipush X61.here hx rfl (hb hby at_216) ?_
                show sT p e below T61 (mkF m 218 #[iv p0, iv p1, iv p2, iv 1, iv r1, iv r2, iv 0, iv 0, iv r3, iv r4, rv d44, rv d46, rv w3, iv 0, un] [(.int 51), (.int r1)]) tz
                refine XS.icmpNo X61.here hx rfl (hb hby at_218) rfl (teq l3).2 ?_
                exact kz
              obtain ⟨T63, X63, e63, st63⟩ := getS2 X61 hx hZ hown (host := "") (Or.inl (own_w hw 86 rfl)) Via.refl rfl (S_LEVEL_3.ext O62.2) (g := (mkF m 221 #[iv p0, iv p1, iv p2, iv 1, iv r1, iv r2, iv 0, iv 0, iv r3, iv r4, rv d44, rv d46, rv w3, iv 0, un] [])) rfl (hb hby at_221)
              refine own_on (B := T63.setTop (mkF m 224 #[iv p0, iv p1, iv p2, iv 1, iv r1, iv r2, iv 0, iv 0, iv r3, iv r4, rv d44, rv d46, rv w3, iv 0, un] [(.ref w3)])) (fun tz kz => st63 _ kz) ?_
              refine own_on (B := T63.setTop (mkF m 244 #[iv p0, iv p1, iv p2, iv 1, iv r1, iv r2, iv 0, iv 0, iv r3, iv r4, rv d44, rv d46, rv w3, iv 0, rv w3] [(.int 1)])) (fun tz kz => ?_) ?_
              · show sT p e below T63 (mkF m 224 #[iv p0, iv p1, iv p2, iv 1, iv r1, iv r2, iv 0, iv 0, iv r3, iv r4, rv d44, rv d46, rv w3, iv 0, un] [(.ref w3)]) tz
                refine XS.astore X63.here hx rfl (hb hby at_224) rfl rfl (l' := #[iv p0, iv p1, iv p2, iv 1, iv r1, iv r2, iv 0, iv 0, iv r3, iv r4, rv d44, rv d46, rv w3, iv 0, rv w3]) rfl ?_
                show sT p e below T63 (mkF m 226 #[iv p0, iv p1, iv p2, iv 1, iv r1, iv r2, iv 0, iv 0, iv r3, iv r4, rv d44, rv d46, rv w3, iv 0, rv w3] []) tz
                refine XS.goto X63.here hx rfl (pc0 := 226) (pc' := 232) rfl (hb hby at_226) (by decide) (by decide) ?_
                show sT p e below T63 (mkF m 232 #[iv p0, iv p1, iv p2, iv 1, iv r1, iv r2, iv 0, iv 0, iv r3, iv r4, rv d44, rv d46, rv w3, iv 0, rv w3] []) tz
                refine XS.aload X63.here hx rfl (hb hby at_232) rfl rfl ?_
                show sT p e below T63 (mkF m 234 #[iv p0, iv p1, iv p2, iv 1, iv r1, iv r2, iv 0, iv 0, iv r3, iv r4, rv d44, rv d46, rv w3, iv 0, rv w3] [(.ref w3)]) tz
                refine XS.aload X63.here hx rfl (hb hby at_234) rfl rfl ?_
                show sT p e below T63 (mkF m 236 #[iv p0, iv p1, iv p2, iv 1, iv r1, iv r2, iv 0, iv 0, iv r3, iv r4, rv d44, rv d46, rv w3, iv 0, rv w3] [(.ref w3), (.ref w3)]) tz
                refine Jvm.RoadKit.acmp (g := (mkF m 236 #[iv p0, iv p1, iv p2, iv 1, iv r1, iv r2, iv 0, iv 0, iv r3, iv r4, rv d44, rv d46, rv w3, iv 0, rv w3] [(.ref w3), (.ref w3)])) X63 hx rfl rfl rfl (pc0 := 236) (pc' := 239) (same := true) rfl (hb hby at_236) rfl (decide_eq_true (congrArg Value.ref rfl)) (by decide) (by decide) ?_
                show sT p e below T63 (mkF m 239 #[iv p0, iv p1, iv p2, iv 1, iv r1, iv r2, iv 0, iv 0, iv r3, iv r4, rv d44, rv d46, rv w3, iv 0, rv w3] []) tz
                refine XS.iconst X63.here hx rfl (hb hby at_239) ?_
                show sT p e below T63 (mkF m 240 #[iv p0, iv p1, iv p2, iv 1, iv r1, iv r2, iv 0, iv 0, iv r3, iv r4, rv d44, rv d46, rv w3, iv 0, rv w3] [(.int 1)]) tz
                refine XS.goto X63.here hx rfl (pc0 := 240) (pc' := 244) rfl (hb hby at_240) (by decide) (by decide) ?_
                exact kz
              obtain ⟨fs, hr, hrun, hended, hRW⟩ := Jvm.Stand.leaveW X63 hS61 (by rw [e63]; exact (Nat.le_refl T61.heap.size)) (v := some (.int (1 : Int32))) (fun h => by rw [Bd.returns] at h; cases h)
              refine own_of ⟨_, _, ?_, hrun, hended, _, _, rfl, ?_, hRW.1, hRW.2.1, hRW.2.2.1, hRW.2.2.2.mono (by decide) (by decide)⟩
              · show sT p e below T63 (mkF m 244 #[iv p0, iv p1, iv p2, iv 1, iv r1, iv r2, iv 0, iv 0, iv r3, iv r4, rv d44, rv d46, rv w3, iv 0, rv w3] [(.int 1)]) _
                exact own_retN X63 hx (t := .boolean) Bd.returns (by simp) (by first | rfl | (split <;> first | rfl | (split <;> first | rfl | (split <;> rfl)))) (hb hby at_244) hr
              · show Q0 Z p0 p1 p2 w0 w1 w2 w3 cS h0 n0 _ T63.heap _
                rw [e63]
                exact ⟨rfl, N61⟩
            · obtain ⟨_, _, ⟨T64, L64, k64, n64⟩, -, X64, ⟨Lc64, hQ64, l64, y64, z64⟩, st64⟩ := Jvm.LawKit.callS X46 hx (y := (⟨"com/example/stackwright/stackwright/Holdings$FairValueLevel", "read", "(Ljava/lang/String;Ljava/lang/String;)Lcom/example/stackwright/stackwright/Holdings$FairValueLevel;"⟩ : MethodName)) hown (mvT hZ (own_w hw 29 rfl)) (mvT hZ (own_w hw 30 rfl)) (mvT hZ (own_w hw 31 rfl)) (mvT hZ (own_w hw 32 rfl)) (by decide) (backOf (W := 0) (rm6o l Z a0 hw [] d44 d46 w0 w1 w2 w3 cS b44 kb44 (nar .byte (r1.toInt8.toInt32)) r1  T46.heap n0 O48 S_NONE S_LEVEL_1 S_LEVEL_2 S_LEVEL_3 S_cs hcS f_50 g_d44 f_51 f_52 f_53 f_54 f_49 (own_by r1 lo1 hi1) l1 l2 l3 (rm7d l Z a0 hw [] d44 d46 cS b44 lb46 (1 : Int32) (0 : Int32) T46.heap n0 O48 S_cs hcS f_50 f_51 f_52 Eq46 Fv46 Fc46 (OwnArz.of f_49) (OwnArz.of Lb46) (by decide) ne_d44_d46) ) hZ (own_w hw 32 rfl) (own_w hw 31 rfl) (by decide) (by decide)) (g := (mkF m 114 #[iv p0, iv p1, iv p2, iv 1, iv r1, iv r2, iv 0, iv 0, iv r3, iv r4, rv d44, rv d46, un, un, un] [(.ref d46), (.ref d44)])) rfl (by rw [hml]; rfl) (argsL := [(.ref d44), (.ref d46)]) (rest := []) (lenOf own_pd14 rfl) rfl (by show 2 * 0 + _ ≤ _; exact Nat.le_of_eq rfl) (hb hby at_114) (fun _ _ => ⟨rfl, rfl, (by decide : 8 + 2 ≤ _), (by decide : 16 + 8 ≤ _)⟩)
              dsimp only [Pt.U, Pt.locs, Pt.cells, Pt.slots] at X64 l64 y64 z64 st64 hQ64
              subst l64 y64 z64
              obtain ⟨rfl, Nq64, Kq64⟩ := hQ64
              have N64 := Fr.app N46 Nq64
              have O65 := O48.keep Kq64 (allS g_d44 all0)
              have K65 : Keep h0 T64.heap [] := K48.trans Kq64 (allS (Or.inr sz_d44) all0)
              refine own_on (B := T64.setTop (mkF m 117 #[iv p0, iv p1, iv p2, iv 1, iv r1, iv r2, iv 0, iv 0, iv r3, iv r4, rv d44, rv d46, un, un, un] [.null])) (fun tz kz => st64 _ kz) ?_
              refine own_on (B := T64.setTop (mkF m 244 #[iv p0, iv p1, iv p2, iv 1, iv r1, iv r2, iv 0, iv 0, iv r3, iv r4, rv d44, rv d46, .val .null, iv 0, .val .null] [(.int 1)])) (fun tz kz => ?_) ?_
              · show sT p e below T64 (mkF m 117 #[iv p0, iv p1, iv p2, iv 1, iv r1, iv r2, iv 0, iv 0, iv r3, iv r4, rv d44, rv d46, un, un, un] [.null]) tz
                refine XS.astore X64.here hx rfl (hb hby at_117) rfl rfl (l' := #[iv p0, iv p1, iv p2, iv 1, iv r1, iv r2, iv 0, iv 0, iv r3, iv r4, rv d44, rv d46, .val .null, un, un]) rfl ?_
                show sT p e below T64 (mkF m 119 #[iv p0, iv p1, iv p2, iv 1, iv r1, iv r2, iv 0, iv 0, iv r3, iv r4, rv d44, rv d46, .val .null, un, un] []) tz
                refine XS.iloadN X64.here hx rfl (hb hby at_119) rfl ?_
                show sT p e below T64 (mkF m 120 #[iv p0, iv p1, iv p2, iv 1, iv r1, iv r2, iv 0, iv 0, iv r3, iv r4, rv d44, rv d46, .val .null, un, un] [(.int 1)]) tz
                refine XS.iload X64.here hx rfl (hb hby at_120) rfl ?_
                show sT p e below T64 (mkF m 122 #[iv p0, iv p1, iv p2, iv 1, iv r1, iv r2, iv 0, iv 0, iv r3, iv r4, rv d44, rv d46, .val .null, un, un] [(.int 0), (.int 1)]) tz
                refine XS.icmpYes X64.here hx rfl (pc0 := 122) (pc' := 153) rfl (hb hby at_122) rfl (feq (by decide : ¬ ((1 : Int32) = (0 : Int32)))).2 (by decide) (by decide) ?_
                show sT p e below T64 (mkF m 153 #[iv p0, iv p1, iv p2, iv 1, iv r1, iv r2, iv 0, iv 0, iv r3, iv r4, rv d44, rv d46, .val .null, un, un] []) tz
                refine XS.iconst X64.here hx rfl (hb hby at_153) ?_
                show sT p e below T64 (mkF m 154 #[iv p0, iv p1, iv p2, iv 1, iv r1, iv r2, iv 0, iv 0, iv r3, iv r4, rv d44, rv d46, .val .null, un, un] [(.int 0)]) tz
                refine XS.istore X64.here hx rfl (hb hby at_154) rfl (l' := #[iv p0, iv p1, iv p2, iv 1, iv r1, iv r2, iv 0, iv 0, iv r3, iv r4, rv d44, rv d46, .val .null, iv 0, un]) rfl ?_
                show sT p e below T64 (mkF m 156 #[iv p0, iv p1, iv p2, iv 1, iv r1, iv r2, iv 0, iv 0, iv r3, iv r4, rv d44, rv d46, .val .null, iv 0, un] []) tz
                refine XS.iload X64.here hx rfl (hb hby at_156) rfl ?_
                show sT p e below T64 (mkF m 158 #[iv p0, iv p1, iv p2, iv 1, iv r1, iv r2, iv 0, iv 0, iv r3, iv r4, rv d44, rv d46, .val .null, iv 0, un] [(.int 0)]) tz
                refine XS.ifYes X64.here hx rfl (pc0 := 158) (pc' := 169) rfl (hb hby at_158) rfl ((if0 _ _).trans (teq rfl).1) (by decide) (by decide) ?_
                show sT p e below T64 (mkF m 169 #[iv p0, iv p1, iv p2, iv 1, iv r1, iv r2, iv 0, iv 0, iv r3, iv r4, rv d44, rv d46, .val .null, iv 0, un] []) tz
                refine XS.iloadN X64.here hx rfl (hb hby at_169) rfl ?_
                show sT p e below T64 (mkF m 170 #[iv p0, iv p1, iv p2, iv 1, iv r1, iv r2, iv 0, iv 0, iv r3, iv r4, rv d44, rv d46, .val .null, iv 0, un] [(.int 1)]) tz
                refine XS.iconst X64.here hx rfl (hb hby at_170) ?_
                show sT p e below T64 (mkF m 171 #[iv p0, iv p1, iv p2, iv 1, iv r1, iv r2, iv 0, iv 0, iv r3, iv r4, rv d44, rv d46, .val .null, iv 0, un] [(.int 1), (.int 1)]) tz
                refine XS.icmpNo X64.here hx rfl (hb hby at_171) rfl (teq rfl).2 ?_
                show sT p e below T64 (mkF m 174 #[iv p0, iv p1, iv p2, iv 1, iv r1, iv r2, iv 0, iv 0, iv r3, iv r4, rv d44, rv d46, .val .null, iv 0, un] []) tz
                refine XS.iload X64.here hx rfl (hb hby at_174) rfl ?_
                show sT p e below T64 (mkF m 176 #[iv p0, iv p1, iv p2, iv 1, iv r1, iv r2, iv 0, iv 0, iv r3, iv r4, rv d44, rv d46, .val .null, iv 0, un] [(.int r1)]) tz
                refine XS.bipush X64.here hx rfl (hb hby at_176) ?_
                show sT p e below T64 (mkF m 178 #[iv p0, iv p1, iv p2, iv 1, iv r1, iv r2, iv 0, iv 0, iv r3, iv r4, rv d44, rv d46, .val .null, iv 0, un] [(.int 49), (.int r1)]) tz
                refine XS.icmpYes X64.here hx rfl (pc0 := 178) (pc' := 189) rfl (hb hby at_178) rfl (feq l1).2 (by decide) (by decide) ?_
                show sT p e below T64 (mkF m 189 #[iv p0, iv p1, iv p2, iv 1, iv r1, iv r2, iv 0, iv 0, iv r3, iv r4, rv d44, rv d46, .val .null, iv 0, un] []) tz
                refine XS.iloadN X64.here hx rfl (hb hby at_189) rfl ?_
                show sT p e below T64 (mkF m 190 #[iv p0, iv p1, iv p2, iv 1, iv r1, iv r2, iv 0, iv 0, iv r3, iv r4, rv d44, rv d46, .val .null, iv 0, un] [(.int 1)]) tz
                refine XS.iconst X64.here hx rfl (hb hby at_190) ?_
                show sT p e below T64 (mkF m 191 #[iv p0, iv p1, iv p2, iv 1, iv r1, iv r2, iv 0, iv 0, iv r3, iv r4, rv d44, rv d46, .val .null, iv 0, un] [(.int 1), (.int 1)]) tz
                refine XS.icmpNo X64.here hx rfl (hb hby at_191) rfl (teq rfl).2 ?_
                show sT p e below T64 (mkF m 194 #[iv p0, iv p1, iv p2, iv 1, iv r1, iv r2, iv 0, iv 0, iv r3, iv r4, rv d44, rv d46, .val .null, iv 0, un] []) tz
                refine XS.iload X64.here hx rfl (hb hby at_194) rfl ?_
                show sT p e below T64 (mkF m 196 #[iv p0, iv p1, iv p2, iv 1, iv r1, iv r2, iv 0, iv 0, iv r3, iv r4, rv d44, rv d46, .val .null, iv 0, un] [(.int r1)]) tz
                refine XS.bipush X64.here hx rfl (hb hby at_196) ?_
                show sT p e below T64 (mkF m 198 #[iv p0, iv p1, iv p2, iv 1, iv r1, iv r2, iv 0, iv 0, iv r3, iv r4, rv d44, rv d46, .val .null, iv 0, un] [(.int 50), (.int r1)]) tz
                refine XS.icmpYes X64.here hx rfl (pc0 := 198) (pc' := 209) rfl (hb hby at_198) rfl (feq l2).2 (by decide) (by decide) ?_
                show sT p e below T64 (mkF m 209 #[iv p0, iv p1, iv p2, iv 1, iv r1, iv r2, iv 0, iv 0, iv r3, iv r4, rv d44, rv d46, .val .null, iv 0, un] []) tz
                refine XS.iloadN X64.here hx rfl (hb hby at_209) rfl ?_
                show sT p e below T64 (mkF m 210 #[iv p0, iv p1, iv p2, iv 1, iv r1, iv r2, iv 0, iv 0, iv r3, iv r4, rv d44, rv d46, .val .null, iv 0, un] [(.int 1)]) tz
                refine XS.iconst X64.here hx rfl (hb hby at_210) ?_
                show sT p e below T64 (mkF m 211 #[iv p0, iv p1, iv p2, iv 1, iv r1, iv r2, iv 0, iv 0, iv r3, iv r4, rv d44, rv d46, .val .null, iv 0, un] [(.int 1), (.int 1)]) tz
                refine XS.icmpNo X64.here hx rfl (hb hby at_211) rfl (teq rfl).2 ?_
                show sT p e below T64 (mkF m 214 #[iv p0, iv p1, iv p2, iv 1, iv r1, iv r2, iv 0, iv 0, iv r3, iv r4, rv d44, rv d46, .val .null, iv 0, un] []) tz
                refine XS.iload X64.here hx rfl (hb hby at_214) rfl ?_
                show sT p e below T64 (mkF m 216 #[iv p0, iv p1, iv p2, iv 1, iv r1, iv r2, iv 0, iv 0, iv r3, iv r4, rv d44, rv d46, .val .null, iv 0, un] [(.int r1)]) tz
                refine XS.bipush X64.here hx rfl (hb hby at_216) ?_
                show sT p e below T64 (mkF m 218 #[iv p0, iv p1, iv p2, iv 1, iv r1, iv r2, iv 0, iv 0, iv r3, iv r4, rv d44, rv d46, .val .null, iv 0, un] [(.int 51), (.int r1)]) tz
                refine XS.icmpYes X64.here hx rfl (pc0 := 218) (pc' := 229) rfl (hb hby at_218) rfl (feq l3).2 (by decide) (by decide) ?_
                show sT p e below T64 (mkF m 229 #[iv p0, iv p1, iv p2, iv 1, iv r1, iv r2, iv 0, iv 0, iv r3, iv r4, rv d44, rv d46, .val .null, iv 0, un] []) tz
                refine XS.aconstNull X64.here hx rfl (hb hby at_229) ?_
                show sT p e below T64 (mkF m 230 #[iv p0, iv p1, iv p2, iv 1, iv r1, iv r2, iv 0, iv 0, iv r3, iv r4, rv d44, rv d46, .val .null, iv 0, un] [.null]) tz
                refine XS.astore X64.here hx rfl (hb hby at_230) rfl rfl (l' := #[iv p0, iv p1, iv p2, iv 1, iv r1, iv r2, iv 0, iv 0, iv r3, iv r4, rv d44, rv d46, .val .null, iv 0, .val .null]) rfl ?_
                show sT p e below T64 (mkF m 232 #[iv p0, iv p1, iv p2, iv 1, iv r1, iv r2, iv 0, iv 0, iv r3, iv r4, rv d44, rv d46, .val .null, iv 0, .val .null] []) tz
                refine XS.aload X64.here hx rfl (hb hby at_232) rfl rfl ?_
                show sT p e below T64 (mkF m 234 #[iv p0, iv p1, iv p2, iv 1, iv r1, iv r2, iv 0, iv 0, iv r3, iv r4, rv d44, rv d46, .val .null, iv 0, .val .null] [.null]) tz
                refine XS.aload X64.here hx rfl (hb hby at_234) rfl rfl ?_
                show sT p e below T64 (mkF m 236 #[iv p0, iv p1, iv p2, iv 1, iv r1, iv r2, iv 0, iv 0, iv r3, iv r4, rv d44, rv d46, .val .null, iv 0, .val .null] [.null, .null]) tz
                refine Jvm.RoadKit.acmp (g := (mkF m 236 #[iv p0, iv p1, iv p2, iv 1, iv r1, iv r2, iv 0, iv 0, iv r3, iv r4, rv d44, rv d46, .val .null, iv 0, .val .null] [.null, .null])) X64 hx rfl rfl rfl (pc0 := 236) (pc' := 239) (same := true) rfl (hb hby at_236) rfl (decide_eq_true rfl) (by decide) (by decide) ?_
                show sT p e below T64 (mkF m 239 #[iv p0, iv p1, iv p2, iv 1, iv r1, iv r2, iv 0, iv 0, iv r3, iv r4, rv d44, rv d46, .val .null, iv 0, .val .null] []) tz
                refine XS.iconst X64.here hx rfl (hb hby at_239) ?_
                show sT p e below T64 (mkF m 240 #[iv p0, iv p1, iv p2, iv 1, iv r1, iv r2, iv 0, iv 0, iv r3, iv r4, rv d44, rv d46, .val .null, iv 0, .val .null] [(.int 1)]) tz
                refine XS.goto X64.here hx rfl (pc0 := 240) (pc' := 244) rfl (hb hby at_240) (by decide) (by decide) ?_
                exact kz
              have f_66 := (Nat.le_trans (Nat.le_refl T46.heap.size) Kq64.1)
              obtain ⟨fs, hr, hrun, hended, hRW⟩ := Jvm.Stand.leaveW X64 hS46 (f_66) (v := some (.int (1 : Int32))) (fun h => by rw [Bd.returns] at h; cases h)
              refine own_of ⟨_, _, ?_, hrun, hended, _, _, rfl, ?_, hRW.1, hRW.2.1, hRW.2.2.1, hRW.2.2.2.mono (by decide) (by decide)⟩
              · show sT p e below T64 (mkF m 244 #[iv p0, iv p1, iv p2, iv 1, iv r1, iv r2, iv 0, iv 0, iv r3, iv r4, rv d44, rv d46, .val .null, iv 0, .val .null] [(.int 1)]) _
                exact own_retN X64 hx (t := .boolean) Bd.returns (by simp) (by first | rfl | (split <;> first | rfl | (split <;> first | rfl | (split <;> rfl)))) (hb hby at_244) hr
              · show Q0 Z p0 p1 p2 w0 w1 w2 w3 cS h0 n0 _ T64.heap _
                exact ⟨rfl, N64⟩
      · refine own_on (B := T4.setTop (mkF m 94 #[iv p0, iv p1, iv p2, iv 1, iv r1, iv r2, iv 0, iv 1, iv r3, iv r4, un, un, un, un, un] [(.int r2), (.int r1), (.int 1)])) (fun tz kz => ?_) ?_
        · show sT p e below T4 (mkF m 89 #[iv p0, iv p1, iv p2, iv 1, iv r1, iv r2, iv 0, iv 1, iv r3, iv r4, un, un, un, un, un] []) tz
          refine XS.iloadN X4.here hx rfl (hb hby at_89) rfl ?_
          show sT p e below T4 (mkF m 90 #[iv p0, iv p1, iv p2, iv 1, iv r1, iv r2, iv 0, iv 1, iv r3, iv r4, un, un, un, un, un] [(.int 1)]) tz
          refine XS.iload X4.here hx rfl (hb hby at_90) rfl ?_
          show sT p e below T4 (mkF m 92 #[iv p0, iv p1, iv p2, iv 1, iv r1, iv r2, iv 0, iv 1, iv r3, iv r4, un, un, un, un, un] [(.int r1), (.int 1)]) tz
          refine XS.iload X4.here hx rfl (hb hby at_92) rfl ?_
          exact kz
        obtain ⟨_, _, ⟨T67, L67, k67, n67⟩, -, X67, ⟨Lc67, hQ67, l67, y67, z67⟩, st67⟩ := Jvm.LawKit.callS X4 hx (y := (⟨"com/example/stackwright/stackwright/FairValueLevelReadPinLaw", "make", "(ICC)Ljava/lang/String;"⟩ : MethodName)) hown (mvT hZ (own_w hw 4 rfl)) (mvT hZ (own_w hw 5 rfl)) (mvT hZ (own_w hw 2 rfl)) (mvT hZ (own_w hw 6 rfl)) (by decide) (backOf (W := 0) (rm2a l Z a0 hw [] r1 r2 cS h0 n0 O0 S_cs hcS lo1 hi1) hZ (own_w hw 6 rfl) (own_w hw 2 rfl) (by decide) (by decide)) (g := (mkF m 94 #[iv p0, iv p1, iv p2, iv 1, iv r1, iv r2, iv 0, iv 1, iv r3, iv r4, un, un, un, un, un] [(.int r2), (.int r1), (.int 1)])) rfl (by rw [hml]; rfl) (argsL := [(.int (1 : Int32)), (.int r1), (.int r2)]) (rest := []) (lenOf own_pd13 rfl) rfl (by show 2 * 0 + _ ≤ _; exact Nat.le_of_eq rfl) (hb hby at_94) (fun _ _ => ⟨rfl, eq4, (by decide : 0 + 4 ≤ _), (by decide : 0 + 8 ≤ _)⟩)
        dsimp only [Pt.U, Pt.locs, Pt.cells, Pt.slots] at X67 l67 y67 z67 st67 hQ67
        subst l67 y67 z67
        obtain ⟨d67, b67, kb67, rfl, Nq67, Kq67, zq67, Eq67, Fv67, Fc67, Fh67, Fz67, Eb67, Vb67⟩ := hQ67
        have N67 := Fr.app N4 Nq67
        have g_d67 : n0 ≤ d67 := Nat.le_trans (own_old O0) zq67
        have sz_d67 : h0.size ≤ d67 := Nat.le_trans (Keep.refl h0 []).1 zq67
        have O68 := O0.keep Kq67 all0
        have K68 : Keep h0 T67.heap [] := (Keep.refl h0 []).trans Kq67 all0
        refine own_on (B := T67.setTop (mkF m 97 #[iv p0, iv p1, iv p2, iv 1, iv r1, iv r2, iv 0, iv 1, iv r3, iv r4, un, un, un, un, un] [(.ref d67)])) (fun tz kz => st67 _ kz) ?_
        refine own_on (B := T67.setTop (mkF m 105 #[iv p0, iv p1, iv p2, iv 1, iv r1, iv r2, iv 0, iv 1, iv r3, iv r4, rv d67, un, un, un, un] [(.int r4), (.int r3), (.int 1)])) (fun tz kz => ?_) ?_
        · show sT p e below T67 (mkF m 97 #[iv p0, iv p1, iv p2, iv 1, iv r1, iv r2, iv 0, iv 1, iv r3, iv r4, un, un, un, un, un] [(.ref d67)]) tz
          refine XS.astore X67.here hx rfl (hb hby at_97) rfl rfl (l' := #[iv p0, iv p1, iv p2, iv 1, iv r1, iv r2, iv 0, iv 1, iv r3, iv r4, rv d67, un, un, un, un]) rfl ?_
          show sT p e below T67 (mkF m 99 #[iv p0, iv p1, iv p2, iv 1, iv r1, iv r2, iv 0, iv 1, iv r3, iv r4, rv d67, un, un, un, un] []) tz
          refine XS.iload X67.here hx rfl (hb hby at_99) rfl ?_
          show sT p e below T67 (mkF m 101 #[iv p0, iv p1, iv p2, iv 1, iv r1, iv r2, iv 0, iv 1, iv r3, iv r4, rv d67, un, un, un, un] [(.int 1)]) tz
          refine XS.iload X67.here hx rfl (hb hby at_101) rfl ?_
          show sT p e below T67 (mkF m 103 #[iv p0, iv p1, iv p2, iv 1, iv r1, iv r2, iv 0, iv 1, iv r3, iv r4, rv d67, un, un, un, un] [(.int r3), (.int 1)]) tz
          refine XS.iload X67.here hx rfl (hb hby at_103) rfl ?_
          exact kz
        obtain ⟨_, _, ⟨T69, L69, k69, n69⟩, -, X69, ⟨Lc69, hQ69, l69, y69, z69⟩, st69⟩ := Jvm.LawKit.callS X67 hx (y := (⟨"com/example/stackwright/stackwright/FairValueLevelReadPinLaw", "make", "(ICC)Ljava/lang/String;"⟩ : MethodName)) hown (mvT hZ (own_w hw 4 rfl)) (mvT hZ (own_w hw 5 rfl)) (mvT hZ (own_w hw 2 rfl)) (mvT hZ (own_w hw 6 rfl)) (by decide) (backOf (W := 0) (rm2a l Z a0 hw [] r3 r4 cS T67.heap n0 O68 S_cs hcS lo3 hi3) hZ (own_w hw 6 rfl) (own_w hw 2 rfl) (by decide) (by decide)) (g := (mkF m 105 #[iv p0, iv p1, iv p2, iv 1, iv r1, iv r2, iv 0, iv 1, iv r3, iv r4, rv d67, un, un, un, un] [(.int r4), (.int r3), (.int 1)])) rfl (by rw [hml]; rfl) (argsL := [(.int (1 : Int32)), (.int r3), (.int r4)]) (rest := []) (lenOf own_pd13 rfl) rfl (by show 2 * 0 + _ ≤ _; exact Nat.le_of_eq rfl) (hb hby at_105) (fun _ _ => ⟨rfl, rfl, (by decide : 4 + 4 ≤ _), (by decide : 8 + 8 ≤ _)⟩)
        dsimp only [Pt.U, Pt.locs, Pt.cells, Pt.slots] at X69 l69 y69 z69 st69 hQ69
        subst l69 y69 z69
        obtain ⟨d69, b69, kb69, rfl, Nq69, Kq69, zq69, Eq69, Fv69, Fc69, Fh69, Fz69, Eb69, Vb69⟩ := hQ69
        have N69 := Fr.app N67 Nq69
        have ne_b67_d69 : b67 ≠ d69 := Nat.ne_of_lt (Nat.lt_of_lt_of_le (Eb67).lt zq69)
        have ne_d67_d69 : d67 ≠ d69 := Nat.ne_of_lt (Nat.lt_of_lt_of_le (Eq67).lt zq69)
        have g_d69 : n0 ≤ d69 := Nat.le_trans (own_old O68) zq69
        have sz_d69 : h0.size ≤ d69 := Nat.le_trans K68.1 zq69
        have O70 := O68.keep Kq69 all0
        have K70 : Keep h0 T69.heap [] := K68.trans Kq69 all0
        refine own_on (B := T69.setTop (mkF m 108 #[iv p0, iv p1, iv p2, iv 1, iv r1, iv r2, iv 0, iv 1, iv r3, iv r4, rv d67, un, un, un, un] [(.ref d69)])) (fun tz kz => st69 _ kz) ?_
        refine own_on (B := T69.setTop (mkF m 114 #[iv p0, iv p1, iv p2, iv 1, iv r1, iv r2, iv 0, iv 1, iv r3, iv r4, rv d67, rv d69, un, un, un] [(.ref d69), (.ref d67)])) (fun tz kz => ?_) ?_
        · show sT p e below T69 (mkF m 108 #[iv p0, iv p1, iv p2, iv 1, iv r1, iv r2, iv 0, iv 1, iv r3, iv r4, rv d67, un, un, un, un] [(.ref d69)]) tz
          refine XS.astore X69.here hx rfl (hb hby at_108) rfl rfl (l' := #[iv p0, iv p1, iv p2, iv 1, iv r1, iv r2, iv 0, iv 1, iv r3, iv r4, rv d67, rv d69, un, un, un]) rfl ?_
          show sT p e below T69 (mkF m 110 #[iv p0, iv p1, iv p2, iv 1, iv r1, iv r2, iv 0, iv 1, iv r3, iv r4, rv d67, rv d69, un, un, un] []) tz
          refine XS.aload X69.here hx rfl (hb hby at_110) rfl rfl ?_
          show sT p e below T69 (mkF m 112 #[iv p0, iv p1, iv p2, iv 1, iv r1, iv r2, iv 0, iv 1, iv r3, iv r4, rv d67, rv d69, un, un, un] [(.ref d67)]) tz
          refine XS.aload X69.here hx rfl (hb hby at_112) rfl rfl ?_
          exact kz
        by_cases e0_ : r1 = r3
        · have f_71 := (Vb67.keep Kq69 nin0)
          have Vr : Arv Z T69.heap b69 kb69 .byte (1 : Int32) [(.int (nar .byte (r1.toInt8.toInt32)))] (.int 0) := by have q := Vb69; rw [← e0_] at q; exact q
          have f_72 := (Eq67.keep Kq69)
          have f_73 := (Fv67.keep Kq69 nin0)
          have f_74 := (Fc67.keep Kq69 nin0)
          obtain ⟨_, _, ⟨T75, L75, k75, n75⟩, -, X75, ⟨Lc75, hQ75, l75, y75, z75⟩, st75⟩ := Jvm.LawKit.callS X69 hx (y := (⟨"com/example/stackwright/stackwright/Holdings$FairValueLevel", "read", "(Ljava/lang/String;Ljava/lang/String;)Lcom/example/stackwright/stackwright/Holdings$FairValueLevel;"⟩ : MethodName)) hown (mvT hZ (own_w hw 29 rfl)) (mvT hZ (own_w hw 30 rfl)) (mvT hZ (own_w hw 31 rfl)) (mvT hZ (own_w hw 32 rfl)) (by decide) (backOf (W := 0) (rm6e l Z a0 hw [] d67 d69 w0 w1 w2 w3 T69.heap n0 O70 S_NONE S_LEVEL_1 S_LEVEL_2 S_LEVEL_3 f_72 (rm7a l Z a0 hw [] d67 d69 cS b67 b69 kb67 kb69 (nar .byte (r1.toInt8.toInt32)) T69.heap n0 O70 S_cs hcS f_72 f_73 f_74 Eq69 Fv69 Fc69 f_71 Vr )) hZ (own_w hw 32 rfl) (own_w hw 31 rfl) (by decide) (by decide)) (g := (mkF m 114 #[iv p0, iv p1, iv p2, iv 1, iv r1, iv r2, iv 0, iv 1, iv r3, iv r4, rv d67, rv d69, un, un, un] [(.ref d69), (.ref d67)])) rfl (by rw [hml]; rfl) (argsL := [(.ref d67), (.ref d69)]) (rest := []) (lenOf own_pd14 rfl) rfl (by show 2 * 0 + _ ≤ _; exact Nat.le_of_eq rfl) (hb hby at_114) (fun _ _ => ⟨rfl, rfl, (by decide : 8 + 2 ≤ _), (by decide : 16 + 8 ≤ _)⟩)
          dsimp only [Pt.U, Pt.locs, Pt.cells, Pt.slots] at X75 l75 y75 z75 st75 hQ75
          subst l75 y75 z75
          obtain ⟨rfl, Nq75, e75⟩ := hQ75
          have N75 := Fr.app N69 Nq75
          refine own_on (B := T75.setTop (mkF m 117 #[iv p0, iv p1, iv p2, iv 1, iv r1, iv r2, iv 0, iv 1, iv r3, iv r4, rv d67, rv d69, un, un, un] [(.ref w0)])) (fun tz kz => st75 _ kz) ?_
          refine own_on (B := T75.setTop (mkF m 161 #[iv p0, iv p1, iv p2, iv 1, iv r1, iv r2, iv 0, iv 1, iv r3, iv r4, rv d67, rv d69, rv w0, iv 1, un] [])) (fun tz kz => ?_) ?_
          · show sT p e below T75 (mkF m 117 #[iv p0, iv p1, iv p2, iv 1, iv r1, iv r2, iv 0, iv 1, iv r3, iv r4, rv d67, rv d69, un, un, un] [(.ref w0)]) tz
            refine XS.astore X75.here hx rfl (hb hby at_117) rfl rfl (l' := #[iv p0, iv p1, iv p2, iv 1, iv r1, iv r2, iv 0, iv 1, iv r3, iv r4, rv d67, rv d69, rv w0, un, un]) rfl ?_
            show sT p e below T75 (mkF m 119 #[iv p0, iv p1, iv p2, iv 1, iv r1, iv r2, iv 0, iv 1, iv r3, iv r4, rv d67, rv d69, rv w0, un, un] []) tz
            refine XS.iloadN X75.here hx rfl (hb hby at_119) rfl ?_
            show sT p e below T75 (mkF m 120 #[iv p0, iv p1, iv p2, iv 1, iv r1, iv r2, iv 0, iv 1, iv r3, iv r4, rv d67, rv d69, rv w0, un, un] [(.int 1)]) tz
            refine XS.iload X75.here hx rfl (hb hby at_120) rfl ?_
            show sT p e below T75 (mkF m 122 #[iv p0, iv p1, iv p2, iv 1, iv r1, iv r2, iv 0, iv 1, iv r3, iv r4, rv d67, rv d69, rv w0, un, un] [(.int 1), (.int 1)]) tz
            refine XS.icmpNo X75.here hx rfl (hb hby at_122) rfl (teq rfl).2 ?_
            show sT p e below T75 (mkF m 125 #[iv p0, iv p1, iv p2, iv 1, iv r1, iv r2, iv 0, iv 1, iv r3, iv r4, rv d67, rv d69, rv w0, un, un] []) tz
            refine XS.iloadN X75.here hx rfl (hb hby at_125) rfl ?_
            show sT p e below T75 (mkF m 126 #[iv p0, iv p1, iv p2, iv 1, iv r1, iv r2, iv 0, iv 1, iv r3, iv r4, rv d67, rv d69, rv w0, un, un] [(.int 1)]) tz
            refine XS.iconst X75.here hx rfl (hb hby at_126) ?_
            show sT p e below T75 (mkF m 127 #[iv p0, iv p1, iv p2, iv 1, iv r1, iv r2, iv 0, iv 1, iv r3, iv r4, rv d67, rv d69, rv w0, un, un] [(.int 1), (.int 1)]) tz
            refine XS.icmpNo X75.here hx rfl (hb hby at_127) rfl (flt Int32.lt_irrefl).1 ?_
            show sT p e below T75 (mkF m 130 #[iv p0, iv p1, iv p2, iv 1, iv r1, iv r2, iv 0, iv 1, iv r3, iv r4, rv d67, rv d69, rv w0, un, un] []) tz
            refine XS.iload X75.here hx rfl (hb hby at_130) rfl ?_
            show sT p e below T75 (mkF m 132 #[iv p0, iv p1, iv p2, iv 1, iv r1, iv r2, iv 0, iv 1, iv r3, iv r4, rv d67, rv d69, rv w0, un, un] [(.int r1)]) tz
            refine XS.iload X75.here hx rfl (hb hby at_132) rfl ?_
            show sT p e below T75 (mkF m 134 #[iv p0, iv p1, iv p2, iv 1, iv r1, iv r2, iv 0, iv 1, iv r3, iv r4, rv d67, rv d69, rv w0, un, un] [(.int r3), (.int r1)]) tz
            refine XS.icmpNo X75.here hx rfl (hb hby at_134) rfl (teq e0_).2 ?_
            show sT p e below T75 (mkF m 137 #[iv p0, iv p1, iv p2, iv 1, iv r1, iv r2, iv 0, iv 1, iv r3, iv r4, rv d67, rv d69, rv w0, un, un] []) tz
            refine XS.iloadN X75.here hx rfl (hb hby at_137) rfl ?_
            show sT p e below T75 (mkF m 138 #[iv p0, iv p1, iv p2, iv 1, iv r1, iv r2, iv 0, iv 1, iv r3, iv r4, rv d67, rv d69, rv w0, un, un] [(.int 1)]) tz
            refine XS.iconst X75.here hx rfl (hb hby at_138) ?_
            show sT p e below T75 (mkF m 139 #[iv p0, iv p1, iv p2, iv 1, iv r1, iv r2, iv 0, iv 1, iv r3, iv r4, rv d67, rv d69, rv w0, un, un] [(.int 2), (.int 1)]) tz
            refine XS.icmpYes X75.here hx rfl (pc0 := 139) (pc' := 149) rfl (hb hby at_139) rfl (tlt (by decide : (1 : Int32) < (2 : Int32))).1 (by decide) (by decide) ?_
            show sT p e below T75 (mkF m 149 #[iv p0, iv p1, iv p2, iv 1, iv r1, iv r2, iv 0, iv 1, iv r3, iv r4, rv d67, rv d69, rv w0, un, un] []) tz
            refine XS.iconst X75.here hx rfl (hb hby at_149) ?_
            show sT p e below T75 (mkF m 150 #[iv p0, iv p1, iv p2, iv 1, iv r1, iv r2, iv 0, iv 1, iv r3, iv r4, rv d67, rv d69, rv w0, un, un] [(.int 1)]) tz
            refine XS.goto X75.here hx rfl (pc0 := 150) (pc' := 154) rfl (hb hby at_150) (by decide) (by decide) ?_
            show sT p e below T75 (mkF m 154 #[iv p0, iv p1, iv p2, iv 1, iv r1, iv r2, iv 0, iv 1, iv r3, iv r4, rv d67, rv d69, rv w0, un, un] [(.int 1)]) tz
            refine XS.istore X75.here hx rfl (hb hby at_154) rfl (l' := #[iv p0, iv p1, iv p2, iv 1, iv r1, iv r2, iv 0, iv 1, iv r3, iv r4, rv d67, rv d69, rv w0, iv 1, un]) rfl ?_
            show sT p e below T75 (mkF m 156 #[iv p0, iv p1, iv p2, iv 1, iv r1, iv r2, iv 0, iv 1, iv r3, iv r4, rv d67, rv d69, rv w0, iv 1, un] []) tz
            refine XS.iload X75.here hx rfl (hb hby at_156) rfl ?_
            show sT p e below T75 (mkF m 158 #[iv p0, iv p1, iv p2, iv 1, iv r1, iv r2, iv 0, iv 1, iv r3, iv r4, rv d67, rv d69, rv w0, iv 1, un] [(.int 1)]) tz
            refine XS.ifNo X75.here hx rfl (hb hby at_158) rfl ((if0 _ _).trans (feq (by decide : ¬ ((1 : Int32) = (0 : Int32)))).1) ?_
            exact kz
          obtain ⟨T76, X76, e76, st76⟩ := getS2 X75 hx hZ hown (host := "") (Or.inl (own_w hw 46 rfl)) Via.refl e75 (S_NONE.ext O70.2) (g := (mkF m 161 #[iv p0, iv p1, iv p2, iv 1, iv r1, iv r2, iv 0, iv 1, iv r3, iv r4, rv d67, rv d69, rv w0, iv 1, un] [])) rfl (hb hby at_161)
          refine own_on (B := T76.setTop (mkF m 164 #[iv p0, iv p1, iv p2, iv 1, iv r1, iv r2, iv 0, iv 1, iv r3, iv r4, rv d67, rv d69, rv w0, iv 1, un] [(.ref w0)])) (fun tz kz => st76 _ kz) ?_
          refine own_on (B := T76.setTop (mkF m 244 #[iv p0, iv p1, iv p2, iv 1, iv r1, iv r2, iv 0, iv 1, iv r3, iv r4, rv d67, rv d69, rv w0, iv 1, rv w0] [(.int 1)])) (fun tz kz => ?_) ?_
          · show sT p e below T76 (mkF m 164 #[iv p0, iv p1, iv p2, iv 1, iv r1, iv r2, iv 0, iv 1, iv r3, iv r4, rv d67, rv d69, rv w0, iv 1, un] [(.ref w0)]) tz
            refine XS.astore X76.here hx rfl (hb hby at_164) rfl rfl (l' := #[iv p0, iv p1, iv p2, iv 1, iv r1, iv r2, iv 0, iv 1, iv r3, iv r4, rv d67, rv d69, rv w0, iv 1, rv w0]) rfl ?_
            show sT p e below T76 (mkF m 166 #[iv p0, iv p1, iv p2, iv 1, iv r1, iv r2, iv 0, iv 1, iv r3, iv r4, rv d67, rv d69, rv w0, iv 1, rv w0] []) tz
            refine XS.goto X76.here hx rfl (pc0 := 166) (pc' := 232) rfl (hb hby at_166) (by decide) (by decide) ?_
            show sT p e below T76 (mkF m 232 #[iv p0, iv p1, iv p2, iv 1, iv r1, iv r2, iv 0, iv 1, iv r3, iv r4, rv d67, rv d69, rv w0, iv 1, rv w0] []) tz
            refine XS.aload X76.here hx rfl (hb hby at_232) rfl rfl ?_
            show sT p e below T76 (mkF m 234 #[iv p0, iv p1, iv p2, iv 1, iv r1, iv r2, iv 0, iv 1, iv r3, iv r4, rv d67, rv d69, rv w0, iv 1, rv w0] [(.ref w0)]) tz
            refine XS.aload X76.here hx rfl (hb hby at_234) rfl rfl ?_
            show sT p e below T76 (mkF m 236 #[iv p0, iv p1, iv p2, iv 1, iv r1, iv r2, iv 0, iv 1, iv r3, iv r4, rv d67, rv d69, rv w0, iv 1, rv w0] [(.ref w0), (.ref w0)]) tz
            refine Jvm.RoadKit.acmp (g := (mkF m 236 #[iv p0, iv p1, iv p2, iv 1, iv r1, iv r2, iv 0, iv 1, iv r3, iv r4, rv d67, rv d69, rv w0, iv 1, rv w0] [(.ref w0), (.ref w0)])) X76 hx rfl rfl rfl (pc0 := 236) (pc' := 239) (same := true) rfl (hb hby at_236) rfl (decide_eq_true (congrArg Value.ref rfl)) (by decide) (by decide) ?_
            show sT p e below T76 (mkF m 239 #[iv p0, iv p1, iv p2, iv 1, iv r1, iv r2, iv 0, iv 1, iv r3, iv r4, rv d67, rv d69, rv w0, iv 1, rv w0] []) tz
            refine XS.iconst X76.here hx rfl (hb hby at_239) ?_
            show sT p e below T76 (mkF m 240 #[iv p0, iv p1, iv p2, iv 1, iv r1, iv r2, iv 0, iv 1, iv r3, iv r4, rv d67, rv d69, rv w0, iv 1, rv w0] [(.int 1)]) tz
            refine XS.goto X76.here hx rfl (pc0 := 240) (pc' := 244) rfl (hb hby at_240) (by decide) (by decide) ?_
            exact kz
          obtain ⟨fs, hr, hrun, hended, hW, hsame⟩ := X76.leave (v := some (.int (1 : Int32))) (fun h => by rw [Bd.returns] at h; cases h)
          refine own_of ⟨_, _, ?_, hrun, hended, _, _, rfl, ?_, ReturnedEndW.of_narrow ⟨_, rfl⟩ hW (hsame.mono (by decide) (by decide))⟩
          · show sT p e below T76 (mkF m 244 #[iv p0, iv p1, iv p2, iv 1, iv r1, iv r2, iv 0, iv 1, iv r3, iv r4, rv d67, rv d69, rv w0, iv 1, rv w0] [(.int 1)]) _
            exact own_retN X76 hx (t := .boolean) Bd.returns (by simp) (by first | rfl | (split <;> first | rfl | (split <;> first | rfl | (split <;> rfl)))) (hb hby at_244) hr
          · show Q0 Z p0 p1 p2 w0 w1 w2 w3 cS h0 n0 _ T76.heap _
            rw [e76]
            exact ⟨rfl, N75⟩
        · have f_77 := (Vb67.keep Kq69 nin0)
          have f_78 := (Eq67.keep Kq69)
          have f_79 := (Fv67.keep Kq69 nin0)
          have f_80 := (Fc67.keep Kq69 nin0)
          have f_81 := (Fh67.keep Kq69 nin0)
          have f_82 := (Fz67.keep Kq69 nin0)
          by_cases l1 : r1 = (49 : Int32)
          · have Vl : Arv Z T69.heap b67 kb67 .byte (1 : Int32) [(.int (49 : Int32))] (.int 0) := by have q := f_77; rw [l1, (by decide : nar .byte ((49 : Int32).toInt8.toInt32) = (49 : Int32))] at q; exact q
            obtain ⟨_, _, ⟨T83, L83, k83, n83⟩, -, X83, hSc83, hgr83, ⟨Lc83, hQ83, l83, y83, z83⟩, st83⟩ := callSS X69 hx (y := (⟨"com/example/stackwright/stackwright/Holdings$FairValueLevel", "read", "(Ljava/lang/String;Ljava/lang/String;)Lcom/example/stackwright/stackwright/Holdings$FairValueLevel;"⟩ : MethodName)) hown (mvT hZ (own_w hw 29 rfl)) (mvT hZ (own_w hw 30 rfl)) (mvT hZ (own_w hw 31 rfl)) (mvT hZ (own_w hw 32 rfl)) (by decide) (own_backK (hJ := OwnJ.warm (s := s) hJ) (W := 0) (rm6a l Z a0 hw [] d67 d69 w0 w1 w2 w3 cS b67 kb67  [] T69.heap n0 O70 S_NONE S_LEVEL_1 S_LEVEL_2 S_LEVEL_3 S_cs hcS f_78 g_d67 f_79 f_80 f_81 f_82 Vl (rm7m l Z a0 hw [] d67 d69 cS b67 b69 kb67 kb69 (nar .byte (r1.toInt8.toInt32)) (nar .byte (r3.toInt8.toInt32)) T69.heap n0 O70 S_cs hcS f_78 f_79 f_80 Eq69 Fv69 Fc69 f_77 Vb69 (own_byi lo1 hi1 lo3 hi3 e0_) ne_d67_d69) held1 held2 held3 hcw (by decide) (by decide) (by decide)) hZ (own_w hw 32 rfl) (own_w hw 31 rfl) (by decide) (by decide)) (g := (mkF m 114 #[iv p0, iv p1, iv p2, iv 1, iv r1, iv r2, iv 0, iv 1, iv r3, iv r4, rv d67, rv d69, un, un, un] [(.ref d69), (.ref d67)])) rfl (by rw [hml]; rfl) (argsL := [(.ref d67), (.ref d69)]) (rest := []) (lenOf own_pd14 rfl) rfl (by show 2 * 0 + _ ≤ _; exact Nat.le_of_eq rfl) (hb hby at_114) (fun _ _ => ⟨rfl, rfl, (by decide : 8 + 2 ≤ _), (by decide : 16 + 8 ≤ _)⟩)
            dsimp only [Pt.U, Pt.locs, Pt.cells, Pt.slots] at X83 l83 y83 z83 st83 hQ83 hSc83 hgr83
            subst l83 y83 z83
            have hS84 : s.Since s.vm 0 := State.WarmedH.since (State.WarmedH.refl s) 0
            obtain ⟨X83, hS83, hZ, hown⟩ := rebS hS84 (Nat.zero_le _) X83 hSc83 hgr83 hZ hown
            obtain ⟨rfl, Nq83, Kq83⟩ := hQ83
            have N83 := Fr.app N69 Nq83
            have O85 := O70.keep Kq83 (allS g_d67 all0)
            have K85 : Keep h0 T83.heap [] := K70.trans Kq83 (allS (Or.inr sz_d67) all0)
            refine own_on (B := T83.setTop (mkF m 117 #[iv p0, iv p1, iv p2, iv 1, iv r1, iv r2, iv 0, iv 1, iv r3, iv r4, rv d67, rv d69, un, un, un] [(.ref w1)])) (fun tz kz => st83.trans kz) ?_
            refine own_on (B := T83.setTop (mkF m 181 #[iv p0, iv p1, iv p2, iv 1, iv r1, iv r2, iv 0, iv 1, iv r3, iv r4, rv d67, rv d69, rv w1, iv 0, un] [])) (fun tz kz => ?_) ?_
            · show sT p e below T83 (mkF m 117 #[iv p0, iv p1, iv p2, iv 1, iv r1, iv r2, iv 0, iv 1, iv r3, iv r4, rv d67, rv d69, un, un, un] [(.ref w1)]) tz
              refine XS.astore X83.here hx rfl (hb hby at_117) rfl rfl (l' := #[iv p0, iv p1, iv p2, iv 1, iv r1, iv r2, iv 0, iv 1, iv r3, iv r4, rv d67, rv d69, rv w1, un, un]) rfl ?_
              show sT p e below T83 (mkF m 119 #[iv p0, iv p1, iv p2, iv 1, iv r1, iv r2, iv 0, iv 1, iv r3, iv r4, rv d67, rv d69, rv w1, un, un] []) tz
              refine XS.iloadN X83.here hx rfl (hb hby at_119) rfl ?_
              show sT p e below T83 (mkF m 120 #[iv p0, iv p1, iv p2, iv 1, iv r1, iv r2, iv 0, iv 1, iv r3, iv r4, rv d67, rv d69, rv w1, un, un] [(.int 1)]) tz
              refine XS.iload X83.here hx rfl (hb hby at_120) rfl ?_
              show sT p e below T83 (mkF m 122 #[iv p0, iv p1, iv p2, iv 1, iv r1, iv r2, iv 0, iv 1, iv r3, iv r4, rv d67, rv d69, rv w1, un, un] [(.int 1), (.int 1)]) tz
              refine XS.icmpNo X83.here hx rfl (hb hby at_122) rfl (teq rfl).2 ?_
              show sT p e below T83 (mkF m 125 #[iv p0, iv p1, iv p2, iv 1, iv r1, iv r2, iv 0, iv 1, iv r3, iv r4, rv d67, rv d69, rv w1, un, un] []) tz
              refine XS.iloadN X83.here hx rfl (hb hby at_125) rfl ?_
              show sT p e below T83 (mkF m 126 #[iv p0, iv p1, iv p2, iv 1, iv r1, iv r2, iv 0, iv 1, iv r3, iv r4, rv d67, rv d69, rv w1, un, un] [(.int 1)]) tz
              refine XS.iconst X83.here hx rfl (hb hby at_126) ?_
              show sT p e below T83 (mkF m 127 #[iv p0, iv p1, iv p2, iv 1, iv r1, iv r2, iv 0, iv 1, iv r3, iv r4, rv d67, rv d69, rv w1, un, un] [(.int 1), (.int 1)]) tz
              refine XS.icmpNo X83.here hx rfl (hb hby at_127) rfl (flt Int32.lt_irrefl).1 ?_
              show sT p e below T83 (mkF m 130 #[iv p0, iv p1, iv p2, iv 1, iv r1, iv r2, iv 0, iv 1, iv r3, iv r4, rv d67, rv d69, rv w1, un, un] []) tz
              refine XS.iload X83.here hx rfl (hb hby at_130) rfl ?_
              show sT p e below T83 (mkF m 132 #[iv p0, iv p1, iv p2, iv 1, iv r1, iv r2, iv 0, iv 1, iv r3, iv r4, rv d67, rv d69, rv w1, un, un] [(.int r1)]) tz
              refine XS.iload X83.here hx rfl (hb hby at_132) rfl ?_
              show sT p e below T83 (mkF m 134 #[iv p0, iv p1, iv p2, iv 1, iv r1, iv r2, iv 0, iv 1, iv r3, iv r4, rv d67, rv d69, rv w1, un, un] [(.int r3), (.int r1)]) tz
              refine XS.icmpYes X83.here hx rfl (pc0 := 134) (pc' := 153) rfl (hb hby at_134) rfl (feq e0_).2 (by decide) (by decide) ?_
              show sT p e below T83 (mkF m 153 #[iv p0, iv p1, iv p2, iv 1, iv r1, iv r2, iv 0, iv 1, iv r3, iv r4, rv d67, rv d69, rv w1, un, un] []) tz
              refine XS.iconst X83.here hx rfl (hb hby at_153) ?_
              show sT p e below T83 (mkF m 154 #[iv p0, iv p1, iv p2, iv 1, iv r1, iv r2, iv 0, iv 1, iv r3, iv r4, rv d67, rv d69, rv w1, un, un] [(.int 0)]) tz
              refine XS.istore X83.here hx rfl (hb hby at_154) rfl (l' := #[iv p0, iv p1, iv p2, iv 1, iv r1, iv r2, iv 0, iv 1, iv r3, iv r4, rv d67, rv d69, rv w1, iv 0, un]) rfl ?_
              show sT p e below T83 (mkF m 156 #[iv p0, iv p1, iv p2, iv 1, iv r1, iv r2, iv 0, iv 1, iv r3, iv r4, rv d67, rv d69, rv w1, iv 0, un] []) tz
              refine XS.iload X83.here hx rfl (hb hby at_156) rfl ?_
              show sT p e below T83 (mkF m 158 #[iv p0, iv p1, iv p2, iv 1, iv r1, iv r2, iv 0, iv 1, iv r3, iv r4, rv d67, rv d69, rv w1, iv 0, un] [(.int 0)]) tz
              refine XS.ifYes X83.here hx rfl (pc0 := 158) (pc' := 169) rfl (hb hby at_158) rfl ((if0 _ _).trans (teq rfl).1) (by decide) (by decide) ?_
              show sT p e below T83 (mkF m 169 #[iv p0, iv p1, iv p2, iv 1, iv r1, iv r2, iv 0, iv 1, iv r3, iv r4, rv d67, rv d69, rv w1, iv 0, un] []) tz
              refine XS.iloadN X83.here hx rfl (hb hby at_169) rfl ?_
              show sT p e below T83 (mkF m 170 #[iv p0, iv p1, iv p2, iv 1, iv r1, iv r2, iv 0, iv 1, iv r3, iv r4, rv d67, rv d69, rv w1, iv 0, un] [(.int 1)]) tz
              refine XS.iconst X83.here hx rfl (hb hby at_170) ?_
              show sT p e below T83 (mkF m 171 #[iv p0, iv p1, iv p2, iv 1, iv r1, iv r2, iv 0, iv 1, iv r3, iv r4, rv d67, rv d69, rv w1, iv 0, un] [(.int 1), (.int 1)]) tz
              refine XS.icmpNo X83.here hx rfl (hb hby at_171) rfl (teq rfl).2 ?_
              show sT p e below T83 (mkF m 174 #[iv p0, iv p1, iv p2, iv 1, iv r1, iv r2, iv 0, iv 1, iv r3, iv r4, rv d67, rv d69, rv w1, iv 0, un] []) tz
              refine XS.iload X83.here hx rfl (hb hby at_174) rfl ?_
              show sT p e below T83 (mkF m 176 #[iv p0, iv p1, iv p2, iv 1, iv r1, iv r2, iv 0, iv 1, iv r3, iv r4, rv d67, rv d69, rv w1, iv 0, un] [(.int r1)]) tz
              refine XS.bipush X83.here hx rfl (hb hby at_176) ?_
              show sT p e below T83 (mkF m 178 #[iv p0, iv p1, iv p2, iv 1, iv r1, iv r2, iv 0, iv 1, iv r3, iv r4, rv d67, rv d69, rv w1, iv 0, un] [(.int 49), (.int r1)]) tz
              refine XS.icmpNo X83.here hx rfl (hb hby at_178) rfl (teq l1).2 ?_
              exact kz
            obtain ⟨T86, X86, e86, st86⟩ := getS2 X83 hx hZ hown (host := "") (Or.inl (own_w hw 90 rfl)) Via.refl rfl (S_LEVEL_1.ext O85.2) (g := (mkF m 181 #[iv p0, iv p1, iv p2, iv 1, iv r1, iv r2, iv 0, iv 1, iv r3, iv r4, rv d67, rv d69, rv w1, iv 0, un] [])) rfl (hb hby at_181)
            refine own_on (B := T86.setTop (mkF m 184 #[iv p0, iv p1, iv p2, iv 1, iv r1, iv r2, iv 0, iv 1, iv r3, iv r4, rv d67, rv d69, rv w1, iv 0, un] [(.ref w1)])) (fun tz kz => st86 _ kz) ?_
            refine own_on (B := T86.setTop (mkF m 244 #[iv p0, iv p1, iv p2, iv 1, iv r1, iv r2, iv 0, iv 1, iv r3, iv r4, rv d67, rv d69, rv w1, iv 0, rv w1] [(.int 1)])) (fun tz kz => ?_) ?_
            · show sT p e below T86 (mkF m 184 #[iv p0, iv p1, iv p2, iv 1, iv r1, iv r2, iv 0, iv 1, iv r3, iv r4, rv d67, rv d69, rv w1, iv 0, un] [(.ref w1)]) tz
              refine XS.astore X86.here hx rfl (hb hby at_184) rfl rfl (l' := #[iv p0, iv p1, iv p2, iv 1, iv r1, iv r2, iv 0, iv 1, iv r3, iv r4, rv d67, rv d69, rv w1, iv 0, rv w1]) rfl ?_
              show sT p e below T86 (mkF m 186 #[iv p0, iv p1, iv p2, iv 1, iv r1, iv r2, iv 0, iv 1, iv r3, iv r4, rv d67, rv d69, rv w1, iv 0, rv w1] []) tz
              refine XS.goto X86.here hx rfl (pc0 := 186) (pc' := 232) rfl (hb hby at_186) (by decide) (by decide) ?_
              show sT p e below T86 (mkF m 232 #[iv p0, iv p1, iv p2, iv 1, iv r1, iv r2, iv 0, iv 1, iv r3, iv r4, rv d67, rv d69, rv w1, iv 0, rv w1] []) tz
              refine XS.aload X86.here hx rfl (hb hby at_232) rfl rfl ?_
              show sT p e below T86 (mkF m 234 #[iv p0, iv p1, iv p2, iv 1, iv r1, iv r2, iv 0, iv 1, iv r3, iv r4, rv d67, rv d69, rv w1, iv 0, rv w1] [(.ref w1)]) tz
              refine XS.aload X86.here hx rfl (hb hby at_234) rfl rfl ?_
              show sT p e below T86 (mkF m 236 #[iv p0, iv p1, iv p2, iv 1, iv r1, iv r2, iv 0, iv 1, iv r3, iv r4, rv d67, rv d69, rv w1, iv 0, rv w1] [(.ref w1), (.ref w1)]) tz
              refine Jvm.RoadKit.acmp (g := (mkF m 236 #[iv p0, iv p1, iv p2, iv 1, iv r1, iv r2, iv 0, iv 1, iv r3, iv r4, rv d67, rv d69, rv w1, iv 0, rv w1] [(.ref w1), (.ref w1)])) X86 hx rfl rfl rfl (pc0 := 236) (pc' := 239) (same := true) rfl (hb hby at_236) rfl (decide_eq_true (congrArg Value.ref rfl)) (by decide) (by decide) ?_
              show sT p e below T86 (mkF m 239 #[iv p0, iv p1, iv p2, iv 1, iv r1, iv r2, iv 0, iv 1, iv r3, iv r4, rv d67, rv d69, rv w1, iv 0, rv w1] []) tz
              refine XS.iconst X86.here hx rfl (hb hby at_239) ?_
              show sT p e below T86 (mkF m 240 #[iv p0, iv p1, iv p2, iv 1, iv r1, iv r2, iv 0, iv 1, iv r3, iv r4, rv d67, rv d69, rv w1, iv 0, rv w1] [(.int 1)]) tz
              refine XS.goto X86.here hx rfl (pc0 := 240) (pc' := 244) rfl (hb hby at_240) (by decide) (by decide) ?_
              exact kz
            obtain ⟨fs, hr, hrun, hended, hRW⟩ := Jvm.Stand.leaveW X86 hS83 (by rw [e86]; exact (Nat.le_refl T83.heap.size)) (v := some (.int (1 : Int32))) (fun h => by rw [Bd.returns] at h; cases h)
            refine own_of ⟨_, _, ?_, hrun, hended, _, _, rfl, ?_, hRW.1, hRW.2.1, hRW.2.2.1, hRW.2.2.2.mono (by decide) (by decide)⟩
            · show sT p e below T86 (mkF m 244 #[iv p0, iv p1, iv p2, iv 1, iv r1, iv r2, iv 0, iv 1, iv r3, iv r4, rv d67, rv d69, rv w1, iv 0, rv w1] [(.int 1)]) _
              exact own_retN X86 hx (t := .boolean) Bd.returns (by simp) (by first | rfl | (split <;> first | rfl | (split <;> first | rfl | (split <;> rfl)))) (hb hby at_244) hr
            · show Q0 Z p0 p1 p2 w0 w1 w2 w3 cS h0 n0 _ T86.heap _
              rw [e86]
              exact ⟨rfl, N83⟩
          · by_cases l2 : r1 = (50 : Int32)
            · have Vl : Arv Z T69.heap b67 kb67 .byte (1 : Int32) [(.int (50 : Int32))] (.int 0) := by have q := f_77; rw [l2, (by decide : nar .byte ((50 : Int32).toInt8.toInt32) = (50 : Int32))] at q; exact q
              obtain ⟨_, _, ⟨T87, L87, k87, n87⟩, -, X87, hSc87, hgr87, ⟨Lc87, hQ87, l87, y87, z87⟩, st87⟩ := callSS X69 hx (y := (⟨"com/example/stackwright/stackwright/Holdings$FairValueLevel", "read", "(Ljava/lang/String;Ljava/lang/String;)Lcom/example/stackwright/stackwright/Holdings$FairValueLevel;"⟩ : MethodName)) hown (mvT hZ (own_w hw 29 rfl)) (mvT hZ (own_w hw 30 rfl)) (mvT hZ (own_w hw 31 rfl)) (mvT hZ (own_w hw 32 rfl)) (by decide) (own_backK (hJ := OwnJ.warm (s := s) hJ) (W := 0) (rm6b l Z a0 hw [] d67 d69 w0 w1 w2 w3 cS b67 kb67  [] T69.heap n0 O70 S_NONE S_LEVEL_1 S_LEVEL_2 S_LEVEL_3 S_cs hcS f_78 g_d67 f_79 f_80 f_81 f_82 Vl (rm7m l Z a0 hw [] d67 d69 cS b67 b69 kb67 kb69 (nar .byte (r1.toInt8.toInt32)) (nar .byte (r3.toInt8.toInt32)) T69.heap n0 O70 S_cs hcS f_78 f_79 f_80 Eq69 Fv69 Fc69 f_77 Vb69 (own_byi lo1 hi1 lo3 hi3 e0_) ne_d67_d69) held1 held2 held3 hcw (by decide) (by decide) (by decide)) hZ (own_w hw 32 rfl) (own_w hw 31 rfl) (by decide) (by decide)) (g := (mkF m 114 #[iv p0, iv p1, iv p2, iv 1, iv r1, iv r2, iv 0, iv 1, iv r3, iv r4, rv d67, rv d69, un, un, un] [(.ref d69), (.ref d67)])) rfl (by rw [hml]; rfl) (argsL := [(.ref d67), (.ref d69)]) (rest := []) (lenOf own_pd14 rfl) rfl (by show 2 * 0 + _ ≤ _; exact Nat.le_of_eq rfl) (hb hby at_114) (fun _ _ => ⟨rfl, rfl, (by decide : 8 + 2 ≤ _), (by decide : 16 + 8 ≤ _)⟩)
              dsimp only [Pt.U, Pt.locs, Pt.cells, Pt.slots] at X87 l87 y87 z87 st87 hQ87 hSc87 hgr87
              subst l87 y87 z87
              have hS88 : s.Since s.vm 0 := State.WarmedH.since (State.WarmedH.refl s) 0
              obtain ⟨X87, hS87, hZ, hown⟩ := rebS hS88 (Nat.zero_le _) X87 hSc87 hgr87 hZ hown
              obtain ⟨rfl, Nq87, Kq87⟩ := hQ87
              have N87 := Fr.app N69 Nq87
              have O89 := O70.keep Kq87 (allS g_d67 all0)
              have K89 : Keep h0 T87.heap [] := K70.trans Kq87 (allS (Or.inr sz_d67) all0)
              refine own_on (B := T87.setTop (mkF m 117 #[iv p0, iv p1, iv p2, iv 1, iv r1, iv r2, iv 0, iv 1, iv r3, iv r4, rv d67, rv d69, un, un, un] [(.ref w2)])) (fun tz kz => st87.trans kz) ?_
              refine own_on (B := T87.setTop (mkF m 201 #[iv p0, iv p1, iv p2, iv 1, iv r1, iv r2, iv 0, iv 1, iv r3, iv r4, rv d67, rv d69, rv w2, iv 0, un] [])) (fun tz kz => ?_) ?_
              · show sT p e below T87 (mkF m 117 #[iv p0, iv p1, iv p2, iv 1, iv r1, iv r2, iv 0, iv 1, iv r3, iv r4, rv d67, rv d69, un, un, un] [(.ref w2)]) tz
                refine XS.astore X87.here hx rfl (hb hby at_117) rfl rfl (l' := #[iv p0, iv p1, iv p2, iv 1, iv r1, iv r2, iv 0, iv 1, iv r3, iv r4, rv d67, rv d69, rv w2, un, un]) rfl ?_
                show sT p e below T87 (mkF m 119 #[iv p0, iv p1, iv p2, iv 1, iv r1, iv r2, iv 0, iv 1, iv r3, iv r4, rv d67, rv d69, rv w2, un, un] []) tz
                refine XS.iloadN X87.here hx rfl (hb hby at_119) rfl ?_
                show sT p e below T87 (mkF m 120 #[iv p0, iv p1, iv p2, iv 1, iv r1, iv r2, iv 0, iv 1, iv r3, iv r4, rv d67, rv d69, rv w2, un, un] [(.int 1)]) tz
                refine XS.iload X87.here hx rfl (hb hby at_120) rfl ?_
                show sT p e below T87 (mkF m 122 #[iv p0, iv p1, iv p2, iv 1, iv r1, iv r2, iv 0, iv 1, iv r3, iv r4, rv d67, rv d69, rv w2, un, un] [(.int 1), (.int 1)]) tz
                refine XS.icmpNo X87.here hx rfl (hb hby at_122) rfl (teq rfl).2 ?_
                show sT p e below T87 (mkF m 125 #[iv p0, iv p1, iv p2, iv 1, iv r1, iv r2, iv 0, iv 1, iv r3, iv r4, rv d67, rv d69, rv w2, un, un] []) tz
                refine XS.iloadN X87.here hx rfl (hb hby at_125) rfl ?_
                show sT p e below T87 (mkF m 126 #[iv p0, iv p1, iv p2, iv 1, iv r1, iv r2, iv 0, iv 1, iv r3, iv r4, rv d67, rv d69, rv w2, un, un] [(.int 1)]) tz
                refine XS.iconst X87.here hx rfl (hb hby at_126) ?_
                show sT p e below T87 (mkF m 127 #[iv p0, iv p1, iv p2, iv 1, iv r1, iv r2, iv 0, iv 1, iv r3, iv r4, rv d67, rv d69, rv w2, un, un] [(.int 1), (.int 1)]) tz
                refine XS.icmpNo X87.here hx rfl (hb hby at_127) rfl (flt Int32.lt_irrefl).1 ?_
                show sT p e below T87 (mkF m 130 #[iv p0, iv p1, iv p2, iv 1, iv r1, iv r2, iv 0, iv 1, iv r3, iv r4, rv d67, rv d69, rv w2, un, un] []) tz
                refine XS.iload X87.here hx rfl (hb hby at_130) rfl ?_
                show sT p e below T87 (mkF m 132 #[iv p0, iv p1, iv p2, iv 1, iv r1, iv r2, iv 0, iv 1, iv r3, iv r4, rv d67, rv d69, rv w2, un, un] [(.int r1)]) tz
                refine XS.iload X87.here hx rfl (hb hby at_132) rfl ?_
                show sT p e below T87 (mkF m 134 #[iv p0, iv p1, iv p2, iv 1, iv r1, iv r2, iv 0, iv 1, iv r3, iv r4, rv d67, rv d69, rv w2, un, un] [(.int r3), (.int r1)]) tz
                refine XS.icmpYes X87.here hx rfl (pc0 := 134) (pc' := 153) rfl (hb hby at_134) rfl (feq e0_).2 (by decide) (by decide) ?_
                show sT p e below T87 (mkF m 153 #[iv p0, iv p1, iv p2, iv 1, iv r1, iv r2, iv 0, iv 1, iv r3, iv r4, rv d67, rv d69, rv w2, un, un] []) tz
                refine XS.iconst X87.here hx rfl (hb hby at_153) ?_
                show sT p e below T87 (mkF m 154 #[iv p0, iv p1, iv p2, iv 1, iv r1, iv r2, iv 0, iv 1, iv r3, iv r4, rv d67, rv d69, rv w2, un, un] [(.int 0)]) tz
                refine XS.istore X87.here hx rfl (hb hby at_154) rfl (l' := #[iv p0, iv p1, iv p2, iv 1, iv r1, iv r2, iv 0, iv 1, iv r3, iv r4, rv d67, rv d69, rv w2, iv 0, un]) rfl ?_
                show sT p e below T87 (mkF m 156 #[iv p0, iv p1, iv p2, iv 1, iv r1, iv r2, iv 0, iv 1, iv r3, iv r4, rv d67, rv d69, rv w2, iv 0, un] []) tz
                refine XS.iload X87.here hx rfl (hb hby at_156) rfl ?_
                show sT p e below T87 (mkF m 158 #[iv p0, iv p1, iv p2, iv 1, iv r1, iv r2, iv 0, iv 1, iv r3, iv r4, rv d67, rv d69, rv w2, iv 0, un] [(.int 0)]) tz
                refine XS.ifYes X87.here hx rfl (pc0 := 158) (pc' := 169) rfl (hb hby at_158) rfl ((if0 _ _).trans (teq rfl).1) (by decide) (by decide) ?_
                show sT p e below T87 (mkF m 169 #[iv p0, iv p1, iv p2, iv 1, iv r1, iv r2, iv 0, iv 1, iv r3, iv r4, rv d67, rv d69, rv w2, iv 0, un] []) tz
                refine XS.iloadN X87.here hx rfl (hb hby at_169) rfl ?_
                show sT p e below T87 (mkF m 170 #[iv p0, iv p1, iv p2, iv 1, iv r1, iv r2, iv 0, iv 1, iv r3, iv r4, rv d67, rv d69, rv w2, iv 0, un] [(.int 1)]) tz
                refine XS.iconst X87.here hx rfl (hb hby at_170) ?_
                show sT p e below T87 (mkF m 171 #[iv p0, iv p1, iv p2, iv 1, iv r1, iv r2, iv 0, iv 1, iv r3, iv r4, rv d67, rv d69, rv w2, iv 0, un] [(.int 1), (.int 1)]) tz
                refine XS.icmpNo X87.here hx rfl (hb hby at_171) rfl (teq rfl).2 ?_
                show sT p e below T87 (mkF m 174 #[iv p0, iv p1, iv p2, iv 1, iv r1, iv r2, iv 0, iv 1, iv r3, iv r4, rv d67, rv d69, rv w2, iv 0, un] []) tz
                refine XS.iload X87.here hx rfl (hb hby at_174) rfl ?_
                show sT p e below T87 (mkF m 176 #[iv p0, iv p1, iv p2, iv 1, iv r1, iv r2, iv 0, iv 1, iv r3, iv r4, rv d67, rv d69, rv w2, iv 0, un] [(.int r1)]) tz
                refine XS.bipush X87.here hx rfl (hb hby at_176) ?_
                show sT p e below T87 (mkF m 178 #[iv p0, iv p1, iv p2, iv 1, iv r1, iv r2, iv 0, iv 1, iv r3, iv r4, rv d67, rv d69, rv w2, iv 0, un] [(.int 49), (.int r1)]) tz
                refine XS.icmpYes X87.here hx rfl (pc0 := 178) (pc' := 189) rfl (hb hby at_178) rfl (feq l1).2 (by decide) (by decide) ?_
                show sT p e below T87 (mkF m 189 #[iv p0, iv p1, iv p2, iv 1, iv r1, iv r2, iv 0, iv 1, iv r3, iv r4, rv d67, rv d69, rv w2, iv 0, un] []) tz
                refine XS.iloadN X87.here hx rfl (hb hby at_189) rfl ?_
                show sT p e below T87 (mkF m 190 #[iv p0, iv p1, iv p2, iv 1, iv r1, iv r2, iv 0, iv 1, iv r3, iv r4, rv d67, rv d69, rv w2, iv 0, un] [(.int 1)]) tz
                refine XS.iconst X87.here hx rfl (hb hby at_190) ?_
                show sT p e below T87 (mkF m 191 #[iv p0, iv p1, iv p2, iv 1, iv r1, iv r2, iv 0, iv 1, iv r3, iv r4, rv d67, rv d69, rv w2, iv 0, un] [(.int 1), (.int 1)]) tz
                refine XS.icmpNo X87.here hx rfl (hb hby at_191) rfl (teq rfl).2 ?_
                show sT p e below T87 (mkF m 194 #[iv p0, iv p1, iv p2, iv 1, iv r1, iv r2, iv 0, iv 1, iv r3, iv r4, rv d67, rv d69, rv w2, iv 0, un] []) tz
                refine XS.iload X87.here hx rfl (hb hby at_194) rfl ?_
                show sT p e below T87 (mkF m 196 #[iv p0, iv p1, iv p2, iv 1, iv r1, iv r2, iv 0, iv 1, iv r3, iv r4, rv d67, rv d69, rv w2, iv 0, un] [(.int r1)]) tz
                refine XS.bipush X87.here hx rfl (hb hby at_196) ?_
                show sT p e below T87 (mkF m 198 #[iv p0, iv p1, iv p2, iv 1, iv r1, iv r2, iv 0, iv 1, iv r3, iv r4, rv d67, rv d69, rv w2, iv 0, un] [(.int 50), (.int r1)]) tz
                refine XS.icmpNo X87.here hx rfl (hb hby at_198) rfl (teq l2).2 ?_
                exact kz
              obtain ⟨T90, X90, e90, st90⟩ := getS2 X87 hx hZ hown (host := "") (Or.inl (own_w hw 94 rfl)) Via.refl rfl (S_LEVEL_2.ext O89.2) (g := (mkF m 201 #[iv p0, iv p1, iv p2, iv 1, iv r1, iv r2, iv 0, iv 1, iv r3, iv r4, rv d67, rv d69, rv w2, iv 0, un] [])) rfl (hb hby at_201)
              refine own_on (B := T90.setTop (mkF m 204 #[iv p0, iv p1, iv p2, iv 1, iv r1, iv r2, iv 0, iv 1, iv r3, iv r4, rv d67, rv d69, rv w2, iv 0, un] [(.ref w2)])) (fun tz kz => st90 _ kz) ?_
              refine own_on (B := T90.setTop (mkF m 244 #[iv p0, iv p1, iv p2, iv 1, iv r1, iv r2, iv 0, iv 1, iv r3, iv r4, rv d67, rv d69, rv w2, iv 0, rv w2] [(.int 1)])) (fun tz kz => ?_) ?_
              · show sT p e below T90 (mkF m 204 #[iv p0, iv p1, iv p2, iv 1, iv r1, iv r2, iv 0, iv 1, iv r3, iv r4, rv d67, rv d69, rv w2, iv 0, un] [(.ref w2)]) tz
                refine XS.astore X90.here hx rfl (hb hby at_204) rfl rfl (l' := #[iv p0, iv p1, iv p2, iv 1, iv r1, iv r2, iv 0, iv 1, iv r3, iv r4, rv d67, rv d69, rv w2, iv 0, rv w2]) rfl ?_
                show sT p e below T90 (mkF m 206 #[iv p0, iv p1, iv p2, iv 1, iv r1, iv r2, iv 0, iv 1, iv r3, iv r4, rv d67, rv d69, rv w2, iv 0, rv w2] []) tz
                refine XS.goto X90.here hx rfl (pc0 := 206) (pc' := 232) rfl (hb hby at_206) (by decide) (by decide) ?_
                show sT p e below T90 (mkF m 232 #[iv p0, iv p1, iv p2, iv 1, iv r1, iv r2, iv 0, iv 1, iv r3, iv r4, rv d67, rv d69, rv w2, iv 0, rv w2] []) tz
                refine XS.aload X90.here hx rfl (hb hby at_232) rfl rfl ?_
                show sT p e below T90 (mkF m 234 #[iv p0, iv p1, iv p2, iv 1, iv r1, iv r2, iv 0, iv 1, iv r3, iv r4, rv d67, rv d69, rv w2, iv 0, rv w2] [(.ref w2)]) tz
                refine XS.aload X90.here hx rfl (hb hby at_234) rfl rfl ?_
                show sT p e below T90 (mkF m 236 #[iv p0, iv p1, iv p2, iv 1, iv r1, iv r2, iv 0, iv 1, iv r3, iv r4, rv d67, rv d69, rv w2, iv 0, rv w2] [(.ref w2), (.ref w2)]) tz
                refine Jvm.RoadKit.acmp (g := (mkF m 236 #[iv p0, iv p1, iv p2, iv 1, iv r1, iv r2, iv 0, iv 1, iv r3, iv r4, rv d67, rv d69, rv w2, iv 0, rv w2] [(.ref w2), (.ref w2)])) X90 hx rfl rfl rfl (pc0 := 236) (pc' := 239) (same := true) rfl (hb hby at_236) rfl (decide_eq_true (congrArg Value.ref rfl)) (by decide) (by decide) ?_
                show sT p e below T90 (mkF m 239 #[iv p0, iv p1, iv p2, iv 1, iv r1, iv r2, iv 0, iv 1, iv r3, iv r4, rv d67, rv d69, rv w2, iv 0, rv w2] []) tz
                refine XS.iconst X90.here hx rfl (hb hby at_239) ?_
                show sT p e below T90 (mkF m 240 #[iv p0, iv p1, iv p2, iv 1, iv r1, iv r2, iv 0, iv 1, iv r3, iv r4, rv d67, rv d69, rv w2, iv 0, rv w2] [(.int 1)]) tz
                refine XS.goto X90.here hx rfl (pc0 := 240) (pc' := 244) rfl (hb hby at_240) (by decide) (by decide) ?_
                exact kz
              obtain ⟨fs, hr, hrun, hended, hRW⟩ := Jvm.Stand.leaveW X90 hS87 (by rw [e90]; exact (Nat.le_refl T87.heap.size)) (v := some (.int (1 : Int32))) (fun h => by rw [Bd.returns] at h; cases h)
              refine own_of ⟨_, _, ?_, hrun, hended, _, _, rfl, ?_, hRW.1, hRW.2.1, hRW.2.2.1, hRW.2.2.2.mono (by decide) (by decide)⟩
              · show sT p e below T90 (mkF m 244 #[iv p0, iv p1, iv p2, iv 1, iv r1, iv r2, iv 0, iv 1, iv r3, iv r4, rv d67, rv d69, rv w2, iv 0, rv w2] [(.int 1)]) _
                exact own_retN X90 hx (t := .boolean) Bd.returns (by simp) (by first | rfl | (split <;> first | rfl | (split <;> first | rfl | (split <;> rfl)))) (hb hby at_244) hr
              · show Q0 Z p0 p1 p2 w0 w1 w2 w3 cS h0 n0 _ T90.heap _
                rw [e90]
                exact ⟨rfl, N87⟩
            · by_cases l3 : r1 = (51 : Int32)
              · have Vl : Arv Z T69.heap b67 kb67 .byte (1 : Int32) [(.int (51 : Int32))] (.int 0) := by have q := f_77; rw [l3, (by decide : nar .byte ((51 : Int32).toInt8.toInt32) = (51 : Int32))] at q; exact q
                obtain ⟨_, _, ⟨T91, L91, k91, n91⟩, -, X91, hSc91, hgr91, ⟨Lc91, hQ91, l91, y91, z91⟩, st91⟩ := callSS X69 hx (y := (⟨"com/example/stackwright/stackwright/Holdings$FairValueLevel", "read", "(Ljava/lang/String;Ljava/lang/String;)Lcom/example/stackwright/stackwright/Holdings$FairValueLevel;"⟩ : MethodName)) hown (mvT hZ (own_w hw 29 rfl)) (mvT hZ (own_w hw 30 rfl)) (mvT hZ (own_w hw 31 rfl)) (mvT hZ (own_w hw 32 rfl)) (by decide) (own_backK (hJ := OwnJ.warm (s := s) hJ) (W := 0) (rm6c l Z a0 hw [] d67 d69 w0 w1 w2 w3 cS b67 kb67  [] T69.heap n0 O70 S_NONE S_LEVEL_1 S_LEVEL_2 S_LEVEL_3 S_cs hcS f_78 g_d67 f_79 f_80 f_81 f_82 Vl (rm7m l Z a0 hw [] d67 d69 cS b67 b69 kb67 kb69 (nar .byte (r1.toInt8.toInt32)) (nar .byte (r3.toInt8.toInt32)) T69.heap n0 O70 S_cs hcS f_78 f_79 f_80 Eq69 Fv69 Fc69 f_77 Vb69 (own_byi lo1 hi1 lo3 hi3 e0_) ne_d67_d69) held1 held2 held3 hcw (by decide) (by decide) (by decide)) hZ (own_w hw 32 rfl) (own_w hw 31 rfl) (by decide) (by decide)) (g := (mkF m 114 #[iv p0, iv p1, iv p2, iv 1, iv r1, iv r2, iv 0, iv 1, iv r3, iv r4, rv d67, rv d69, un, un, un] [(.ref d69), (.ref d67)])) rfl (by rw [hml]; rfl) (argsL := [(.ref d67), (.ref d69)]) (rest := []) (lenOf own_pd14 rfl) rfl (by show 2 * 0 + _ ≤ _; exact Nat.le_of_eq rfl) (hb hby at_114) (fun _ _ => ⟨rfl, rfl, (by decide : 8 + 2 ≤ _), (by decide : 16 + 8 ≤ _)⟩)
                dsimp only [Pt.U, Pt.locs, Pt.cells, Pt.slots] at X91 l91 y91 z91 st91 hQ91 hSc91 hgr91
                subst l91 y91 z91
                have hS92 : s.Since s.vm 0 := State.WarmedH.since (State.WarmedH.refl s) 0
                obtain ⟨X91, hS91, hZ, hown⟩ := rebS hS92 (Nat.zero_le _) X91 hSc91 hgr91 hZ hown
                obtain ⟨rfl, Nq91, Kq91⟩ := hQ91
                have N91 := Fr.app N69 Nq91
                have O93 := O70.keep Kq91 (allS g_d67 all0)
                have K93 : Keep h0 T91.heap [] := K70.trans Kq91 (allS (Or.inr sz_d67) all0)
                refine own_on (B := T91.setTop (mkF m 117 #[iv p0, iv p1, iv p2, iv 1, iv r1, iv r2, iv 0, iv 1, iv r3, iv r4, rv d67, rv d69, un, un, un] [(.ref w3)])) (fun tz kz => st91.trans kz) ?_
                refine own_on (B := T91.setTop (mkF m 221 #[iv p0, iv p1, iv p2, iv 1, iv r1, iv r2, iv 0, iv 1, iv r3, iv r4, rv d67, rv d69, rv w3, iv 0, un] [])) (fun tz kz => ?_) ?_
                · show sT p e below T91 (mkF m 117 #[iv p0, iv p1, iv p2, iv 1, iv r1, iv r2, iv 0, iv 1, iv r3, iv r4, rv d67, rv d69, un, un, un] [(.ref w3)]) tz
                  refine XS.astore X91.here hx rfl (hb hby at_117) rfl rfl (l' := #[iv p0, iv p1, iv p2, iv 1, iv r1, iv r2, iv 0, iv 1, iv r3, iv r4, rv d67, rv d69, rv w3, un, un]) rfl ?_
                  show sT p e below T91 (mkF m 119 #[iv p0, iv p1, iv p2, iv 1, iv r1, iv r2, iv 0, iv 1, iv r3, iv r4, rv d67, rv d69, rv w3, un, un] []) tz
                  refine XS.iloadN X91.here hx rfl (hb hby at_119) rfl ?_
                  show sT p e below T91 (mkF m 120 #[iv p0, iv p1, iv p2, iv 1, iv r1, iv r2, iv 0, iv 1, iv r3, iv r4, rv d67, rv d69, rv w3, un, un] [(.int 1)]) tz
                  refine XS.iload X91.here hx rfl (hb hby at_120) rfl ?_
                  show sT p e below T91 (mkF m 122 #[iv p0, iv p1, iv p2, iv 1, iv r1, iv r2, iv 0, iv 1, iv r3, iv r4, rv d67, rv d69, rv w3, un, un] [(.int 1), (.int 1)]) tz
                  refine XS.icmpNo X91.here hx rfl (hb hby at_122) rfl (teq rfl).2 ?_
                  show sT p e below T91 (mkF m 125 #[iv p0, iv p1, iv p2, iv 1, iv r1, iv r2, iv 0, iv 1, iv r3, iv r4, rv d67, rv d69, rv w3, un, un] []) tz
                  refine XS.iloadN X91.here hx rfl (hb hby at_125) rfl ?_
                  show sT p e below T91 (mkF m 126 #[iv p0, iv p1, iv p2, iv 1, iv r1, iv r2, iv 0, iv 1, iv r3, iv r4, rv d67, rv d69, rv w3, un, un] [(.int 1)]) tz
                  refine XS.iconst X91.here hx rfl (hb hby at_126) ?_
                  show sT p e below T91 (mkF m 127 #[iv p0, iv p1, iv p2, iv 1, iv r1, iv r2, iv 0, iv 1, iv r3, iv r4, rv d67, rv d69, rv w3, un, un] [(.int 1), (.int 1)]) tz
                  refine XS.icmpNo X91.here hx rfl (hb hby at_127) rfl (flt Int32.lt_irrefl).1 ?_
                  show sT p e below T91 (mkF m 130 #[iv p0, iv p1, iv p2, iv 1, iv r1, iv r2, iv 0, iv 1, iv r3, iv r4, rv d67, rv d69, rv w3, un, un] []) tz
                  refine XS.iload X91.here hx rfl (hb hby at_130) rfl ?_
                  show sT p e below T91 (mkF m 132 #[iv p0, iv p1, iv p2, iv 1, iv r1, iv r2, iv 0, iv 1, iv r3, iv r4, rv d67, rv d69, rv w3, un, un] [(.int r1)]) tz
                  refine XS.iload X91.here hx rfl (hb hby at_132) rfl ?_
                  show sT p e below T91 (mkF m 134 #[iv p0, iv p1, iv p2, iv 1, iv r1, iv r2, iv 0, iv 1, iv r3, iv r4, rv d67, rv d69, rv w3, un, un] [(.int r3), (.int r1)]) tz
                  refine XS.icmpYes X91.here hx rfl (pc0 := 134) (pc' := 153) rfl (hb hby at_134) rfl (feq e0_).2 (by decide) (by decide) ?_
                  show sT p e below T91 (mkF m 153 #[iv p0, iv p1, iv p2, iv 1, iv r1, iv r2, iv 0, iv 1, iv r3, iv r4, rv d67, rv d69, rv w3, un, un] []) tz
                  refine XS.iconst X91.here hx rfl (hb hby at_153) ?_
                  show sT p e below T91 (mkF m 154 #[iv p0, iv p1, iv p2, iv 1, iv r1, iv r2, iv 0, iv 1, iv r3, iv r4, rv d67, rv d69, rv w3, un, un] [(.int 0)]) tz
                  refine XS.istore X91.here hx rfl (hb hby at_154) rfl (l' := #[iv p0, iv p1, iv p2, iv 1, iv r1, iv r2, iv 0, iv 1, iv r3, iv r4, rv d67, rv d69, rv w3, iv 0, un]) rfl ?_
                  show sT p e below T91 (mkF m 156 #[iv p0, iv p1, iv p2, iv 1, iv r1, iv r2, iv 0, iv 1, iv r3, iv r4, rv d67, rv d69, rv w3, iv 0, un] []) tz
                  refine XS.iload X91.here hx rfl (hb hby at_156) rfl ?_
                  show sT p e below T91 (mkF m 158 #[iv p0, iv p1, iv p2, iv 1, iv r1, iv r2, iv 0, iv 1, iv r3, iv r4, rv d67, rv d69, rv w3, iv 0, un] [(.int 0)]) tz
                  refine XS.ifYes X91.here hx rfl (pc0 := 158) (pc' := 169) rfl (hb hby at_158) rfl ((if0 _ _).trans (teq rfl).1) (by decide) (by decide) ?_
                  show sT p e below T91 (mkF m 169 #[iv p0, iv p1, iv p2, iv 1, iv r1, iv r2, iv 0, iv 1, iv r3, iv r4, rv d67, rv d69, rv w3, iv 0, un] []) tz
                  refine XS.iloadN X91.here hx rfl (hb hby at_169) rfl ?_
                  show sT p e below T91 (mkF m 170 #[iv p0, iv p1, iv p2, iv 1, iv r1, iv r2, iv 0, iv 1, iv r3, iv r4, rv d67, rv d69, rv w3, iv 0, un] [(.int 1)]) tz
                  refine XS.iconst X91.here hx rfl (hb hby at_170) ?_
                  show sT p e below T91 (mkF m 171 #[iv p0, iv p1, iv p2, iv 1, iv r1, iv r2, iv 0, iv 1, iv r3, iv r4, rv d67, rv d69, rv w3, iv 0, un] [(.int 1), (.int 1)]) tz
                  refine XS.icmpNo X91.here hx rfl (hb hby at_171) rfl (teq rfl).2 ?_
                  show sT p e below T91 (mkF m 174 #[iv p0, iv p1, iv p2, iv 1, iv r1, iv r2, iv 0, iv 1, iv r3, iv r4, rv d67, rv d69, rv w3, iv 0, un] []) tz
                  refine XS.iload X91.here hx rfl (hb hby at_174) rfl ?_
                  show sT p e below T91 (mkF m 176 #[iv p0, iv p1, iv p2, iv 1, iv r1, iv r2, iv 0, iv 1, iv r3, iv r4, rv d67, rv d69, rv w3, iv 0, un] [(.int r1)]) tz
                  refine XS.bipush X91.here hx rfl (hb hby at_176) ?_
                  show sT p e below T91 (mkF m 178 #[iv p0, iv p1, iv p2, iv 1, iv r1, iv r2, iv 0, iv 1, iv r3, iv r4, rv d67, rv d69, rv w3, iv 0, un] [(.int 49), (.int r1)]) tz
                  refine XS.icmpYes X91.here hx rfl (pc0 := 178) (pc' := 189) rfl (hb hby at_178) rfl (feq l1).2 (by decide) (by decide) ?_
                  show sT p e below T91 (mkF m 189 #[iv p0, iv p1, iv p2, iv 1, iv r1, iv r2, iv 0, iv 1, iv r3, iv r4, rv d67, rv d69, rv w3, iv 0, un] []) tz
                  refine XS.iloadN X91.here hx rfl (hb hby at_189) rfl ?_
                  show sT p e below T91 (mkF m 190 #[iv p0, iv p1, iv p2, iv 1, iv r1, iv r2, iv 0, iv 1, iv r3, iv r4, rv d67, rv d69, rv w3, iv 0, un] [(.int 1)]) tz
                  refine XS.iconst X91.here hx rfl (hb hby at_190) ?_
                  show sT p e below T91 (mkF m 191 #[iv p0, iv p1, iv p2, iv 1, iv r1, iv r2, iv 0, iv 1, iv r3, iv r4, rv d67, rv d69, rv w3, iv 0, un] [(.int 1), (.int 1)]) tz
                  refine XS.icmpNo X91.here hx rfl (hb hby at_191) rfl (teq rfl).2 ?_
                  show sT p e below T91 (mkF m 194 #[iv p0, iv p1, iv p2, iv 1, iv r1, iv r2, iv 0, iv 1, iv r3, iv r4, rv d67, rv d69, rv w3, iv 0, un] []) tz
                  refine XS.iload X91.here hx rfl (hb hby at_194) rfl ?_
                  show sT p e below T91 (mkF m 196 #[iv p0, iv p1, iv p2, iv 1, iv r1, iv r2, iv 0, iv 1, iv r3, iv r4, rv d67, rv d69, rv w3, iv 0, un] [(.int r1)]) tz
                  refine XS.bipush X91.here hx rfl (hb hby at_196) ?_
                  show sT p e below T91 (mkF m 198 #[iv p0, iv p1, iv p2, iv 1, iv r1, iv r2, iv 0, iv 1, iv r3, iv r4, rv d67, rv d69, rv w3, iv 0, un] [(.int 50), (.int r1)]) tz
                  refine XS.icmpYes X91.here hx rfl (pc0 := 198) (pc' := 209) rfl (hb hby at_198) rfl (feq l2).2 (by decide) (by decide) ?_
                  show sT p e below T91 (mkF m 209 #[iv p0, iv p1, iv p2, iv 1, iv r1, iv r2, iv 0, iv 1, iv r3, iv r4, rv d67, rv d69, rv w3, iv 0, un] []) tz
                  refine XS.iloadN X91.here hx rfl (hb hby at_209) rfl ?_
                  show sT p e below T91 (mkF m 210 #[iv p0, iv p1, iv p2, iv 1, iv r1, iv r2, iv 0, iv 1, iv r3, iv r4, rv d67, rv d69, rv w3, iv 0, un] [(.int 1)]) tz
                  refine XS.iconst X91.here hx rfl (hb hby at_210) ?_
                  show sT p e below T91 (mkF m 211 #[iv p0, iv p1, iv p2, iv 1, iv r1, iv r2, iv 0, iv 1, iv r3, iv r4, rv d67, rv d69, rv w3, iv 0, un] [(.int 1), (.int 1)]) tz
                  refine XS.icmpNo X91.here hx rfl (hb hby at_211) rfl (teq rfl).2 ?_
                  show sT p e below T91 (mkF m 214 #[iv p0, iv p1, iv p2, iv 1, iv r1, iv r2, iv 0, iv 1, iv r3, iv r4, rv d67, rv d69, rv w3, iv 0, un] []) tz
                  refine XS.iload X91.here hx rfl (hb hby at_214) rfl ?_
                  show sT p e below T91 (mkF m 216 #[iv p0, iv p1, iv p2, iv 1, iv r1, iv r2, iv 0, iv 1, iv r3, iv r4, rv d67, rv d69, rv w3, iv 0, un] [(.int r1)]) tz
                  refine XS.bipush X91.here hx rfl (hb hby at_216) ?_
                  show sT p e below T91 (mkF m 218 #[iv p0, iv p1, iv p2, iv 1, iv r1, iv r2, iv 0, iv 1, iv r3, iv r4, rv d67, rv d69, rv w3, iv 0, un] [(.int 51), (.int r1)]) tz
                  refine XS.icmpNo X91.here hx rfl (hb hby at_218) rfl (teq l3).2 ?_
                  exact kz
                obtain ⟨T94, X94, e94, st94⟩ := getS2 X91 hx hZ hown (host := "") (Or.inl (own_w hw 86 rfl)) Via.refl rfl (S_LEVEL_3.ext O93.2) (g := (mkF m 221 #[iv p0, iv p1, iv p2, iv 1, iv r1, iv r2, iv 0, iv 1, iv r3, iv r4, rv d67, rv d69, rv w3, iv 0, un] [])) rfl (hb hby at_221)
                refine own_on (B := T94.setTop (mkF m 224 #[iv p0, iv p1, iv p2, iv 1, iv r1, iv r2, iv 0, iv 1, iv r3, iv r4, rv d67, rv d69, rv w3, iv 0, un] [(.ref w3)])) (fun tz kz => st94 _ kz) ?_
                refine own_on (B := T94.setTop (mkF m 244 #[iv p0, iv p1, iv p2, iv 1, iv r1, iv r2, iv 0, iv 1, iv r3, iv r4, rv d67, rv d69, rv w3, iv 0, rv w3] [(.int 1)])) (fun tz kz => ?_) ?_
                · show sT p e below T94 (mkF m 224 #[iv p0, iv p1, iv p2, iv 1, iv r1, iv r2, iv 0, iv 1, iv r3, iv r4, rv d67, rv d69, rv w3, iv 0, un] [(.ref w3)]) tz
                  refine XS.astore X94.here hx rfl (hb hby at_224) rfl rfl (l' := #[iv p0, iv p1, iv p2, iv 1, iv r1, iv r2, iv 0, iv 1, iv r3, iv r4, rv d67, rv d69, rv w3, iv 0, rv w3]) rfl ?_
                  show sT p e below T94 (mkF m 226 #[iv p0, iv p1, iv p2, iv 1, iv r1, iv r2, iv 0, iv 1, iv r3, iv r4, rv d67, rv d69, rv w3, iv 0, rv w3] []) tz
                  refine XS.goto X94.here hx rfl (pc0 := 226) (pc' := 232) rfl (hb hby at_226) (by decide) (by decide) ?_
                  show sT p e below T94 (mkF m 232 #[iv p0, iv p1, iv p2, iv 1, iv r1, iv r2, iv 0, iv 1, iv r3, iv r4, rv d67, rv d69, rv w3, iv 0, rv w3] []) tz
                  refine XS.aload X94.here hx rfl (hb hby at_232) rfl rfl ?_
                  show sT p e below T94 (mkF m 234 #[iv p0, iv p1, iv p2, iv 1, iv r1, iv r2, iv 0, iv 1, iv r3, iv r4, rv d67, rv d69, rv w3, iv 0, rv w3] [(.ref w3)]) tz
                  refine XS.aload X94.here hx rfl (hb hby at_234) rfl rfl ?_
                  show sT p e below T94 (mkF m 236 #[iv p0, iv p1, iv p2, iv 1, iv r1, iv r2, iv 0, iv 1, iv r3, iv r4, rv d67, rv d69, rv w3, iv 0, rv w3] [(.ref w3), (.ref w3)]) tz
                  refine Jvm.RoadKit.acmp (g := (mkF m 236 #[iv p0, iv p1, iv p2, iv 1, iv r1, iv r2, iv 0, iv 1, iv r3, iv r4, rv d67, rv d69, rv w3, iv 0, rv w3] [(.ref w3), (.ref w3)])) X94 hx rfl rfl rfl (pc0 := 236) (pc' := 239) (same := true) rfl (hb hby at_236) rfl (decide_eq_true (congrArg Value.ref rfl)) (by decide) (by decide) ?_
                  show sT p e below T94 (mkF m 239 #[iv p0, iv p1, iv p2, iv 1, iv r1, iv r2, iv 0, iv 1, iv r3, iv r4, rv d67, rv d69, rv w3, iv 0, rv w3] []) tz
                  refine XS.iconst X94.here hx rfl (hb hby at_239) ?_
                  show sT p e below T94 (mkF m 240 #[iv p0, iv p1, iv p2, iv 1, iv r1, iv r2, iv 0, iv 1, iv r3, iv r4, rv d67, rv d69, rv w3, iv 0, rv w3] [(.int 1)]) tz
                  refine XS.goto X94.here hx rfl (pc0 := 240) (pc' := 244) rfl (hb hby at_240) (by decide) (by decide) ?_
                  exact kz
                obtain ⟨fs, hr, hrun, hended, hRW⟩ := Jvm.Stand.leaveW X94 hS91 (by rw [e94]; exact (Nat.le_refl T91.heap.size)) (v := some (.int (1 : Int32))) (fun h => by rw [Bd.returns] at h; cases h)
                refine own_of ⟨_, _, ?_, hrun, hended, _, _, rfl, ?_, hRW.1, hRW.2.1, hRW.2.2.1, hRW.2.2.2.mono (by decide) (by decide)⟩
                · show sT p e below T94 (mkF m 244 #[iv p0, iv p1, iv p2, iv 1, iv r1, iv r2, iv 0, iv 1, iv r3, iv r4, rv d67, rv d69, rv w3, iv 0, rv w3] [(.int 1)]) _
                  exact own_retN X94 hx (t := .boolean) Bd.returns (by simp) (by first | rfl | (split <;> first | rfl | (split <;> first | rfl | (split <;> rfl)))) (hb hby at_244) hr
                · show Q0 Z p0 p1 p2 w0 w1 w2 w3 cS h0 n0 _ T94.heap _
                  rw [e94]
                  exact ⟨rfl, N91⟩
              · obtain ⟨_, _, ⟨T95, L95, k95, n95⟩, -, X95, ⟨Lc95, hQ95, l95, y95, z95⟩, st95⟩ := Jvm.LawKit.callS X69 hx (y := (⟨"com/example/stackwright/stackwright/Holdings$FairValueLevel", "read", "(Ljava/lang/String;Ljava/lang/String;)Lcom/example/stackwright/stackwright/Holdings$FairValueLevel;"⟩ : MethodName)) hown (mvT hZ (own_w hw 29 rfl)) (mvT hZ (own_w hw 30 rfl)) (mvT hZ (own_w hw 31 rfl)) (mvT hZ (own_w hw 32 rfl)) (by decide) (backOf (W := 0) (rm6o l Z a0 hw [] d67 d69 w0 w1 w2 w3 cS b67 kb67 (nar .byte (r1.toInt8.toInt32)) r1  T69.heap n0 O70 S_NONE S_LEVEL_1 S_LEVEL_2 S_LEVEL_3 S_cs hcS f_78 g_d67 f_79 f_80 f_81 f_82 f_77 (own_by r1 lo1 hi1) l1 l2 l3 (rm7m l Z a0 hw [] d67 d69 cS b67 b69 kb67 kb69 (nar .byte (r1.toInt8.toInt32)) (nar .byte (r3.toInt8.toInt32)) T69.heap n0 O70 S_cs hcS f_78 f_79 f_80 Eq69 Fv69 Fc69 f_77 Vb69 (own_byi lo1 hi1 lo3 hi3 e0_) ne_d67_d69) ) hZ (own_w hw 32 rfl) (own_w hw 31 rfl) (by decide) (by decide)) (g := (mkF m 114 #[iv p0, iv p1, iv p2, iv 1, iv r1, iv r2, iv 0, iv 1, iv r3, iv r4, rv d67, rv d69, un, un, un] [(.ref d69), (.ref d67)])) rfl (by rw [hml]; rfl) (argsL := [(.ref d67), (.ref d69)]) (rest := []) (lenOf own_pd14 rfl) rfl (by show 2 * 0 + _ ≤ _; exact Nat.le_of_eq rfl) (hb hby at_114) (fun _ _ => ⟨rfl, rfl, (by decide : 8 + 2 ≤ _), (by decide : 16 + 8 ≤ _)⟩)
                dsimp only [Pt.U, Pt.locs, Pt.cells, Pt.slots] at X95 l95 y95 z95 st95 hQ95
                subst l95 y95 z95
                obtain ⟨rfl, Nq95, Kq95⟩ := hQ95
                have N95 := Fr.app N69 Nq95
                have O96 := O70.keep Kq95 (allS g_d67 all0)
                have K96 : Keep h0 T95.heap [] := K70.trans Kq95 (allS (Or.inr sz_d67) all0)
                refine own_on (B := T95.setTop (mkF m 117 #[iv p0, iv p1, iv p2, iv 1, iv r1, iv r2, iv 0, iv 1, iv r3, iv r4, rv d67, rv d69, un, un, un] [.null])) (fun tz kz => st95 _ kz) ?_
                refine own_on (B := T95.setTop (mkF m 244 #[iv p0, iv p1, iv p2, iv 1, iv r1, iv r2, iv 0, iv 1, iv r3, iv r4, rv d67, rv d69, .val .null, iv 0, .val .null] [(.int 1)])) (fun tz kz => ?_) ?_
                · show sT p e below T95 (mkF m 117 #[iv p0, iv p1, iv p2, iv 1, iv r1, iv r2, iv 0, iv 1, iv r3, iv r4, rv d67, rv d69, un, un, un] [.null]) tz
                  refine XS.astore X95.here hx rfl (hb hby at_117) rfl rfl (l' := #[iv p0, iv p1, iv p2, iv 1, iv r1, iv r2, iv 0, iv 1, iv r3, iv r4, rv d67, rv d69, .val .null, un, un]) rfl ?_
                  show sT p e below T95 (mkF m 119 #[iv p0, iv p1, iv p2, iv 1, iv r1, iv r2, iv 0, iv 1, iv r3, iv r4, rv d67, rv d69, .val .null, un, un] []) tz
                  refine XS.iloadN X95.here hx rfl (hb hby at_119) rfl ?_
                  show sT p e below T95 (mkF m 120 #[iv p0, iv p1, iv p2, iv 1, iv r1, iv r2, iv 0, iv 1, iv r3, iv r4, rv d67, rv d69, .val .null, un, un] [(.int 1)]) tz
                  refine XS.iload X95.here hx rfl (hb hby at_120) rfl ?_
                  show sT p e below T95 (mkF m 122 #[iv p0, iv p1, iv p2, iv 1, iv r1, iv r2, iv 0, iv 1, iv r3, iv r4, rv d67, rv d69, .val .null, un, un] [(.int 1), (.int 1)]) tz
                  refine XS.icmpNo X95.here hx rfl (hb hby at_122) rfl (teq rfl).2 ?_
                  show sT p e below T95 (mkF m 125 #[iv p0, iv p1, iv p2, iv 1, iv r1, iv r2, iv 0, iv 1, iv r3, iv r4, rv d67, rv d69, .val .null, un, un] []) tz
                  refine XS.iloadN X95.here hx rfl (hb hby at_125) rfl ?_
                  show sT p e below T95 (mkF m 126 #[iv p0, iv p1, iv p2, iv 1, iv r1, iv r2, iv 0, iv 1, iv r3, iv r4, rv d67, rv d69, .val .null, un, un] [(.int 1)]) tz
                  refine XS.iconst X95.here hx rfl (hb hby at_126) ?_
                  show sT p e below T95 (mkF m 127 #[iv p0, iv p1, iv p2, iv 1, iv r1, iv r2, iv 0, iv 1, iv r3, iv r4, rv d67, rv d69, .val .null, un, un] [(.int 1), (.int 1)]) tz
                  refine XS.icmpNo X95.here hx rfl (hb hby at_127) rfl (flt Int32.lt_irrefl).1 ?_
                  show sT p e below T95 (mkF m 130 #[iv p0, iv p1, iv p2, iv 1, iv r1, iv r2, iv 0, iv 1, iv r3, iv r4, rv d67, rv d69, .val .null, un, un] []) tz
                  refine XS.iload X95.here hx rfl (hb hby at_130) rfl ?_
                  show sT p e below T95 (mkF m 132 #[iv p0, iv p1, iv p2, iv 1, iv r1, iv r2, iv 0, iv 1, iv r3, iv r4, rv d67, rv d69, .val .null, un, un] [(.int r1)]) tz
                  refine XS.iload X95.here hx rfl (hb hby at_132) rfl ?_
                  show sT p e below T95 (mkF m 134 #[iv p0, iv p1, iv p2, iv 1, iv r1, iv r2, iv 0, iv 1, iv r3, iv r4, rv d67, rv d69, .val .null, un, un] [(.int r3), (.int r1)]) tz
                  refine XS.icmpYes X95.here hx rfl (pc0 := 134) (pc' := 153) rfl (hb hby at_134) rfl (feq e0_).2 (by decide) (by decide) ?_
                  show sT p e below T95 (mkF m 153 #[iv p0, iv p1, iv p2, iv 1, iv r1, iv r2, iv 0, iv 1, iv r3, iv r4, rv d67, rv d69, .val .null, un, un] []) tz
                  refine XS.iconst X95.here hx rfl (hb hby at_153) ?_
                  show sT p e below T95 (mkF m 154 #[iv p0, iv p1, iv p2, iv 1, iv r1, iv r2, iv 0, iv 1, iv r3, iv r4, rv d67, rv d69, .val .null, un, un] [(.int 0)]) tz
                  refine XS.istore X95.here hx rfl (hb hby at_154) rfl (l' := #[iv p0, iv p1, iv p2, iv 1, iv r1, iv r2, iv 0, iv 1, iv r3, iv r4, rv d67, rv d69, .val .null, iv 0, un]) rfl ?_
                  show sT p e below T95 (mkF m 156 #[iv p0, iv p1, iv p2, iv 1, iv r1, iv r2, iv 0, iv 1, iv r3, iv r4, rv d67, rv d69, .val .null, iv 0, un] []) tz
                  refine XS.iload X95.here hx rfl (hb hby at_156) rfl ?_
                  show sT p e below T95 (mkF m 158 #[iv p0, iv p1, iv p2, iv 1, iv r1, iv r2, iv 0, iv 1, iv r3, iv r4, rv d67, rv d69, .val .null, iv 0, un] [(.int 0)]) tz
                  refine XS.ifYes X95.here hx rfl (pc0 := 158) (pc' := 169) rfl (hb hby at_158) rfl ((if0 _ _).trans (teq rfl).1) (by decide) (by decide) ?_
                  show sT p e below T95 (mkF m 169 #[iv p0, iv p1, iv p2, iv 1, iv r1, iv r2, iv 0, iv 1, iv r3, iv r4, rv d67, rv d69, .val .null, iv 0, un] []) tz
                  refine XS.iloadN X95.here hx rfl (hb hby at_169) rfl ?_
                  show sT p e below T95 (mkF m 170 #[iv p0, iv p1, iv p2, iv 1, iv r1, iv r2, iv 0, iv 1, iv r3, iv r4, rv d67, rv d69, .val .null, iv 0, un] [(.int 1)]) tz
                  refine XS.iconst X95.here hx rfl (hb hby at_170) ?_
                  show sT p e below T95 (mkF m 171 #[iv p0, iv p1, iv p2, iv 1, iv r1, iv r2, iv 0, iv 1, iv r3, iv r4, rv d67, rv d69, .val .null, iv 0, un] [(.int 1), (.int 1)]) tz
                  refine XS.icmpNo X95.here hx rfl (hb hby at_171) rfl (teq rfl).2 ?_
                  show sT p e below T95 (mkF m 174 #[iv p0, iv p1, iv p2, iv 1, iv r1, iv r2, iv 0, iv 1, iv r3, iv r4, rv d67, rv d69, .val .null, iv 0, un] []) tz
                  refine XS.iload X95.here hx rfl (hb hby at_174) rfl ?_
                  show sT p e below T95 (mkF m 176 #[iv p0, iv p1, iv p2, iv 1, iv r1, iv r2, iv 0, iv 1, iv r3, iv r4, rv d67, rv d69, .val .null, iv 0, un] [(.int r1)]) tz
                  refine XS.bipush X95.here hx rfl (hb hby at_176) ?_
                  show sT p e below T95 (mkF m 178 #[iv p0, iv p1, iv p2, iv 1, iv r1, iv r2, iv 0, iv 1, iv r3, iv r4, rv d67, rv d69, .val .null, iv 0, un] [(.int 49), (.int r1)]) tz
                  refine XS.icmpYes X95.here hx rfl (pc0 := 178) (pc' := 189) rfl (hb hby at_178) rfl (feq l1).2 (by decide) (by decide) ?_
                  show sT p e below T95 (mkF m 189 #[iv p0, iv p1, iv p2, iv 1, iv r1, iv r2, iv 0, iv 1, iv r3, iv r4, rv d67, rv d69, .val .null, iv 0, un] []) tz
                  refine XS.iloadN X95.here hx rfl (hb hby at_189) rfl ?_
                  show sT p e below T95 (mkF m 190 #[iv p0, iv p1, iv p2, iv 1, iv r1, iv r2, iv 0, iv 1, iv r3, iv r4, rv d67, rv d69, .val .null, iv 0, un] [(.int 1)]) tz
                  refine XS.iconst X95.here hx rfl (hb hby at_190) ?_
                  show sT p e below T95 (mkF m 191 #[iv p0, iv p1, iv p2, iv 1, iv r1, iv r2, iv 0, iv 1, iv r3, iv r4, rv d67, rv d69, .val .null, iv 0, un] [(.int 1), (.int 1)]) tz
                  refine XS.icmpNo X95.here hx rfl (hb hby at_191) rfl (teq rfl).2 ?_
                  show sT p e below T95 (mkF m 194 #[iv p0, iv p1, iv p2, iv 1, iv r1, iv r2, iv 0, iv 1, iv r3, iv r4, rv d67, rv d69, .val .null, iv 0, un] []) tz
                  refine XS.iload X95.here hx rfl (hb hby at_194) rfl ?_
                  show sT p e below T95 (mkF m 196 #[iv p0, iv p1, iv p2, iv 1, iv r1, iv r2, iv 0, iv 1, iv r3, iv r4, rv d67, rv d69, .val .null, iv 0, un] [(.int r1)]) tz
                  refine XS.bipush X95.here hx rfl (hb hby at_196) ?_
                  show sT p e below T95 (mkF m 198 #[iv p0, iv p1, iv p2, iv 1, iv r1, iv r2, iv 0, iv 1, iv r3, iv r4, rv d67, rv d69, .val .null, iv 0, un] [(.int 50), (.int r1)]) tz
                  refine XS.icmpYes X95.here hx rfl (pc0 := 198) (pc' := 209) rfl (hb hby at_198) rfl (feq l2).2 (by decide) (by decide) ?_
                  show sT p e below T95 (mkF m 209 #[iv p0, iv p1, iv p2, iv 1, iv r1, iv r2, iv 0, iv 1, iv r3, iv r4, rv d67, rv d69, .val .null, iv 0, un] []) tz
                  refine XS.iloadN X95.here hx rfl (hb hby at_209) rfl ?_
                  show sT p e below T95 (mkF m 210 #[iv p0, iv p1, iv p2, iv 1, iv r1, iv r2, iv 0, iv 1, iv r3, iv r4, rv d67, rv d69, .val .null, iv 0, un] [(.int 1)]) tz
                  refine XS.iconst X95.here hx rfl (hb hby at_210) ?_
                  show sT p e below T95 (mkF m 211 #[iv p0, iv p1, iv p2, iv 1, iv r1, iv r2, iv 0, iv 1, iv r3, iv r4, rv d67, rv d69, .val .null, iv 0, un] [(.int 1), (.int 1)]) tz
                  refine XS.icmpNo X95.here hx rfl (hb hby at_211) rfl (teq rfl).2 ?_
                  show sT p e below T95 (mkF m 214 #[iv p0, iv p1, iv p2, iv 1, iv r1, iv r2, iv 0, iv 1, iv r3, iv r4, rv d67, rv d69, .val .null, iv 0, un] []) tz
                  refine XS.iload X95.here hx rfl (hb hby at_214) rfl ?_
                  show sT p e below T95 (mkF m 216 #[iv p0, iv p1, iv p2, iv 1, iv r1, iv r2, iv 0, iv 1, iv r3, iv r4, rv d67, rv d69, .val .null, iv 0, un] [(.int r1)]) tz
                  refine XS.bipush X95.here hx rfl (hb hby at_216) ?_
                  show sT p e below T95 (mkF m 218 #[iv p0, iv p1, iv p2, iv 1, iv r1, iv r2, iv 0, iv 1, iv r3, iv r4, rv d67, rv d69, .val .null, iv 0, un] [(.int 51), (.int r1)]) tz
                  refine XS.icmpYes X95.here hx rfl (pc0 := 218) (pc' := 229) rfl (hb hby at_218) rfl (feq l3).2 (by decide) (by decide) ?_
                  show sT p e below T95 (mkF m 229 #[iv p0, iv p1, iv p2, iv 1, iv r1, iv r2, iv 0, iv 1, iv r3, iv r4, rv d67, rv d69, .val .null, iv 0, un] []) tz
                  refine XS.aconstNull X95.here hx rfl (hb hby at_229) ?_
                  show sT p e below T95 (mkF m 230 #[iv p0, iv p1, iv p2, iv 1, iv r1, iv r2, iv 0, iv 1, iv r3, iv r4, rv d67, rv d69, .val .null, iv 0, un] [.null]) tz
                  refine XS.astore X95.here hx rfl (hb hby at_230) rfl rfl (l' := #[iv p0, iv p1, iv p2, iv 1, iv r1, iv r2, iv 0, iv 1, iv r3, iv r4, rv d67, rv d69, .val .null, iv 0, .val .null]) rfl ?_
                  show sT p e below T95 (mkF m 232 #[iv p0, iv p1, iv p2, iv 1, iv r1, iv r2, iv 0, iv 1, iv r3, iv r4, rv d67, rv d69, .val .null, iv 0, .val .null] []) tz
                  refine XS.aload X95.here hx rfl (hb hby at_232) rfl rfl ?_
                  show sT p e below T95 (mkF m 234 #[iv p0, iv p1, iv p2, iv 1, iv r1, iv r2, iv 0, iv 1, iv r3, iv r4, rv d67, rv d69, .val .null, iv 0, .val .null] [.null]) tz
                  refine XS.aload X95.here hx rfl (hb hby at_234) rfl rfl ?_
                  show sT p e below T95 (mkF m 236 #[iv p0, iv p1, iv p2, iv 1, iv r1, iv r2, iv 0, iv 1, iv r3, iv r4, rv d67, rv d69, .val .null, iv 0, .val .null] [.null, .null]) tz
                  refine Jvm.RoadKit.acmp (g := (mkF m 236 #[iv p0, iv p1, iv p2, iv 1, iv r1, iv r2, iv 0, iv 1, iv r3, iv r4, rv d67, rv d69, .val .null, iv 0, .val .null] [.null, .null])) X95 hx rfl rfl rfl (pc0 := 236) (pc' := 239) (same := true) rfl (hb hby at_236) rfl (decide_eq_true rfl) (by decide) (by decide) ?_
                  show sT p e below T95 (mkF m 239 #[iv p0, iv p1, iv p2, iv 1, iv r1, iv r2, iv 0, iv 1, iv r3, iv r4, rv d67, rv d69, .val .null, iv 0, .val .null] []) tz
                  refine XS.iconst X95.here hx rfl (hb hby at_239) ?_
                  show sT p e below T95 (mkF m 240 #[iv p0, iv p1, iv p2, iv 1, iv r1, iv r2, iv 0, iv 1, iv r3, iv r4, rv d67, rv d69, .val .null, iv 0, .val .null] [(.int 1)]) tz
                  refine XS.goto X95.here hx rfl (pc0 := 240) (pc' := 244) rfl (hb hby at_240) (by decide) (by decide) ?_
                  exact kz
                obtain ⟨fs, hr, hrun, hended, hW, hsame⟩ := X95.leave (v := some (.int (1 : Int32))) (fun h => by rw [Bd.returns] at h; cases h)
                refine own_of ⟨_, _, ?_, hrun, hended, _, _, rfl, ?_, ReturnedEndW.of_narrow ⟨_, rfl⟩ hW (hsame.mono (by decide) (by decide))⟩
                · show sT p e below T95 (mkF m 244 #[iv p0, iv p1, iv p2, iv 1, iv r1, iv r2, iv 0, iv 1, iv r3, iv r4, rv d67, rv d69, .val .null, iv 0, .val .null] [(.int 1)]) _
                  exact own_retN X95 hx (t := .boolean) Bd.returns (by simp) (by first | rfl | (split <;> first | rfl | (split <;> first | rfl | (split <;> rfl)))) (hb hby at_244) hr
                · show Q0 Z p0 p1 p2 w0 w1 w2 w3 cS h0 n0 _ T95.heap _
                  exact ⟨rfl, N95⟩
      · refine own_on (B := T4.setTop (mkF m 94 #[iv p0, iv p1, iv p2, iv 1, iv r1, iv r2, iv 0, iv 2, iv r3, iv r4, un, un, un, un, un] [(.int r2), (.int r1), (.int 1)])) (fun tz kz => ?_) ?_
        · show sT p e below T4 (mkF m 89 #[iv p0, iv p1, iv p2, iv 1, iv r1, iv r2, iv 0, iv 2, iv r3, iv r4, un, un, un, un, un] []) tz
          refine XS.iloadN X4.here hx rfl (hb hby at_89) rfl ?_
          show sT p e below T4 (mkF m 90 #[iv p0, iv p1, iv p2, iv 1, iv r1, iv r2, iv 0, iv 2, iv r3, iv r4, un, un, un, un, un] [(.int 1)]) tz
          refine XS.iload X4.here hx rfl (hb hby at_90) rfl ?_
          show sT p e below T4 (mkF m 92 #[iv p0, iv p1, iv p2, iv 1, iv r1, iv r2, iv 0, iv 2, iv r3, iv r4, un, un, un, un, un] [(.int r1), (.int 1)]) tz
          refine XS.iload X4.here hx rfl (hb hby at_92) rfl ?_
          exact kz
        obtain ⟨_, _, ⟨T97, L97, k97, n97⟩, -, X97, ⟨Lc97, hQ97, l97, y97, z97⟩, st97⟩ := Jvm.LawKit.callS X4 hx (y := (⟨"com/example/stackwright/stackwright/FairValueLevelReadPinLaw", "make", "(ICC)Ljava/lang/String;"⟩ : MethodName)) hown (mvT hZ (own_w hw 4 rfl)) (mvT hZ (own_w hw 5 rfl)) (mvT hZ (own_w hw 2 rfl)) (mvT hZ (own_w hw 6 rfl)) (by decide) (backOf (W := 0) (rm2a l Z a0 hw [] r1 r2 cS h0 n0 O0 S_cs hcS lo1 hi1) hZ (own_w hw 6 rfl) (own_w hw 2 rfl) (by decide) (by decide)) (g := (mkF m 94 #[iv p0, iv p1, iv p2, iv 1, iv r1, iv r2, iv 0, iv 2, iv r3, iv r4, un, un, un, un, un] [(.int r2), (.int r1), (.int 1)])) rfl (by rw [hml]; rfl) (argsL := [(.int (1 : Int32)), (.int r1), (.int r2)]) (rest := []) (lenOf own_pd13 rfl) rfl (by show 2 * 0 + _ ≤ _; exact Nat.le_of_eq rfl) (hb hby at_94) (fun _ _ => ⟨rfl, eq4, (by decide : 0 + 4 ≤ _), (by decide : 0 + 8 ≤ _)⟩)
        dsimp only [Pt.U, Pt.locs, Pt.cells, Pt.slots] at X97 l97 y97 z97 st97 hQ97
        subst l97 y97 z97
        obtain ⟨d97, b97, kb97, rfl, Nq97, Kq97, zq97, Eq97, Fv97, Fc97, Fh97, Fz97, Eb97, Vb97⟩ := hQ97
        have N97 := Fr.app N4 Nq97
        have g_d97 : n0 ≤ d97 := Nat.le_trans (own_old O0) zq97
        have sz_d97 : h0.size ≤ d97 := Nat.le_trans (Keep.refl h0 []).1 zq97
        have O98 := O0.keep Kq97 all0
        have K98 : Keep h0 T97.heap [] := (Keep.refl h0 []).trans Kq97 all0
        refine own_on (B := T97.setTop (mkF m 97 #[iv p0, iv p1, iv p2, iv 1, iv r1, iv r2, iv 0, iv 2, iv r3, iv r4, un, un, un, un, un] [(.ref d97)])) (fun tz kz => st97 _ kz) ?_
        refine own_on (B := T97.setTop (mkF m 105 #[iv p0, iv p1, iv p2, iv 1, iv r1, iv r2, iv 0, iv 2, iv r3, iv r4, rv d97, un, un, un, un] [(.int r4), (.int r3), (.int 2)])) (fun tz kz => ?_) ?_
        · show sT p e below T97 (mkF m 97 #[iv p0, iv p1, iv p2, iv 1, iv r1, iv r2, iv 0, iv 2, iv r3, iv r4, un, un, un, un, un] [(.ref d97)]) tz
          refine XS.astore X97.here hx rfl (hb hby at_97) rfl rfl (l' := #[iv p0, iv p1, iv p2, iv 1, iv r1, iv r2, iv 0, iv 2, iv r3, iv r4, rv d97, un, un, un, un]) rfl ?_
          show sT p e below T97 (mkF m 99 #[iv p0, iv p1, iv p2, iv 1, iv r1, iv r2, iv 0, iv 2, iv r3, iv r4, rv d97, un, un, un, un] []) tz
          refine XS.iload X97.here hx rfl (hb hby at_99) rfl ?_
          show sT p e below T97 (mkF m 101 #[iv p0, iv p1, iv p2, iv 1, iv r1, iv r2, iv 0, iv 2, iv r3, iv r4, rv d97, un, un, un, un] [(.int 2)]) tz
          refine XS.iload X97.here hx rfl (hb hby at_101) rfl ?_
          show sT p e below T97 (mkF m 103 #[iv p0, iv p1, iv p2, iv 1, iv r1, iv r2, iv 0, iv 2, iv r3, iv r4, rv d97, un, un, un, un] [(.int r3), (.int 2)]) tz
          refine XS.iload X97.here hx rfl (hb hby at_103) rfl ?_
          exact kz
        obtain ⟨_, _, ⟨T99, L99, k99, n99⟩, -, X99, ⟨Lc99, hQ99, l99, y99, z99⟩, st99⟩ := Jvm.LawKit.callS X97 hx (y := (⟨"com/example/stackwright/stackwright/FairValueLevelReadPinLaw", "make", "(ICC)Ljava/lang/String;"⟩ : MethodName)) hown (mvT hZ (own_w hw 4 rfl)) (mvT hZ (own_w hw 5 rfl)) (mvT hZ (own_w hw 2 rfl)) (mvT hZ (own_w hw 6 rfl)) (by decide) (backOf (W := 0) (rm2b l Z a0 hw [] r3 r4 cS T97.heap n0 O98 S_cs hcS lo3 hi3 lo4 hi4) hZ (own_w hw 6 rfl) (own_w hw 2 rfl) (by decide) (by decide)) (g := (mkF m 105 #[iv p0, iv p1, iv p2, iv 1, iv r1, iv r2, iv 0, iv 2, iv r3, iv r4, rv d97, un, un, un, un] [(.int r4), (.int r3), (.int 2)])) rfl (by rw [hml]; rfl) (argsL := [(.int (2 : Int32)), (.int r3), (.int r4)]) (rest := []) (lenOf own_pd13 rfl) rfl (by show 2 * 0 + _ ≤ _; exact Nat.le_of_eq rfl) (hb hby at_105) (fun _ _ => ⟨rfl, rfl, (by decide : 4 + 4 ≤ _), (by decide : 8 + 8 ≤ _)⟩)
        dsimp only [Pt.U, Pt.locs, Pt.cells, Pt.slots] at X99 l99 y99 z99 st99 hQ99
        subst l99 y99 z99
        obtain ⟨d99, b99, kb99, rfl, Nq99, Kq99, zq99, Eq99, Fv99, Fc99, Fh99, Fz99, Eb99, Vb99⟩ := hQ99
        have N99 := Fr.app N97 Nq99
        have ne_b97_d99 : b97 ≠ d99 := Nat.ne_of_lt (Nat.lt_of_lt_of_le (Eb97).lt zq99)
        have ne_d97_d99 : d97 ≠ d99 := Nat.ne_of_lt (Nat.lt_of_lt_of_le (Eq97).lt zq99)
        have g_d99 : n0 ≤ d99 := Nat.le_trans (own_old O98) zq99
        have sz_d99 : h0.size ≤ d99 := Nat.le_trans K98.1 zq99
        have O100 := O98.keep Kq99 all0
        have K100 : Keep h0 T99.heap [] := K98.trans Kq99 all0
        refine own_on (B := T99.setTop (mkF m 108 #[iv p0, iv p1, iv p2, iv 1, iv r1, iv r2, iv 0, iv 2, iv r3, iv r4, rv d97, un, un, un, un] [(.ref d99)])) (fun tz kz => st99 _ kz) ?_
        have f_101 := (Vb97.keep Kq99 nin0)
        have f_102 := (Eq97.keep Kq99)
        have f_103 := (Fv97.keep Kq99 nin0)
        have f_104 := (Fc97.keep Kq99 nin0)
        have f_105 := (Fh97.keep Kq99 nin0)
        have f_106 := (Fz97.keep Kq99 nin0)
        refine own_on (B := T99.setTop (mkF m 114 #[iv p0, iv p1, iv p2, iv 1, iv r1, iv r2, iv 0, iv 2, iv r3, iv r4, rv d97, rv d99, un, un, un] [(.ref d99), (.ref d97)])) (fun tz kz => ?_) ?_
        · show sT p e below T99 (mkF m 108 #[iv p0, iv p1, iv p2, iv 1, iv r1, iv r2, iv 0, iv 2, iv r3, iv r4, rv d97, un, un, un, un] [(.ref d99)]) tz
          refine XS.astore X99.here hx rfl (hb hby at_108) rfl rfl (l' := #[iv p0, iv p1, iv p2, iv 1, iv r1, iv r2, iv 0, iv 2, iv r3, iv r4, rv d97, rv d99, un, un, un]) rfl ?_
          show sT p e below T99 (mkF m 110 #[iv p0, iv p1, iv p2, iv 1, iv r1, iv r2, iv 0, iv 2, iv r3, iv r4, rv d97, rv d99, un, un, un] []) tz
          refine XS.aload X99.here hx rfl (hb hby at_110) rfl rfl ?_
          show sT p e below T99 (mkF m 112 #[iv p0, iv p1, iv p2, iv 1, iv r1, iv r2, iv 0, iv 2, iv r3, iv r4, rv d97, rv d99, un, un, un] [(.ref d97)]) tz
          refine XS.aload X99.here hx rfl (hb hby at_112) rfl rfl ?_
          exact kz
        by_cases l1 : r1 = (49 : Int32)
        · have Vl : Arv Z T99.heap b97 kb97 .byte (1 : Int32) [(.int (49 : Int32))] (.int 0) := by have q := f_101; rw [l1, (by decide : nar .byte ((49 : Int32).toInt8.toInt32) = (49 : Int32))] at q; exact q
          obtain ⟨_, _, ⟨T107, L107, k107, n107⟩, -, X107, hSc107, hgr107, ⟨Lc107, hQ107, l107, y107, z107⟩, st107⟩ := callSS X99 hx (y := (⟨"com/example/stackwright/stackwright/Holdings$FairValueLevel", "read", "(Ljava/lang/String;Ljava/lang/String;)Lcom/example/stackwright/stackwright/Holdings$FairValueLevel;"⟩ : MethodName)) hown (mvT hZ (own_w hw 29 rfl)) (mvT hZ (own_w hw 30 rfl)) (mvT hZ (own_w hw 31 rfl)) (mvT hZ (own_w hw 32 rfl)) (by decide) (own_backK (hJ := OwnJ.warm (s := s) hJ) (W := 0) (rm6a l Z a0 hw [] d97 d99 w0 w1 w2 w3 cS b97 kb97  [] T99.heap n0 O100 S_NONE S_LEVEL_1 S_LEVEL_2 S_LEVEL_3 S_cs hcS f_102 g_d97 f_103 f_104 f_105 f_106 Vl (rm7d l Z a0 hw [] d97 d99 cS b97 b99 (1 : Int32) (2 : Int32) T99.heap n0 O100 S_cs hcS f_102 f_103 f_104 Eq99 Fv99 Fc99 (OwnArz.of f_101) (OwnArz.of Vb99) (by decide) ne_d97_d99) held1 held2 held3 hcw (by decide) (by decide) (by decide)) hZ (own_w hw 32 rfl) (own_w hw 31 rfl) (by decide) (by decide)) (g := (mkF m 114 #[iv p0, iv p1, iv p2, iv 1, iv r1, iv r2, iv 0, iv 2, iv r3, iv r4, rv d97, rv d99, un, un, un] [(.ref d99), (.ref d97)])) rfl (by rw [hml]; rfl) (argsL := [(.ref d97), (.ref d99)]) (rest := []) (lenOf own_pd14 rfl) rfl (by show 2 * 0 + _ ≤ _; exact Nat.le_of_eq rfl) (hb hby at_114) (fun _ _ => ⟨rfl, rfl, (by decide : 8 + 2 ≤ _), (by decide : 16 + 8 ≤ _)⟩)
          dsimp only [Pt.U, Pt.locs, Pt.cells, Pt.slots] at X107 l107 y107 z107 st107 hQ107 hSc107 hgr107
          subst l107 y107 z107
          have hS108 : s.Since s.vm 0 := State.WarmedH.since (State.WarmedH.refl s) 0
          obtain ⟨X107, hS107, hZ, hown⟩ := rebS hS108 (Nat.zero_le _) X107 hSc107 hgr107 hZ hown
          obtain ⟨rfl, Nq107, Kq107⟩ := hQ107
          have N107 := Fr.app N99 Nq107
          have O109 := O100.keep Kq107 (allS g_d97 all0)
          have K109 : Keep h0 T107.heap [] := K100.trans Kq107 (allS (Or.inr sz_d97) all0)
          refine own_on (B := T107.setTop (mkF m 117 #[iv p0, iv p1, iv p2, iv 1, iv r1, iv r2, iv 0, iv 2, iv r3, iv r4, rv d97, rv d99, un, un, un] [(.ref w1)])) (fun tz kz => st107.trans kz) ?_
          refine own_on (B := T107.setTop (mkF m 181 #[iv p0, iv p1, iv p2, iv 1, iv r1, iv r2, iv 0, iv 2, iv r3, iv r4, rv d97, rv d99, rv w1, iv 0, un] [])) (fun tz kz => ?_) ?_
          · show sT p e below T107 (mkF m 117 #[iv p0, iv p1, iv p2, iv 1, iv r1, iv r2, iv 0, iv 2, iv r3, iv r4, rv d97, rv d99, un, un, un] [(.ref w1)]) tz
            refine XS.astore X107.here hx rfl (hb hby at_117) rfl rfl (l' := #[iv p0, iv p1, iv p2, iv 1, iv r1, iv r2, iv 0, iv 2, iv r3, iv r4, rv d97, rv d99, rv w1, un, un]) rfl ?_
            show sT p e below T107 (mkF m 119 #[iv p0, iv p1, iv p2, iv 1, iv r1, iv r2, iv 0, iv 2, iv r3, iv r4, rv d97, rv d99, rv w1, un, un] []) tz
            refine XS.iloadN X107.here hx rfl (hb hby at_119) rfl ?_
            show sT p e below T107 (mkF m 120 #[iv p0, iv p1, iv p2, iv 1, iv r1, iv r2, iv 0, iv 2, iv r3, iv r4, rv d97, rv d99, rv w1, un, un] [(.int 1)]) tz
            refine XS.iload X107.here hx rfl (hb hby at_120) rfl ?_
            show sT p e below T107 (mkF m 122 #[iv p0, iv p1, iv p2, iv 1, iv r1, iv r2, iv 0, iv 2, iv r3, iv r4, rv d97, rv d99, rv w1, un, un] [(.int 2), (.int 1)]) tz
            refine XS.icmpYes X107.here hx rfl (pc0 := 122) (pc' := 153) rfl (hb hby at_122) rfl (feq (by decide : ¬ ((1 : Int32) = (2 : Int32)))).2 (by decide) (by decide) ?_
            show sT p e below T107 (mkF m 153 #[iv p0, iv p1, iv p2, iv 1, iv r1, iv r2, iv 0, iv 2, iv r3, iv r4, rv d97, rv d99, rv w1, un, un] []) tz
            refine XS.iconst X107.here hx rfl (hb hby at_153) ?_
            show sT p e below T107 (mkF m 154 #[iv p0, iv p1, iv p2, iv 1, iv r1, iv r2, iv 0, iv 2, iv r3, iv r4, rv d97, rv d99, rv w1, un, un] [(.int 0)]) tz
            refine XS.istore X107.here hx rfl (hb hby at_154) rfl (l' := #[iv p0, iv p1, iv p2, iv 1, iv r1, iv r2, iv 0, iv 2, iv r3, iv r4, rv d97, rv d99, rv w1, iv 0, un]) rfl ?_
            show sT p e below T107 (mkF m 156 #[iv p0, iv p1, iv p2, iv 1, iv r1, iv r2, iv 0, iv 2, iv r3, iv r4, rv d97, rv d99, rv w1, iv 0, un] []) tz
            refine XS.iload X107.here hx rfl (hb hby at_156) rfl ?_
            show sT p e below T107 (mkF m 158 #[iv p0, iv p1, iv p2, iv 1, iv r1, iv r2, iv 0, iv 2, iv r3, iv r4, rv d97, rv d99, rv w1, iv 0, un] [(.int 0)]) tz
            refine XS.ifYes X107.here hx rfl (pc0 := 158) (pc' := 169) rfl (hb hby at_158) rfl ((if0 _ _).trans (teq rfl).1) (by decide) (by decide) ?_
            show sT p e below T107 (mkF m 169 #[iv p0, iv p1, iv p2, iv 1, iv r1, iv r2, iv 0, iv 2, iv r3, iv r4, rv d97, rv d99, rv w1, iv 0, un] []) tz
            refine XS.iloadN X107.here hx rfl (hb hby at_169) rfl ?_
            show sT p e below T107 (mkF m 170 #[iv p0, iv p1, iv p2, iv 1, iv r1, iv r2, iv 0, iv 2, iv r3, iv r4, rv d97, rv d99, rv w1, iv 0, un] [(.int 1)]) tz
            refine XS.iconst X107.here hx rfl (hb hby at_170) ?_
            show sT p e below T107 (mkF m 171 #[iv p0, iv p1, iv p2, iv 1, iv r1, iv r2, iv 0, iv 2, iv r3, iv r4, rv d97, rv d99, rv w1, iv 0, un] [(.int 1), (.int 1)]) tz
            refine XS.icmpNo X107.here hx rfl (hb hby at_171) rfl (teq rfl).2 ?_
            show sT p e below T107 (mkF m 174 #[iv p0, iv p1, iv p2, iv 1, iv r1, iv r2, iv 0, iv 2, iv r3, iv r4, rv d97, rv d99, rv w1, iv 0, un] []) tz
            refine XS.iload X107.here hx rfl (hb hby at_174) rfl ?_
            show sT p e below T107 (mkF m 176 #[iv p0, iv p1, iv p2, iv 1, iv r1, iv r2, iv 0, iv 2, iv r3, iv r4, rv d97, rv d99, rv w1, iv 0, un] [(.int r1)]) tz
            refine XS.bipush X107.here hx rfl (hb hby at_176) ?_
            show sT p e below T107 (mkF m 178 #[iv p0, iv p1, iv p2, iv 1, iv r1, iv r2, iv 0, iv 2, iv r3, iv r4, rv d97, rv d99, rv w1, iv 0, un] [(.int 49), (.int r1)]) tz
            refine XS.icmpNo X107.here hx rfl (hb hby at_178) rfl (teq l1).2 ?_
            exact kz
          obtain ⟨T110, X110, e110, st110⟩ := getS2 X107 hx hZ hown (host := "") (Or.inl (own_w hw 90 rfl)) Via.refl rfl (S_LEVEL_1.ext O109.2) (g := (mkF m 181 #[iv p0, iv p1, iv p2, iv 1, iv r1, iv r2, iv 0, iv 2, iv r3, iv r4, rv d97, rv d99, rv w1, iv 0, un] [])) rfl (hb hby at_181)
          refine own_on (B := T110.setTop (mkF m 184 #[iv p0, iv p1, iv p2, iv 1, iv r1, iv r2, iv 0, iv 2, iv r3, iv r4, rv d97, rv d99, rv w1, iv 0, un] [(.ref w1)])) (fun tz kz => st110 _ kz) ?_
          refine own_on (B := T110.setTop (mkF m 244 #[iv p0, iv p1, iv p2, iv 1, iv r1, iv r2, iv 0, iv 2, iv r3, iv r4, rv d97, rv d99, rv w1, iv 0, rv w1] [(.int 1)])) (fun tz kz => ?_) ?_
          · show sT p e below T110 (mkF m 184 #[iv p0, iv p1, iv p2, iv 1, iv r1, iv r2, iv 0, iv 2, iv r3, iv r4, rv d97, rv d99, rv w1, iv 0, un] [(.ref w1)]) tz
            refine XS.astore X110.here hx rfl (hb hby at_184) rfl rfl (l' := #[iv p0, iv p1, iv p2, iv 1, iv r1, iv r2, iv 0, iv 2, iv r3, iv r4, rv d97, rv d99, rv w1, iv 0, rv w1]) rfl ?_
            show sT p e below T110 (mkF m 186 #[iv p0, iv p1, iv p2, iv 1, iv r1, iv r2, iv 0, iv 2, iv r3, iv r4, rv d97, rv d99, rv w1, iv 0, rv w1] []) tz
            refine XS.goto X110.here hx rfl (pc0 := 186) (pc' := 232) rfl (hb hby at_186) (by decide) (by decide) ?_
            show sT p e below T110 (mkF m 232 #[iv p0, iv p1, iv p2, iv 1, iv r1, iv r2, iv 0, iv 2, iv r3, iv r4, rv d97, rv d99, rv w1, iv 0, rv w1] []) tz
            refine XS.aload X110.here hx rfl (hb hby at_232) rfl rfl ?_
            show sT p e below T110 (mkF m 234 #[iv p0, iv p1, iv p2, iv 1, iv r1, iv r2, iv 0, iv 2, iv r3, iv r4, rv d97, rv d99, rv w1, iv 0, rv w1] [(.ref w1)]) tz
            refine XS.aload X110.here hx rfl (hb hby at_234) rfl rfl ?_
            show sT p e below T110 (mkF m 236 #[iv p0, iv p1, iv p2, iv 1, iv r1, iv r2, iv 0, iv 2, iv r3, iv r4, rv d97, rv d99, rv w1, iv 0, rv w1] [(.ref w1), (.ref w1)]) tz
            refine Jvm.RoadKit.acmp (g := (mkF m 236 #[iv p0, iv p1, iv p2, iv 1, iv r1, iv r2, iv 0, iv 2, iv r3, iv r4, rv d97, rv d99, rv w1, iv 0, rv w1] [(.ref w1), (.ref w1)])) X110 hx rfl rfl rfl (pc0 := 236) (pc' := 239) (same := true) rfl (hb hby at_236) rfl (decide_eq_true (congrArg Value.ref rfl)) (by decide) (by decide) ?_
            show sT p e below T110 (mkF m 239 #[iv p0, iv p1, iv p2, iv 1, iv r1, iv r2, iv 0, iv 2, iv r3, iv r4, rv d97, rv d99, rv w1, iv 0, rv w1] []) tz
            refine XS.iconst X110.here hx rfl (hb hby at_239) ?_
            show sT p e below T110 (mkF m 240 #[iv p0, iv p1, iv p2, iv 1, iv r1, iv r2, iv 0, iv 2, iv r3, iv r4, rv d97, rv d99, rv w1, iv 0, rv w1] [(.int 1)]) tz
            refine XS.goto X110.here hx rfl (pc0 := 240) (pc' := 244) rfl (hb hby at_240) (by decide) (by decide) ?_
            exact kz
          obtain ⟨fs, hr, hrun, hended, hRW⟩ := Jvm.Stand.leaveW X110 hS107 (by rw [e110]; exact (Nat.le_refl T107.heap.size)) (v := some (.int (1 : Int32))) (fun h => by rw [Bd.returns] at h; cases h)
          refine own_of ⟨_, _, ?_, hrun, hended, _, _, rfl, ?_, hRW.1, hRW.2.1, hRW.2.2.1, hRW.2.2.2.mono (by decide) (by decide)⟩
          · show sT p e below T110 (mkF m 244 #[iv p0, iv p1, iv p2, iv 1, iv r1, iv r2, iv 0, iv 2, iv r3, iv r4, rv d97, rv d99, rv w1, iv 0, rv w1] [(.int 1)]) _
            exact own_retN X110 hx (t := .boolean) Bd.returns (by simp) (by first | rfl | (split <;> first | rfl | (split <;> first | rfl | (split <;> rfl)))) (hb hby at_244) hr
          · show Q0 Z p0 p1 p2 w0 w1 w2 w3 cS h0 n0 _ T110.heap _
            rw [e110]
            exact ⟨rfl, N107⟩
        · by_cases l2 : r1 = (50 : Int32)
          · have Vl : Arv Z T99.heap b97 kb97 .byte (1 : Int32) [(.int (50 : Int32))] (.int 0) := by have q := f_101; rw [l2, (by decide : nar .byte ((50 : Int32).toInt8.toInt32) = (50 : Int32))] at q; exact q
            obtain ⟨_, _, ⟨T111, L111, k111, n111⟩, -, X111, hSc111, hgr111, ⟨Lc111, hQ111, l111, y111, z111⟩, st111⟩ := callSS X99 hx (y := (⟨"com/example/stackwright/stackwright/Holdings$FairValueLevel", "read", "(Ljava/lang/String;Ljava/lang/String;)Lcom/example/stackwright/stackwright/Holdings$FairValueLevel;"⟩ : MethodName)) hown (mvT hZ (own_w hw 29 rfl)) (mvT hZ (own_w hw 30 rfl)) (mvT hZ (own_w hw 31 rfl)) (mvT hZ (own_w hw 32 rfl)) (by decide) (own_backK (hJ := OwnJ.warm (s := s) hJ) (W := 0) (rm6b l Z a0 hw [] d97 d99 w0 w1 w2 w3 cS b97 kb97  [] T99.heap n0 O100 S_NONE S_LEVEL_1 S_LEVEL_2 S_LEVEL_3 S_cs hcS f_102 g_d97 f_103 f_104 f_105 f_106 Vl (rm7d l Z a0 hw [] d97 d99 cS b97 b99 (1 : Int32) (2 : Int32) T99.heap n0 O100 S_cs hcS f_102 f_103 f_104 Eq99 Fv99 Fc99 (OwnArz.of f_101) (OwnArz.of Vb99) (by decide) ne_d97_d99) held1 held2 held3 hcw (by decide) (by decide) (by decide)) hZ (own_w hw 32 rfl) (own_w hw 31 rfl) (by decide) (by decide)) (g := (mkF m 114 #[iv p0, iv p1, iv p2, iv 1, iv r1, iv r2, iv 0, iv 2, iv r3, iv r4, rv d97, rv d99, un, un, un] [(.ref d99), (.ref d97)])) rfl (by rw [hml]; rfl) (argsL := [(.ref d97), (.ref d99)]) (rest := []) (lenOf own_pd14 rfl) rfl (by show 2 * 0 + _ ≤ _; exact Nat.le_of_eq rfl) (hb hby at_114) (fun _ _ => ⟨rfl, rfl, (by decide : 8 + 2 ≤ _), (by decide : 16 + 8 ≤ _)⟩)
            dsimp only [Pt.U, Pt.locs, Pt.cells, Pt.slots] at X111 l111 y111 z111 st111 hQ111 hSc111 hgr111
            subst l111 y111 z111
            have hS112 : s.Since s.vm 0 := State.WarmedH.since (State.WarmedH.refl s) 0
            obtain ⟨X111, hS111, hZ, hown⟩ := rebS hS112 (Nat.zero_le _) X111 hSc111 hgr111 hZ hown
            obtain ⟨rfl, Nq111, Kq111⟩ := hQ111
            have N111 := Fr.app N99 Nq111
            have O113 := O100.keep Kq111 (allS g_d97 all0)
            have K113 : Keep h0 T111.heap [] := K100.trans Kq111 (allS (Or.inr sz_d97) all0)
            refine own_on (B := T111.setTop (mkF m 117 #[iv p0, iv p1, iv p2, iv 1, iv r1, iv r2, iv 0, iv 2, iv r3, iv r4, rv d97, rv d99, un, un, un] [(.ref w2)])) (fun tz kz => st111.trans kz) ?_
            refine own_on (B := T111.setTop (mkF m 201 #[iv p0, iv p1, iv p2, iv 1, iv r1, iv r2, iv 0, iv 2, iv r3, iv r4, rv d97, rv d99, rv w2, iv 0, un] [])) (fun tz kz => ?_) ?_
            · show sT p e below T111 (mkF m 117 #[iv p0, iv p1, iv p2, iv 1, iv r1, iv r2, iv 0, iv 2, iv r3, iv r4, rv d97, rv d99, un, un, un] [(.ref w2)]) tz
              refine XS.astore X111.here hx rfl (hb hby at_117) rfl rfl (l' := #[iv p0, iv p1, iv p2, iv 1, iv r1, iv r2, iv 0, iv 2, iv r3, iv r4, rv d97, rv d99, rv w2, un, un]) rfl ?_
              show sT p e below T111 (mkF m 119 #[iv p0, iv p1, iv p2, iv 1, iv r1, iv r2, iv 0, iv 2, iv r3, iv r4, rv d97, rv d99, rv w2, un, un] []) tz
              refine XS.iloadN X111.here hx rfl (hb hby at_119) rfl ?_
              show sT p e below T111 (mkF m 120 #[iv p0, iv p1, iv p2, iv 1, iv r1, iv r2, iv 0, iv 2, iv r3, iv r4, rv d97, rv d99, rv w2, un, un] [(.int 1)]) tz
              refine XS.iload X111.here hx rfl (hb hby at_120) rfl ?_
              show sT p e below T111 (mkF m 122 #[iv p0, iv p1, iv p2, iv 1, iv r1, iv r2, iv 0, iv 2, iv r3, iv r4, rv d97, rv d99, rv w2, un, un] [(.int 2), (.int 1)]) tz
              refine XS.icmpYes X111.here hx rfl (pc0 := 122) (pc' := 153) rfl (hb hby at_122) rfl (feq (by decide : ¬ ((1 : Int32) = (2 : Int32)))).2 (by decide) (by decide) ?_
              show sT p e below T111 (mkF m 153 #[iv p0, iv p1, iv p2, iv 1, iv r1, iv r2, iv 0, iv 2, iv r3, iv r4, rv d97, rv d99, rv w2, un, un] []) tz
              refine XS.iconst X111.here hx rfl (hb hby at_153) ?_
              show sT p e below T111 (mkF m 154 #[iv p0, iv p1, iv p2, iv 1, iv r1, iv r2, iv 0, iv 2, iv r3, iv r4, rv d97, rv d99, rv w2, un, un] [(.int 0)]) tz
              refine XS.istore X111.here hx rfl (hb hby at_154) rfl (l' := #[iv p0, iv p1, iv p2, iv 1, iv r1, iv r2, iv 0, iv 2, iv r3, iv r4, rv d97, rv d99, rv w2, iv 0, un]) rfl ?_
              show sT p e below T111 (mkF m 156 #[iv p0, iv p1, iv p2, iv 1, iv r1, iv r2, iv 0, iv 2, iv r3, iv r4, rv d97, rv d99, rv w2, iv 0, un] []) tz
              refine XS.iload X111.here hx rfl (hb hby at_156) rfl ?_
              show sT p e below T111 (mkF m 158 #[iv p0, iv p1, iv p2, iv 1, iv r1, iv r2, iv 0, iv 2, iv r3, iv r4, rv d97, rv d99, rv w2, iv 0, un] [(.int 0)]) tz
              refine XS.ifYes X111.here hx rfl (pc0 := 158) (pc' := 169) rfl (hb hby at_158) rfl ((if0 _ _).trans (teq rfl).1) (by decide) (by decide) ?_
              show sT p e below T111 (mkF m 169 #[iv p0, iv p1, iv p2, iv 1, iv r1, iv r2, iv 0, iv 2, iv r3, iv r4, rv d97, rv d99, rv w2, iv 0, un] []) tz
              refine XS.iloadN X111.here hx rfl (hb hby at_169) rfl ?_
              show sT p e below T111 (mkF m 170 #[iv p0, iv p1, iv p2, iv 1, iv r1, iv r2, iv 0, iv 2, iv r3, iv r4, rv d97, rv d99, rv w2, iv 0, un] [(.int 1)]) tz
              refine XS.iconst X111.here hx rfl (hb hby at_170) ?_
              show sT p e below T111 (mkF m 171 #[iv p0, iv p1, iv p2, iv 1, iv r1, iv r2, iv 0, iv 2, iv r3, iv r4, rv d97, rv d99, rv w2, iv 0, un] [(.int 1), (.int 1)]) tz
              refine XS.icmpNo X111.here hx rfl (hb hby at_171) rfl (teq rfl).2 ?_
              show sT p e below T111 (mkF m 174 #[iv p0, iv p1, iv p2, iv 1, iv r1, iv r2, iv 0, iv 2, iv r3, iv r4, rv d97, rv d99, rv w2, iv 0, un] []) tz
              refine XS.iload X111.here hx rfl (hb hby at_174) rfl ?_
              show sT p e below T111 (mkF m 176 #[iv p0, iv p1, iv p2, iv 1, iv r1, iv r2, iv 0, iv 2, iv r3, iv r4, rv d97, rv d99, rv w2, iv 0, un] [(.int r1)]) tz
              refine XS.bipush X111.here hx rfl (hb hby at_176) ?_
              show sT p e below T111 (mkF m 178 #[iv p0, iv p1, iv p2, iv 1, iv r1, iv r2, iv 0, iv 2, iv r3, iv r4, rv d97, rv d99, rv w2, iv 0, un] [(.int 49), (.int r1)]) tz
              refine XS.icmpYes X111.here hx rfl (pc0 := 178) (pc' := 189) rfl (hb hby at_178) rfl (feq l1).2 (by decide) (by decide) ?_
              show sT p e below T111 (mkF m 189 #[iv p0, iv p1, iv p2, iv 1, iv r1, iv r2, iv 0, iv 2, iv r3, iv r4, rv d97, rv d99, rv w2, iv 0, un] []) tz
              refine XS.iloadN X111.here hx rfl (hb hby at_189) rfl ?_
              show sT p e below T111 (mkF m 190 #[iv p0, iv p1, iv p2, iv 1, iv r1, iv r2, iv 0, iv 2, iv r3, iv r4, rv d97, rv d99, rv w2, iv 0, un] [(.int 1)]) tz
              refine XS.iconst X111.here hx rfl (hb hby at_190) ?_
              show sT p e below T111 (mkF m 191 #[iv p0, iv p1, iv p2, iv 1, iv r1, iv r2, iv 0, iv 2, iv r3, iv r4, rv d97, rv d99, rv w2, iv 0, un] [(.int 1), (.int 1)]) tz
              refine XS.icmpNo X111.here hx rfl (hb hby at_191) rfl (teq rfl).2 ?_
              show sT p e below T111 (mkF m 194 #[iv p0, iv p1, iv p2, iv 1, iv r1, iv r2, iv 0, iv 2, iv r3, iv r4, rv d97, rv d99, rv w2, iv 0, un] []) tz
              refine XS.iload X111.here hx rfl (hb hby at_194) rfl ?_
              show sT p e below T111 (mkF m 196 #[iv p0, iv p1, iv p2, iv 1, iv r1, iv r2, iv 0, iv 2, iv r3, iv r4, rv d97, rv d99, rv w2, iv 0, un] [(.int r1)]) tz
              refine XS.bipush X111.here hx rfl (hb hby at_196) ?_
              show sT p e below T111 (mkF m 198 #[iv p0, iv p1, iv p2, iv 1, iv r1, iv r2, iv 0, iv 2, iv r3, iv r4, rv d97, rv d99, rv w2, iv 0, un] [(.int 50), (.int r1)]) tz
              refine XS.icmpNo X111.here hx rfl (hb hby at_198) rfl (teq l2).2 ?_
              exact kz
            obtain ⟨T114, X114, e114, st114⟩ := getS2 X111 hx hZ hown (host := "") (Or.inl (own_w hw 94 rfl)) Via.refl rfl (S_LEVEL_2.ext O113.2) (g := (mkF m 201 #[iv p0, iv p1, iv p2, iv 1, iv r1, iv r2, iv 0, iv 2, iv r3, iv r4, rv d97, rv d99, rv w2, iv 0, un] [])) rfl (hb hby at_201)
            refine own_on (B := T114.setTop (mkF m 204 #[iv p0, iv p1, iv p2, iv 1, iv r1, iv r2, iv 0, iv 2, iv r3, iv r4, rv d97, rv d99, rv w2, iv 0, un] [(.ref w2)])) (fun tz kz => st114 _ kz) ?_
            refine own_on (B := T114.setTop (mkF m 244 #[iv p0, iv p1, iv p2, iv 1, iv r1, iv r2, iv 0, iv 2, iv r3, iv r4, rv d97, rv d99, rv w2, iv 0, rv w2] [(.int 1)])) (fun tz kz => ?_) ?_
            · show sT p e below T114 (mkF m 204 #[iv p0, iv p1, iv p2, iv 1, iv r1, iv r2, iv 0, iv 2, iv r3, iv r4, rv d97, rv d99, rv w2, iv 0, un] [(.ref w2)]) tz
              refine XS.astore X114.here hx rfl (hb hby at_204) rfl rfl (l' := #[iv p0, iv p1, iv p2, iv 1, iv r1, iv r2, iv 0, iv 2, iv r3, iv r4, rv d97, rv d99, rv w2, iv 0, rv w2]) rfl ?_
              show sT p e below T114 (mkF m 206 #[iv p0, iv p1, iv p2, iv 1, iv r1, iv r2, iv 0, iv 2, iv r3, iv r4, rv d97, rv d99, rv w2, iv 0, rv w2] []) tz
              refine XS.goto X114.here hx rfl (pc0 := 206) (pc' := 232) rfl (hb hby at_206) (by decide) (by decide) ?_
              show sT p e below T114 (mkF m 232 #[iv p0, iv p1, iv p2, iv 1, iv r1, iv r2, iv 0, iv 2, iv r3, iv r4, rv d97, rv d99, rv w2, iv 0, rv w2] []) tz
              refine XS.aload X114.here hx rfl (hb hby at_232) rfl rfl ?_
              show sT p e below T114 (mkF m 234 #[iv p0, iv p1, iv p2, iv 1, iv r1, iv r2, iv 0, iv 2, iv r3, iv r4, rv d97, rv d99, rv w2, iv 0, rv w2] [(.ref w2)]) tz
              refine XS.aload X114.here hx rfl (hb hby at_234) rfl rfl ?_
              show sT p e below T114 (mkF m 236 #[iv p0, iv p1, iv p2, iv 1, iv r1, iv r2, iv 0, iv 2, iv r3, iv r4, rv d97, rv d99, rv w2, iv 0, rv w2] [(.ref w2), (.ref w2)]) tz
              refine Jvm.RoadKit.acmp (g := (mkF m 236 #[iv p0, iv p1, iv p2, iv 1, iv r1, iv r2, iv 0, iv 2, iv r3, iv r4, rv d97, rv d99, rv w2, iv 0, rv w2] [(.ref w2), (.ref w2)])) X114 hx rfl rfl rfl (pc0 := 236) (pc' := 239) (same := true) rfl (hb hby at_236) rfl (decide_eq_true (congrArg Value.ref rfl)) (by decide) (by decide) ?_
              show sT p e below T114 (mkF m 239 #[iv p0, iv p1, iv p2, iv 1, iv r1, iv r2, iv 0, iv 2, iv r3, iv r4, rv d97, rv d99, rv w2, iv 0, rv w2] []) tz
              refine XS.iconst X114.here hx rfl (hb hby at_239) ?_
              show sT p e below T114 (mkF m 240 #[iv p0, iv p1, iv p2, iv 1, iv r1, iv r2, iv 0, iv 2, iv r3, iv r4, rv d97, rv d99, rv w2, iv 0, rv w2] [(.int 1)]) tz
              refine XS.goto X114.here hx rfl (pc0 := 240) (pc' := 244) rfl (hb hby at_240) (by decide) (by decide) ?_
              exact kz
            obtain ⟨fs, hr, hrun, hended, hRW⟩ := Jvm.Stand.leaveW X114 hS111 (by rw [e114]; exact (Nat.le_refl T111.heap.size)) (v := some (.int (1 : Int32))) (fun h => by rw [Bd.returns] at h; cases h)
            refine own_of ⟨_, _, ?_, hrun, hended, _, _, rfl, ?_, hRW.1, hRW.2.1, hRW.2.2.1, hRW.2.2.2.mono (by decide) (by decide)⟩
            · show sT p e below T114 (mkF m 244 #[iv p0, iv p1, iv p2, iv 1, iv r1, iv r2, iv 0, iv 2, iv r3, iv r4, rv d97, rv d99, rv w2, iv 0, rv w2] [(.int 1)]) _
              exact own_retN X114 hx (t := .boolean) Bd.returns (by simp) (by first | rfl | (split <;> first | rfl | (split <;> first | rfl | (split <;> rfl)))) (hb hby at_244) hr
            · show Q0 Z p0 p1 p2 w0 w1 w2 w3 cS h0 n0 _ T114.heap _
              rw [e114]
              exact ⟨rfl, N111⟩
          · by_cases l3 : r1 = (51 : Int32)
            · have Vl : Arv Z T99.heap b97 kb97 .byte (1 : Int32) [(.int (51 : Int32))] (.int 0) := by have q := f_101; rw [l3, (by decide : nar .byte ((51 : Int32).toInt8.toInt32) = (51 : Int32))] at q; exact q
              obtain ⟨_, _, ⟨T115, L115, k115, n115⟩, -, X115, hSc115, hgr115, ⟨Lc115, hQ115, l115, y115, z115⟩, st115⟩ := callSS X99 hx (y := (⟨"com/example/stackwright/stackwright/Holdings$FairValueLevel", "read", "(Ljava/lang/String;Ljava/lang/String;)Lcom/example/stackwright/stackwright/Holdings$FairValueLevel;"⟩ : MethodName)) hown (mvT hZ (own_w hw 29 rfl)) (mvT hZ (own_w hw 30 rfl)) (mvT hZ (own_w hw 31 rfl)) (mvT hZ (own_w hw 32 rfl)) (by decide) (own_backK (hJ := OwnJ.warm (s := s) hJ) (W := 0) (rm6c l Z a0 hw [] d97 d99 w0 w1 w2 w3 cS b97 kb97  [] T99.heap n0 O100 S_NONE S_LEVEL_1 S_LEVEL_2 S_LEVEL_3 S_cs hcS f_102 g_d97 f_103 f_104 f_105 f_106 Vl (rm7d l Z a0 hw [] d97 d99 cS b97 b99 (1 : Int32) (2 : Int32) T99.heap n0 O100 S_cs hcS f_102 f_103 f_104 Eq99 Fv99 Fc99 (OwnArz.of f_101) (OwnArz.of Vb99) (by decide) ne_d97_d99) held1 held2 held3 hcw (by decide) (by decide) (by decide)) hZ (own_w hw 32 rfl) (own_w hw 31 rfl) (by decide) (by decide)) (g := (mkF m 114 #[iv p0, iv p1, iv p2, iv 1, iv r1, iv r2, iv 0, iv 2, iv r3, iv r4, rv d97, rv d99, un, un, un] [(.ref d99), (.ref d97)])) rfl (by rw [hml]; rfl) (argsL := [(.ref d97), (.ref d99)]) (rest := []) (lenOf own_pd14 rfl) rfl (by show 2 * 0 + _ ≤ _; exact Nat.le_of_eq rfl) (hb hby at_114) (fun _ _ => ⟨rfl, rfl, (by decide : 8 + 2 ≤ _), (by decide : 16 + 8 ≤ _)⟩)
              dsimp only [Pt.U, Pt.locs, Pt.cells, Pt.slots] at X115 l115 y115 z115 st115 hQ115 hSc115 hgr115
              subst l115 y115 z115
              have hS116 : s.Since s.vm 0 := State.WarmedH.since (State.WarmedH.refl s) 0
              obtain ⟨X115, hS115, hZ, hown⟩ := rebS hS116 (Nat.zero_le _) X115 hSc115 hgr115 hZ hown
              obtain ⟨rfl, Nq115, Kq115⟩ := hQ115
              have N115 := Fr.app N99 Nq115
              have O117 := O100.keep Kq115 (allS g_d97 all0)
              have K117 : Keep h0 T115.heap [] := K100.trans Kq115 (allS (Or.inr sz_d97) all0)
              refine own_on (B := T115.setTop (mkF m 117 #[iv p0, iv p1, iv p2, iv 1, iv r1, iv r2, iv 0, iv 2, iv r3, iv r4, rv d97, rv d99, un, un, un] [(.ref w3)])) (fun tz kz => st115.trans kz) ?_
              refine own_on (B := T115.setTop (mkF m 221 #[iv p0, iv p1, iv p2, iv 1, iv r1, iv r2, iv 0, iv 2, iv r3, iv r4, rv d97, rv d99, rv w3, iv 0, un] [])) (fun tz kz => ?_) ?_
              · show sT p e below T115 (mkF m 117 #[iv p0, iv p1, iv p2, iv 1, iv r1, iv r2, iv 0, iv 2, iv r3, iv r4, rv d97, rv d99, un, un, un] [(.ref w3)]) tz
                refine XS.astore X115.here hx rfl (hb hby at_117) rfl rfl (l' := #[iv p0, iv p1, iv p2, iv 1, iv r1, iv r2, iv 0, iv 2, iv r3, iv r4, rv d97, rv d99, rv w3, un, un]) rfl ?_
                show sT p e below T115 (mkF m 119 #[iv p0, iv p1, iv p2, iv 1, iv r1, iv r2, iv 0, iv 2, iv r3, iv r4, rv d97, rv d99, rv w3, un, un] []) tz
                refine XS.iloadN X115.here hx rfl (hb hby at_119) rfl ?_
                show sT p e below T115 (mkF m 120 #[iv p0, iv p1, iv p2, iv 1, iv r1, iv r2, iv 0, iv 2, iv r3, iv r4, rv d97, rv d99, rv w3, un, un] [(.int 1)]) tz
                refine XS.iload X115.here hx rfl (hb hby at_120) rfl ?_
                show sT p e below T115 (mkF m 122 #[iv p0, iv p1, iv p2, iv 1, iv r1, iv r2, iv 0, iv 2, iv r3, iv r4, rv d97, rv d99, rv w3, un, un] [(.int 2), (.int 1)]) tz
                refine XS.icmpYes X115.here hx rfl (pc0 := 122) (pc' := 153) rfl (hb hby at_122) rfl (feq (by decide : ¬ ((1 : Int32) = (2 : Int32)))).2 (by decide) (by decide) ?_
                show sT p e below T115 (mkF m 153 #[iv p0, iv p1, iv p2, iv 1, iv r1, iv r2, iv 0, iv 2, iv r3, iv r4, rv d97, rv d99, rv w3, un, un] []) tz
                refine XS.iconst X115.here hx rfl (hb hby at_153) ?_
                show sT p e below T115 (mkF m 154 #[iv p0, iv p1, iv p2, iv 1, iv r1, iv r2, iv 0, iv 2, iv r3, iv r4, rv d97, rv d99, rv w3, un, un] [(.int 0)]) tz
                refine XS.istore X115.here hx rfl (hb hby at_154) rfl (l' := #[iv p0, iv p1, iv p2, iv 1, iv r1, iv r2, iv 0, iv 2, iv r3, iv r4, rv d97, rv d99, rv w3, iv 0, un]) rfl ?_
                show sT p e below T115 (mkF m 156 #[iv p0, iv p1, iv p2, iv 1, iv r1, iv r2, iv 0, iv 2, iv r3, iv r4, rv d97, rv d99, rv w3, iv 0, un] []) tz
                refine XS.iload X115.here hx rfl (hb hby at_156) rfl ?_
                show sT p e below T115 (mkF m 158 #[iv p0, iv p1, iv p2, iv 1, iv r1, iv r2, iv 0, iv 2, iv r3, iv r4, rv d97, rv d99, rv w3, iv 0, un] [(.int 0)]) tz
                refine XS.ifYes X115.here hx rfl (pc0 := 158) (pc' := 169) rfl (hb hby at_158) rfl ((if0 _ _).trans (teq rfl).1) (by decide) (by decide) ?_
                show sT p e below T115 (mkF m 169 #[iv p0, iv p1, iv p2, iv 1, iv r1, iv r2, iv 0, iv 2, iv r3, iv r4, rv d97, rv d99, rv w3, iv 0, un] []) tz
                refine XS.iloadN X115.here hx rfl (hb hby at_169) rfl ?_
                show sT p e below T115 (mkF m 170 #[iv p0, iv p1, iv p2, iv 1, iv r1, iv r2, iv 0, iv 2, iv r3, iv r4, rv d97, rv d99, rv w3, iv 0, un] [(.int 1)]) tz
                refine XS.iconst X115.here hx rfl (hb hby at_170) ?_
                show sT p e below T115 (mkF m 171 #[iv p0, iv p1, iv p2, iv 1, iv r1, iv r2, iv 0, iv 2, iv r3, iv r4, rv d97, rv d99, rv w3, iv 0, un] [(.int 1), (.int 1)]) tz
                refine XS.icmpNo X115.here hx rfl (hb hby at_171) rfl (teq rfl).2 ?_
                show sT p e below T115 (mkF m 174 #[iv p0, iv p1, iv p2, iv 1, iv r1, iv r2, iv 0, iv 2, iv r3, iv r4, rv d97, rv d99, rv w3, iv 0, un] []) tz
                refine XS.iload X115.here hx rfl (hb hby at_174) rfl ?_
                show sT p e below T115 (mkF m 176 #[iv p0, iv p1, iv p2, iv 1, iv r1, iv r2, iv 0, iv 2, iv r3, iv r4, rv d97, rv d99, rv w3, iv 0, un] [(.int r1)]) tz
                refine XS.bipush X115.here hx rfl (hb hby at_176) ?_
                show sT p e below T115 (mkF m 178 #[iv p0, iv p1, iv p2, iv 1, iv r1, iv r2, iv 0, iv 2, iv r3, iv r4, rv d97, rv d99, rv w3, iv 0, un] [(.int 49), (.int r1)]) tz
                refine XS.icmpYes X115.here hx rfl (pc0 := 178) (pc' := 189) rfl (hb hby at_178) rfl (feq l1).2 (by decide) (by decide) ?_
                show sT p e below T115 (mkF m 189 #[iv p0, iv p1, iv p2, iv 1, iv r1, iv r2, iv 0, iv 2, iv r3, iv r4, rv d97, rv d99, rv w3, iv 0, un] []) tz
                refine XS.iloadN X115.here hx rfl (hb hby at_189) rfl ?_
                show sT p e below T115 (mkF m 190 #[iv p0, iv p1, iv p2, iv 1, iv r1, iv r2, iv 0, iv 2, iv r3, iv r4, rv d97, rv d99, rv w3, iv 0, un] [(.int 1)]) tz
                refine XS.iconst X115.here hx rfl (hb hby at_190) ?_
                show sT p e below T115 (mkF m 191 #[iv p0, iv p1, iv p2, iv 1, iv r1, iv r2, iv 0, iv 2, iv r3, iv r4, rv d97, rv d99, rv w3, iv 0, un] [(.int 1), (.int 1)]) tz
                refine XS.icmpNo X115.here hx rfl (hb hby at_191) rfl (teq rfl).2 ?_
                show sT p e below T115 (mkF m 194 #[iv p0, iv p1, iv p2, iv 1, iv r1, iv r2, iv 0, iv 2, iv r3, iv r4, rv d97, rv d99, rv w3, iv 0, un] []) tz
                refine XS.iload X115.here hx rfl (hb hby at_194) rfl ?_
                show sT p e below T115 (mkF m 196 #[iv p0, iv p1, iv p2, iv 1, iv r1, iv r2, iv 0, iv 2, iv r3, iv r4, rv d97, rv d99, rv w3, iv 0, un] [(.int r1)]) tz
                refine XS.bipush X115.here hx rfl (hb hby at_196) ?_
                show sT p e below T115 (mkF m 198 #[iv p0, iv p1, iv p2, iv 1, iv r1, iv r2, iv 0, iv 2, iv r3, iv r4, rv d97, rv d99, rv w3, iv 0, un] [(.int 50), (.int r1)]) tz
                refine XS.icmpYes X115.here hx rfl (pc0 := 198) (pc' := 209) rfl (hb hby at_198) rfl (feq l2).2 (by decide) (by decide) ?_
                show sT p e below T115 (mkF m 209 #[iv p0, iv p1, iv p2, iv 1, iv r1, iv r2, iv 0, iv 2, iv r3, iv r4, rv d97, rv d99, rv w3, iv 0, un] []) tz
                refine XS.iloadN X115.here hx rfl (hb hby at_209) rfl ?_
                show sT p e below T115 (mkF m 210 #[iv p0, iv p1, iv p2, iv 1, iv r1, iv r2, iv 0, iv 2, iv r3, iv r4, rv d97, rv d99, rv w3, iv 0, un] [(.int 1)]) tz
                refine XS.iconst X115.here hx rfl (hb hby at_210) ?_
                show sT p e below T115 (mkF m 211 #[iv p0, iv p1, iv p2, iv 1, iv r1, iv r2, iv 0, iv 2, iv r3, iv r4, rv d97, rv d99, rv w3, iv 0, un] [(.int 1), (.int 1)]) tz
                refine XS.icmpNo X115.here hx rfl (hb hby at_211) rfl (teq rfl).2 ?_
                show sT p e below T115 (mkF m 214 #[iv p0, iv p1, iv p2, iv 1, iv r1, iv r2, iv 0, iv 2, iv r3, iv r4, rv d97, rv d99, rv w3, iv 0, un] []) tz
                refine XS.iload X115.here hx rfl (hb hby at_214) rfl ?_
                show sT p e below T115 (mkF m 216 #[iv p0, iv p1, iv p2, iv 1, iv r1, iv r2, iv 0, iv 2, iv r3, iv r4, rv d97, rv d99, rv w3, iv 0, un] [(.int r1)]) tz
                refine XS.bipush X115.here hx rfl (hb hby at_216) ?_
                show sT p e below T115 (mkF m 218 #[iv p0, iv p1, iv p2, iv 1, iv r1, iv r2, iv 0, iv 2, iv r3, iv r4, rv d97, rv d99, rv w3, iv 0, un] [(.int 51), (.int r1)]) tz
                refine XS.icmpNo X115.here hx rfl (hb hby at_218) rfl (teq l3).2 ?_
                exact kz
              obtain ⟨T118, X118, e118, st118⟩ := getS2 X115 hx hZ hown (host := "") (Or.inl (own_w hw 86 rfl)) Via.refl rfl (S_LEVEL_3.ext O117.2) (g := (mkF m 221 #[iv p0, iv p1, iv p2, iv 1, iv r1, iv r2, iv 0, iv 2, iv r3, iv r4, rv d97, rv d99, rv w3, iv 0, un] [])) rfl (hb hby at_221)
              refine own_on (B := T118.setTop (mkF m 224 #[iv p0, iv p1, iv p2, iv 1, iv r1, iv r2, iv 0, iv 2, iv r3, iv r4, rv d97, rv d99, rv w3, iv 0, un] [(.ref w3)])) (fun tz kz => st118 _ kz) ?_
              refine own_on (B := T118.setTop (mkF m 244 #[iv p0, iv p1, iv p2, iv 1, iv r1, iv r2, iv 0, iv 2, iv r3, iv r4, rv d97, rv d99, rv w3, iv 0, rv w3] [(.int 1)])) (fun tz kz => ?_) ?_
              · show sT p e below T118 (mkF m 224 #[iv p0, iv p1, iv p2, iv 1, iv r1, iv r2, iv 0, iv 2, iv r3, iv r4, rv d97, rv d99, rv w3, iv 0, un] [(.ref w3)]) tz
                refine XS.astore X118.here hx rfl (hb hby at_224) rfl rfl (l' := #[iv p0, iv p1, iv p2, iv 1, iv r1, iv r2, iv 0, iv 2, iv r3, iv r4, rv d97, rv d99, rv w3, iv 0, rv w3]) rfl ?_
                show sT p e below T118 (mkF m 226 #[iv p0, iv p1, iv p2, iv 1, iv r1, iv r2, iv 0, iv 2, iv r3, iv r4, rv d97, rv d99, rv w3, iv 0, rv w3] []) tz
                refine XS.goto X118.here hx rfl (pc0 := 226) (pc' := 232) rfl (hb hby at_226) (by decide) (by decide) ?_
                show sT p e below T118 (mkF m 232 #[iv p0, iv p1, iv p2, iv 1, iv r1, iv r2, iv 0, iv 2, iv r3, iv r4, rv d97, rv d99, rv w3, iv 0, rv w3] []) tz
                refine XS.aload X118.here hx rfl (hb hby at_232) rfl rfl ?_
                show sT p e below T118 (mkF m 234 #[iv p0, iv p1, iv p2, iv 1, iv r1, iv r2, iv 0, iv 2, iv r3, iv r4, rv d97, rv d99, rv w3, iv 0, rv w3] [(.ref w3)]) tz
                refine XS.aload X118.here hx rfl (hb hby at_234) rfl rfl ?_
                show sT p e below T118 (mkF m 236 #[iv p0, iv p1, iv p2, iv 1, iv r1, iv r2, iv 0, iv 2, iv r3, iv r4, rv d97, rv d99, rv w3, iv 0, rv w3] [(.ref w3), (.ref w3)]) tz
                refine Jvm.RoadKit.acmp (g := (mkF m 236 #[iv p0, iv p1, iv p2, iv 1, iv r1, iv r2, iv 0, iv 2, iv r3, iv r4, rv d97, rv d99, rv w3, iv 0, rv w3] [(.ref w3), (.ref w3)])) X118 hx rfl rfl rfl (pc0 := 236) (pc' := 239) (same := true) rfl (hb hby at_236) rfl (decide_eq_true (congrArg Value.ref rfl)) (by decide) (by decide) ?_
                show sT p e below T118 (mkF m 239 #[iv p0, iv p1, iv p2, iv 1, iv r1, iv r2, iv 0, iv 2, iv r3, iv r4, rv d97, rv d99, rv w3, iv 0, rv w3] []) tz
                refine XS.iconst X118.here hx rfl (hb hby at_239) ?_
                show sT p e below T118 (mkF m 240 #[iv p0, iv p1, iv p2, iv 1, iv r1, iv r2, iv 0, iv 2, iv r3, iv r4, rv d97, rv d99, rv w3, iv 0, rv w3] [(.int 1)]) tz
                refine XS.goto X118.here hx rfl (pc0 := 240) (pc' := 244) rfl (hb hby at_240) (by decide) (by decide) ?_
                exact kz
              obtain ⟨fs, hr, hrun, hended, hRW⟩ := Jvm.Stand.leaveW X118 hS115 (by rw [e118]; exact (Nat.le_refl T115.heap.size)) (v := some (.int (1 : Int32))) (fun h => by rw [Bd.returns] at h; cases h)
              refine own_of ⟨_, _, ?_, hrun, hended, _, _, rfl, ?_, hRW.1, hRW.2.1, hRW.2.2.1, hRW.2.2.2.mono (by decide) (by decide)⟩
              · show sT p e below T118 (mkF m 244 #[iv p0, iv p1, iv p2, iv 1, iv r1, iv r2, iv 0, iv 2, iv r3, iv r4, rv d97, rv d99, rv w3, iv 0, rv w3] [(.int 1)]) _
                exact own_retN X118 hx (t := .boolean) Bd.returns (by simp) (by first | rfl | (split <;> first | rfl | (split <;> first | rfl | (split <;> rfl)))) (hb hby at_244) hr
              · show Q0 Z p0 p1 p2 w0 w1 w2 w3 cS h0 n0 _ T118.heap _
                rw [e118]
                exact ⟨rfl, N115⟩
            · obtain ⟨_, _, ⟨T119, L119, k119, n119⟩, -, X119, ⟨Lc119, hQ119, l119, y119, z119⟩, st119⟩ := Jvm.LawKit.callS X99 hx (y := (⟨"com/example/stackwright/stackwright/Holdings$FairValueLevel", "read", "(Ljava/lang/String;Ljava/lang/String;)Lcom/example/stackwright/stackwright/Holdings$FairValueLevel;"⟩ : MethodName)) hown (mvT hZ (own_w hw 29 rfl)) (mvT hZ (own_w hw 30 rfl)) (mvT hZ (own_w hw 31 rfl)) (mvT hZ (own_w hw 32 rfl)) (by decide) (backOf (W := 0) (rm6o l Z a0 hw [] d97 d99 w0 w1 w2 w3 cS b97 kb97 (nar .byte (r1.toInt8.toInt32)) r1  T99.heap n0 O100 S_NONE S_LEVEL_1 S_LEVEL_2 S_LEVEL_3 S_cs hcS f_102 g_d97 f_103 f_104 f_105 f_106 f_101 (own_by r1 lo1 hi1) l1 l2 l3 (rm7d l Z a0 hw [] d97 d99 cS b97 b99 (1 : Int32) (2 : Int32) T99.heap n0 O100 S_cs hcS f_102 f_103 f_104 Eq99 Fv99 Fc99 (OwnArz.of f_101) (OwnArz.of Vb99) (by decide) ne_d97_d99) ) hZ (own_w hw 32 rfl) (own_w hw 31 rfl) (by decide) (by decide)) (g := (mkF m 114 #[iv p0, iv p1, iv p2, iv 1, iv r1, iv r2, iv 0, iv 2, iv r3, iv r4, rv d97, rv d99, un, un, un] [(.ref d99), (.ref d97)])) rfl (by rw [hml]; rfl) (argsL := [(.ref d97), (.ref d99)]) (rest := []) (lenOf own_pd14 rfl) rfl (by show 2 * 0 + _ ≤ _; exact Nat.le_of_eq rfl) (hb hby at_114) (fun _ _ => ⟨rfl, rfl, (by decide : 8 + 2 ≤ _), (by decide : 16 + 8 ≤ _)⟩)
              dsimp only [Pt.U, Pt.locs, Pt.cells, Pt.slots] at X119 l119 y119 z119 st119 hQ119
              subst l119 y119 z119
              obtain ⟨rfl, Nq119, Kq119⟩ := hQ119
              have N119 := Fr.app N99 Nq119
              have O120 := O100.keep Kq119 (allS g_d97 all0)
              have K120 : Keep h0 T119.heap [] := K100.trans Kq119 (allS (Or.inr sz_d97) all0)
              refine own_on (B := T119.setTop (mkF m 117 #[iv p0, iv p1, iv p2, iv 1, iv r1, iv r2, iv 0, iv 2, iv r3, iv r4, rv d97, rv d99, un, un, un] [.null])) (fun tz kz => st119 _ kz) ?_
              refine own_on (B := T119.setTop (mkF m 244 #[iv p0, iv p1, iv p2, iv 1, iv r1, iv r2, iv 0, iv 2, iv r3, iv r4, rv d97, rv d99, .val .null, iv 0, .val .null] [(.int 1)])) (fun tz kz => ?_) ?_
              · show sT p e below T119 (mkF m 117 #[iv p0, iv p1, iv p2, iv 1, iv r1, iv r2, iv 0, iv 2, iv r3, iv r4, rv d97, rv d99, un, un, un] [.null]) tz
                refine XS.astore X119.here hx rfl (hb hby at_117) rfl rfl (l' := #[iv p0, iv p1, iv p2, iv 1, iv r1, iv r2, iv 0, iv 2, iv r3, iv r4, rv d97, rv d99, .val .null, un, un]) rfl ?_
                show sT p e below T119 (mkF m 119 #[iv p0, iv p1, iv p2, iv 1, iv r1, iv r2, iv 0, iv 2, iv r3, iv r4, rv d97, rv d99, .val .null, un, un] []) tz
                refine XS.iloadN X119.here hx rfl (hb hby at_119) rfl ?_
                show sT p e below T119 (mkF m 120 #[iv p0, iv p1, iv p2, iv 1, iv r1, iv r2, iv 0, iv 2, iv r3, iv r4, rv d97, rv d99, .val .null, un, un] [(.int 1)]) tz
                refine XS.iload X119.here hx rfl (hb hby at_120) rfl ?_
                show sT p e below T119 (mkF m 122 #[iv p0, iv p1, iv p2, iv 1, iv r1, iv r2, iv 0, iv 2, iv r3, iv r4, rv d97, rv d99, .val .null, un, un] [(.int 2), (.int 1)]) tz
                refine XS.icmpYes X119.here hx rfl (pc0 := 122) (pc' := 153) rfl (hb hby at_122) rfl (feq (by decide : ¬ ((1 : Int32) = (2 : Int32)))).2 (by decide) (by decide) ?_
                show sT p e below T119 (mkF m 153 #[iv p0, iv p1, iv p2, iv 1, iv r1, iv r2, iv 0, iv 2, iv r3, iv r4, rv d97, rv d99, .val .null, un, un] []) tz
                refine XS.iconst X119.here hx rfl (hb hby at_153) ?_
                show sT p e below T119 (mkF m 154 #[iv p0, iv p1, iv p2, iv 1, iv r1, iv r2, iv 0, iv 2, iv r3, iv r4, rv d97, rv d99, .val .null, un, un] [(.int 0)]) tz
                refine XS.istore X119.here hx rfl (hb hby at_154) rfl (l' := #[iv p0, iv p1, iv p2, iv 1, iv r1, iv r2, iv 0, iv 2, iv r3, iv r4, rv d97, rv d99, .val .null, iv 0, un]) rfl ?_
                show sT p e below T119 (mkF m 156 #[iv p0, iv p1, iv p2, iv 1, iv r1, iv r2, iv 0, iv 2, iv r3, iv r4, rv d97, rv d99, .val .null, iv 0, un] []) tz
                refine XS.iload X119.here hx rfl (hb hby at_156) rfl ?_
                show sT p e below T119 (mkF m 158 #[iv p0, iv p1, iv p2, iv 1, iv r1, iv r2, iv 0, iv 2, iv r3, iv r4, rv d97, rv d99, .val .null, iv 0, un] [(.int 0)]) tz
                refine XS.ifYes X119.here hx rfl (pc0 := 158) (pc' := 169) rfl (hb hby at_158) rfl ((if0 _ _).trans (teq rfl).1) (by decide) (by decide) ?_
                show sT p e below T119 (mkF m 169 #[iv p0, iv p1, iv p2, iv 1, iv r1, iv r2, iv 0, iv 2, iv r3, iv r4, rv d97, rv d99, .val .null, iv 0, un] []) tz
                refine XS.iloadN X119.here hx rfl (hb hby at_169) rfl ?_
                show sT p e below T119 (mkF m 170 #[iv p0, iv p1, iv p2, iv 1, iv r1, iv r2, iv 0, iv 2, iv r3, iv r4, rv d97, rv d99, .val .null, iv 0, un] [(.int 1)]) tz
                refine XS.iconst X119.here hx rfl (hb hby at_170) ?_
                show sT p e below T119 (mkF m 171 #[iv p0, iv p1, iv p2, iv 1, iv r1, iv r2, iv 0, iv 2, iv r3, iv r4, rv d97, rv d99, .val .null, iv 0, un] [(.int 1), (.int 1)]) tz
                refine XS.icmpNo X119.here hx rfl (hb hby at_171) rfl (teq rfl).2 ?_
                show sT p e below T119 (mkF m 174 #[iv p0, iv p1, iv p2, iv 1, iv r1, iv r2, iv 0, iv 2, iv r3, iv r4, rv d97, rv d99, .val .null, iv 0, un] []) tz
                refine XS.iload X119.here hx rfl (hb hby at_174) rfl ?_
                show sT p e below T119 (mkF m 176 #[iv p0, iv p1, iv p2, iv 1, iv r1, iv r2, iv 0, iv 2, iv r3, iv r4, rv d97, rv d99, .val .null, iv 0, un] [(.int r1)]) tz
                refine XS.bipush X119.here hx rfl (hb hby at_176) ?_
                show sT p e below T119 (mkF m 178 #[iv p0, iv p1, iv p2, iv 1, iv r1, iv r2, iv 0, iv 2, iv r3, iv r4, rv d97, rv d99, .val .null, iv 0, un] [(.int 49), (.int r1)]) tz
                refine XS.icmpYes X119.here hx rfl (pc0 := 178) (pc' := 189) rfl (hb hby at_178) rfl (feq l1).2 (by decide) (by decide) ?_
                show sT p e below T119 (mkF m 189 #[iv p0, iv p1, iv p2, iv 1, iv r1, iv r2, iv 0, iv 2, iv r3, iv r4, rv d97, rv d99, .val .null, iv 0, un] []) tz
                refine XS.iloadN X119.here hx rfl (hb hby at_189) rfl ?_
                show sT p e below T119 (mkF m 190 #[iv p0, iv p1, iv p2, iv 1, iv r1, iv r2, iv 0, iv 2, iv r3, iv r4, rv d97, rv d99, .val .null, iv 0, un] [(.int 1)]) tz
                refine XS.iconst X119.here hx rfl (hb hby at_190) ?_
                show sT p e below T119 (mkF m 191 #[iv p0, iv p1, iv p2, iv 1, iv r1, iv r2, iv 0, iv 2, iv r3, iv r4, rv d97, rv d99, .val .null, iv 0, un] [(.int 1), (.int 1)]) tz
                refine XS.icmpNo X119.here hx rfl (hb hby at_191) rfl (teq rfl).2 ?_
                show sT p e below T119 (mkF m 194 #[iv p0, iv p1, iv p2, iv 1, iv r1, iv r2, iv 0, iv 2, iv r3, iv r4, rv d97, rv d99, .val .null, iv 0, un] []) tz
                refine XS.iload X119.here hx rfl (hb hby at_194) rfl ?_
                show sT p e below T119 (mkF m 196 #[iv p0, iv p1, iv p2, iv 1, iv r1, iv r2, iv 0, iv 2, iv r3, iv r4, rv d97, rv d99, .val .null, iv 0, un] [(.int r1)]) tz
                refine XS.bipush X119.here hx rfl (hb hby at_196) ?_
                show sT p e below T119 (mkF m 198 #[iv p0, iv p1, iv p2, iv 1, iv r1, iv r2, iv 0, iv 2, iv r3, iv r4, rv d97, rv d99, .val .null, iv 0, un] [(.int 50), (.int r1)]) tz
                refine XS.icmpYes X119.here hx rfl (pc0 := 198) (pc' := 209) rfl (hb hby at_198) rfl (feq l2).2 (by decide) (by decide) ?_
                show sT p e below T119 (mkF m 209 #[iv p0, iv p1, iv p2, iv 1, iv r1, iv r2, iv 0, iv 2, iv r3, iv r4, rv d97, rv d99, .val .null, iv 0, un] []) tz
                refine XS.iloadN X119.here hx rfl (hb hby at_209) rfl ?_
                show sT p e below T119 (mkF m 210 #[iv p0, iv p1, iv p2, iv 1, iv r1, iv r2, iv 0, iv 2, iv r3, iv r4, rv d97, rv d99, .val .null, iv 0, un] [(.int 1)]) tz
                refine XS.iconst X119.here hx rfl (hb hby at_210) ?_
                show sT p e below T119 (mkF m 211 #[iv p0, iv p1, iv p2, iv 1, iv r1, iv r2, iv 0, iv 2, iv r3, iv r4, rv d97, rv d99, .val .null, iv 0, un] [(.int 1), (.int 1)]) tz
                refine XS.icmpNo X119.here hx rfl (hb hby at_211) rfl (teq rfl).2 ?_
                show sT p e below T119 (mkF m 214 #[iv p0, iv p1, iv p2, iv 1, iv r1, iv r2, iv 0, iv 2, iv r3, iv r4, rv d97, rv d99, .val .null, iv 0, un] []) tz
                refine XS.iload X119.here hx rfl (hb hby at_214) rfl ?_
                show sT p e below T119 (mkF m 216 #[iv p0, iv p1, iv p2, iv 1, iv r1, iv r2, iv 0, iv 2, iv r3, iv r4, rv d97, rv d99, .val .null, iv 0, un] [(.int r1)]) tz
                refine XS.bipush X119.here hx rfl (hb hby at_216) ?_
                show sT p e below T119 (mkF m 218 #[iv p0, iv p1, iv p2, iv 1, iv r1, iv r2, iv 0, iv 2, iv r3, iv r4, rv d97, rv d99, .val .null, iv 0, un] [(.int 51), (.int r1)]) tz
                refine XS.icmpYes X119.here hx rfl (pc0 := 218) (pc' := 229) rfl (hb hby at_218) rfl (feq l3).2 (by decide) (by decide) ?_
                show sT p e below T119 (mkF m 229 #[iv p0, iv p1, iv p2, iv 1, iv r1, iv r2, iv 0, iv 2, iv r3, iv r4, rv d97, rv d99, .val .null, iv 0, un] []) tz
                refine XS.aconstNull X119.here hx rfl (hb hby at_229) ?_
                show sT p e below T119 (mkF m 230 #[iv p0, iv p1, iv p2, iv 1, iv r1, iv r2, iv 0, iv 2, iv r3, iv r4, rv d97, rv d99, .val .null, iv 0, un] [.null]) tz
                refine XS.astore X119.here hx rfl (hb hby at_230) rfl rfl (l' := #[iv p0, iv p1, iv p2, iv 1, iv r1, iv r2, iv 0, iv 2, iv r3, iv r4, rv d97, rv d99, .val .null, iv 0, .val .null]) rfl ?_
                show sT p e below T119 (mkF m 232 #[iv p0, iv p1, iv p2, iv 1, iv r1, iv r2, iv 0, iv 2, iv r3, iv r4, rv d97, rv d99, .val .null, iv 0, .val .null] []) tz
                refine XS.aload X119.here hx rfl (hb hby at_232) rfl rfl ?_
                show sT p e below T119 (mkF m 234 #[iv p0, iv p1, iv p2, iv 1, iv r1, iv r2, iv 0, iv 2, iv r3, iv r4, rv d97, rv d99, .val .null, iv 0, .val .null] [.null]) tz
                refine XS.aload X119.here hx rfl (hb hby at_234) rfl rfl ?_
                show sT p e below T119 (mkF m 236 #[iv p0, iv p1, iv p2, iv 1, iv r1, iv r2, iv 0, iv 2, iv r3, iv r4, rv d97, rv d99, .val .null, iv 0, .val .null] [.null, .null]) tz
                refine Jvm.RoadKit.acmp (g := (mkF m 236 #[iv p0, iv p1, iv p2, iv 1, iv r1, iv r2, iv 0, iv 2, iv r3, iv r4, rv d97, rv d99, .val .null, iv 0, .val .null] [.null, .null])) X119 hx rfl rfl rfl (pc0 := 236) (pc' := 239) (same := true) rfl (hb hby at_236) rfl (decide_eq_true rfl) (by decide) (by decide) ?_
                show sT p e below T119 (mkF m 239 #[iv p0, iv p1, iv p2, iv 1, iv r1, iv r2, iv 0, iv 2, iv r3, iv r4, rv d97, rv d99, .val .null, iv 0, .val .null] []) tz
                refine XS.iconst X119.here hx rfl (hb hby at_239) ?_
                show sT p e below T119 (mkF m 240 #[iv p0, iv p1, iv p2, iv 1, iv r1, iv r2, iv 0, iv 2, iv r3, iv r4, rv d97, rv d99, .val .null, iv 0, .val .null] [(.int 1)]) tz
                refine XS.goto X119.here hx rfl (pc0 := 240) (pc' := 244) rfl (hb hby at_240) (by decide) (by decide) ?_
                exact kz
              obtain ⟨fs, hr, hrun, hended, hW, hsame⟩ := X119.leave (v := some (.int (1 : Int32))) (fun h => by rw [Bd.returns] at h; cases h)
              refine own_of ⟨_, _, ?_, hrun, hended, _, _, rfl, ?_, ReturnedEndW.of_narrow ⟨_, rfl⟩ hW (hsame.mono (by decide) (by decide))⟩
              · show sT p e below T119 (mkF m 244 #[iv p0, iv p1, iv p2, iv 1, iv r1, iv r2, iv 0, iv 2, iv r3, iv r4, rv d97, rv d99, .val .null, iv 0, .val .null] [(.int 1)]) _
                exact own_retN X119 hx (t := .boolean) Bd.returns (by simp) (by first | rfl | (split <;> first | rfl | (split <;> first | rfl | (split <;> rfl)))) (hb hby at_244) hr
              · show Q0 Z p0 p1 p2 w0 w1 w2 w3 cS h0 n0 _ T119.heap _
                exact ⟨rfl, N119⟩
    · rcases hnl with rfl | rfl | rfl
      · refine own_on (B := T4.setTop (mkF m 94 #[iv p0, iv p1, iv p2, iv 2, iv r1, iv r2, iv 0, iv 0, iv r3, iv r4, un, un, un, un, un] [(.int r2), (.int r1), (.int 2)])) (fun tz kz => ?_) ?_
        · show sT p e below T4 (mkF m 89 #[iv p0, iv p1, iv p2, iv 2, iv r1, iv r2, iv 0, iv 0, iv r3, iv r4, un, un, un, un, un] []) tz
          refine XS.iloadN X4.here hx rfl (hb hby at_89) rfl ?_
          show sT p e below T4 (mkF m 90 #[iv p0, iv p1, iv p2, iv 2, iv r1, iv r2, iv 0, iv 0, iv r3, iv r4, un, un, un, un, un] [(.int 2)]) tz
          refine XS.iload X4.here hx rfl (hb hby at_90) rfl ?_
          show sT p e below T4 (mkF m 92 #[iv p0, iv p1, iv p2, iv 2, iv r1, iv r2, iv 0, iv 0, iv r3, iv r4, un, un, un, un, un] [(.int r1), (.int 2)]) tz
          refine XS.iload X4.here hx rfl (hb hby at_92) rfl ?_
          exact kz
        obtain ⟨_, _, ⟨T121, L121, k121, n121⟩, -, X121, ⟨Lc121, hQ121, l121, y121, z121⟩, st121⟩ := Jvm.LawKit.callS X4 hx (y := (⟨"com/example/stackwright/stackwright/FairValueLevelReadPinLaw", "make", "(ICC)Ljava/lang/String;"⟩ : MethodName)) hown (mvT hZ (own_w hw 4 rfl)) (mvT hZ (own_w hw 5 rfl)) (mvT hZ (own_w hw 2 rfl)) (mvT hZ (own_w hw 6 rfl)) (by decide) (backOf (W := 0) (rm2b l Z a0 hw [] r1 r2 cS h0 n0 O0 S_cs hcS lo1 hi1 lo2 hi2) hZ (own_w hw 6 rfl) (own_w hw 2 rfl) (by decide) (by decide)) (g := (mkF m 94 #[iv p0, iv p1, iv p2, iv 2, iv r1, iv r2, iv 0, iv 0, iv r3, iv r4, un, un, un, un, un] [(.int r2), (.int r1), (.int 2)])) rfl (by rw [hml]; rfl) (argsL := [(.int (2 : Int32)), (.int r1), (.int r2)]) (rest := []) (lenOf own_pd13 rfl) rfl (by show 2 * 0 + _ ≤ _; exact Nat.le_of_eq rfl) (hb hby at_94) (fun _ _ => ⟨rfl, eq4, (by decide : 0 + 4 ≤ _), (by decide : 0 + 8 ≤ _)⟩)
        dsimp only [Pt.U, Pt.locs, Pt.cells, Pt.slots] at X121 l121 y121 z121 st121 hQ121
        subst l121 y121 z121
        obtain ⟨d121, b121, kb121, rfl, Nq121, Kq121, zq121, Eq121, Fv121, Fc121, Fh121, Fz121, Eb121, Vb121⟩ := hQ121
        have N121 := Fr.app N4 Nq121
        have g_d121 : n0 ≤ d121 := Nat.le_trans (own_old O0) zq121
        have sz_d121 : h0.size ≤ d121 := Nat.le_trans (Keep.refl h0 []).1 zq121
        have O122 := O0.keep Kq121 all0
        have K122 : Keep h0 T121.heap [] := (Keep.refl h0 []).trans Kq121 all0
        refine own_on (B := T121.setTop (mkF m 97 #[iv p0, iv p1, iv p2, iv 2, iv r1, iv r2, iv 0, iv 0, iv r3, iv r4, un, un, un, un, un] [(.ref d121)])) (fun tz kz => st121 _ kz) ?_
        refine own_on (B := T121.setTop (mkF m 105 #[iv p0, iv p1, iv p2, iv 2, iv r1, iv r2, iv 0, iv 0, iv r3, iv r4, rv d121, un, un, un, un] [(.int r4), (.int r3), (.int 0)])) (fun tz kz => ?_) ?_
        · show sT p e below T121 (mkF m 97 #[iv p0, iv p1, iv p2, iv 2, iv r1, iv r2, iv 0, iv 0, iv r3, iv r4, un, un, un, un, un] [(.ref d121)]) tz
          refine XS.astore X121.here hx rfl (hb hby at_97) rfl rfl (l' := #[iv p0, iv p1, iv p2, iv 2, iv r1, iv r2, iv 0, iv 0, iv r3, iv r4, rv d121, un, un, un, un]) rfl ?_
          show sT p e below T121 (mkF m 99 #[iv p0, iv p1, iv p2, iv 2, iv r1, iv r2, iv 0, iv 0, iv r3, iv r4, rv d121, un, un, un, un] []) tz
          refine XS.iload X121.here hx rfl (hb hby at_99) rfl ?_
          show sT p e below T121 (mkF m 101 #[iv p0, iv p1, iv p2, iv 2, iv r1, iv r2, iv 0, iv 0, iv r3, iv r4, rv d121, un, un, un, un] [(.int 0)]) tz
          refine XS.iload X121.here hx rfl (hb hby at_101) rfl ?_
          show sT p e below T121 (mkF m 103 #[iv p0, iv p1, iv p2, iv 2, iv r1, iv r2, iv 0, iv 0, iv r3, iv r4, rv d121, un, un, un, un] [(.int r3), (.int 0)]) tz
          refine XS.iload X121.here hx rfl (hb hby at_103) rfl ?_
          exact kz
        obtain ⟨_, _, ⟨T123, L123, k123, n123⟩, -, X123, hSc123, hgr123, ⟨Lc123, hQ123, l123, y123, z123⟩, st123⟩ := callSS X121 hx (y := (⟨"com/example/stackwright/stackwright/FairValueLevelReadPinLaw", "make", "(ICC)Ljava/lang/String;"⟩ : MethodName)) hown (mvT hZ (own_w hw 4 rfl)) (mvT hZ (own_w hw 5 rfl)) (mvT hZ (own_w hw 2 rfl)) (mvT hZ (own_w hw 6 rfl)) (by decide) (own_backJ (hJ := OwnJ.warm (s := s) hJ) (W := 0) (rm2z l Z a0 hw [] r3 r4  T121.heap n0 O122 hheld hcw) hZ (own_w hw 6 rfl) (own_w hw 2 rfl) (by decide) (by decide)) (g := (mkF m 105 #[iv p0, iv p1, iv p2, iv 2, iv r1, iv r2, iv 0, iv 0, iv r3, iv r4, rv d121, un, un, un, un] [(.int r4), (.int r3), (.int 0)])) rfl (by rw [hml]; rfl) (argsL := [(.int (0 : Int32)), (.int r3), (.int r4)]) (rest := []) (lenOf own_pd13 rfl) rfl (by show 2 * 0 + _ ≤ _; exact Nat.le_of_eq rfl) (hb hby at_105) (fun _ _ => ⟨rfl, rfl, (by decide : 4 + 4 ≤ _), (by decide : 8 + 8 ≤ _)⟩)
        dsimp only [Pt.U, Pt.locs, Pt.cells, Pt.slots] at X123 l123 y123 z123 st123 hQ123 hSc123 hgr123
        subst l123 y123 z123
        have hS124 : s.Since s.vm 0 := State.WarmedH.since (State.WarmedH.refl s) 0
        obtain ⟨X123, hS123, hZ, hown⟩ := rebS hS124 (Nat.zero_le _) X123 hSc123 hgr123 hZ hown
        obtain ⟨d123, la123, lb123, lk123, rfl, Nq123, Kq123, zq123, Eq123, Fv123, Fc123, Fh123, Fz123, La123, Lc123, Lv123, Lb123, Jq123⟩ := hQ123
        have N123 := Fr.app N121 Nq123
        have ne_b121_d123 : b121 ≠ d123 := Nat.ne_of_lt (Nat.lt_of_lt_of_le (Eb121).lt zq123)
        have ne_d121_d123 : d121 ≠ d123 := Nat.ne_of_lt (Nat.lt_of_lt_of_le (Eq121).lt zq123)
        have g_d123 : n0 ≤ d123 := Nat.le_trans (own_old O122) zq123
        have sz_d123 : h0.size ≤ d123 := Nat.le_trans K122.1 zq123
        have O125 := O122.keep Kq123 all0
        have K125 : Keep h0 T123.heap [] := K122.trans Kq123 all0
        refine own_on (B := T123.setTop (mkF m 108 #[iv p0, iv p1, iv p2, iv 2, iv r1, iv r2, iv 0, iv 0, iv r3, iv r4, rv d121, un, un, un, un] [(.ref d123)])) (fun tz kz => st123.trans kz) ?_
        have f_126 := (Vb121.keep Kq123 nin0)
        have f_127 := (Eq121.keep Kq123)
        have f_128 := (Fv121.keep Kq123 nin0)
        have f_129 := (Fc121.keep Kq123 nin0)
        have f_130 := (Fh121.keep Kq123 nin0)
        have f_131 := (Fz121.keep Kq123 nin0)
        have f_132 := (Eb121.keep Kq123)
        refine own_on (B := T123.setTop (mkF m 114 #[iv p0, iv p1, iv p2, iv 2, iv r1, iv r2, iv 0, iv 0, iv r3, iv r4, rv d121, rv d123, un, un, un] [(.ref d123), (.ref d121)])) (fun tz kz => ?_) ?_
        · show sT p e below T123 (mkF m 108 #[iv p0, iv p1, iv p2, iv 2, iv r1, iv r2, iv 0, iv 0, iv r3, iv r4, rv d121, un, un, un, un] [(.ref d123)]) tz
          refine XS.astore X123.here hx rfl (hb hby at_108) rfl rfl (l' := #[iv p0, iv p1, iv p2, iv 2, iv r1, iv r2, iv 0, iv 0, iv r3, iv r4, rv d121, rv d123, un, un, un]) rfl ?_
          show sT p e below T123 (mkF m 110 #[iv p0, iv p1, iv p2, iv 2, iv r1, iv r2, iv 0, iv 0, iv r3, iv r4, rv d121, rv d123, un, un, un] []) tz
          refine XS.aload X123.here hx rfl (hb hby at_110) rfl rfl ?_
          show sT p e below T123 (mkF m 112 #[iv p0, iv p1, iv p2, iv 2, iv r1, iv r2, iv 0, iv 0, iv r3, iv r4, rv d121, rv d123, un, un, un] [(.ref d121)]) tz
          refine XS.aload X123.here hx rfl (hb hby at_112) rfl rfl ?_
          exact kz
        obtain ⟨_, _, ⟨T133, L133, k133, n133⟩, -, X133, hSc133, hgr133, ⟨Lc133, hQ133, l133, y133, z133⟩, st133⟩ := callSS X123 hx (y := (⟨"com/example/stackwright/stackwright/Holdings$FairValueLevel", "read", "(Ljava/lang/String;Ljava/lang/String;)Lcom/example/stackwright/stackwright/Holdings$FairValueLevel;"⟩ : MethodName)) hown (mvT hZ (own_w hw 29 rfl)) (mvT hZ (own_w hw 30 rfl)) (mvT hZ (own_w hw 31 rfl)) (mvT hZ (own_w hw 32 rfl)) (by decide) (own_backK (hJ := OwnJ.warm (s := (s.setVm T123.vm)) (OwnJ.sub Jq123)) (W := 0) (rm6p l Z a0 hw [] d121 d123 w0 w1 w2 w3 cS b121 kb121 (nar .byte (r1.toInt8.toInt32)) (nar .byte (r2.toInt8.toInt32)) [""] T123.heap n0 O125 S_NONE S_LEVEL_1 S_LEVEL_2 S_LEVEL_3 S_cs hcS f_127 g_d121 f_128 f_129 f_130 f_131 f_132 f_126 (rm7d l Z a0 hw [] d121 d123 cS b121 lb123 (2 : Int32) (0 : Int32) T123.heap n0 O125 S_cs hcS f_127 f_128 f_129 Eq123 Fv123 Fc123 (OwnArz.of f_126) (OwnArz.of Lb123) (by decide) ne_d121_d123) held1 held2 held3 hcw (by decide) (by decide) (by decide)) hZ (own_w hw 32 rfl) (own_w hw 31 rfl) (by decide) (by decide)) (g := (mkF m 114 #[iv p0, iv p1, iv p2, iv 2, iv r1, iv r2, iv 0, iv 0, iv r3, iv r4, rv d121, rv d123, un, un, un] [(.ref d123), (.ref d121)])) rfl (by rw [hml]; rfl) (argsL := [(.ref d121), (.ref d123)]) (rest := []) (lenOf own_pd14 rfl) rfl (by show 2 * 0 + _ ≤ _; exact Nat.le_of_eq rfl) (hb hby at_114) (fun _ _ => ⟨rfl, rfl, (by decide : 8 + 2 ≤ _), (by decide : 16 + 8 ≤ _)⟩)
        dsimp only [Pt.U, Pt.locs, Pt.cells, Pt.slots] at X133 l133 y133 z133 st133 hQ133 hSc133 hgr133
        subst l133 y133 z133
        obtain ⟨X133, hS133, hZ, hown⟩ := rebS hS123 (Nat.le_refl T123.heap.size) X133 hSc133 hgr133 hZ hown
        obtain ⟨rfl, Nq133, Kq133⟩ := hQ133
        have N133 := Fr.app N123 Nq133
        have O134 := O125.keep Kq133 (allS g_d121 all0)
        have K134 : Keep h0 T133.heap [] := K125.trans Kq133 (allS (Or.inr sz_d121) all0)
        refine own_on (B := T133.setTop (mkF m 117 #[iv p0, iv p1, iv p2, iv 2, iv r1, iv r2, iv 0, iv 0, iv r3, iv r4, rv d121, rv d123, un, un, un] [.null])) (fun tz kz => st133.trans kz) ?_
        refine own_on (B := T133.setTop (mkF m 244 #[iv p0, iv p1, iv p2, iv 2, iv r1, iv r2, iv 0, iv 0, iv r3, iv r4, rv d121, rv d123, .val .null, iv 0, .val .null] [(.int 1)])) (fun tz kz => ?_) ?_
        · show sT p e below T133 (mkF m 117 #[iv p0, iv p1, iv p2, iv 2, iv r1, iv r2, iv 0, iv 0, iv r3, iv r4, rv d121, rv d123, un, un, un] [.null]) tz
          refine XS.astore X133.here hx rfl (hb hby at_117) rfl rfl (l' := #[iv p0, iv p1, iv p2, iv 2, iv r1, iv r2, iv 0, iv 0, iv r3, iv r4, rv d121, rv d123, .val .null, un, un]) rfl ?_
          show sT p e below T133 (mkF m 119 #[iv p0, iv p1, iv p2, iv 2, iv r1, iv r2, iv 0, iv 0, iv r3, iv r4, rv d121, rv d123, .val .null, un, un] []) tz
          refine XS.iloadN X133.here hx rfl (hb hby at_119) rfl ?_
          show sT p e below T133 (mkF m 120 #[iv p0, iv p1, iv p2, iv 2, iv r1, iv r2, iv 0, iv 0, iv r3, iv r4, rv d121, rv d123, .val .null, un, un] [(.int 2)]) tz
          refine XS.iload X133.here hx rfl (hb hby at_120) rfl ?_
          show sT p e below T133 (mkF m 122 #[iv p0, iv p1, iv p2, iv 2, iv r1, iv r2, iv 0, iv 0, iv r3, iv r4, rv d121, rv d123, .val .null, un, un] [(.int 0), (.int 2)]) tz
          refine XS.icmpYes X133.here hx rfl (pc0 := 122) (pc' := 153) rfl (hb hby at_122) rfl (feq (by decide : ¬ ((2 : Int32) = (0 : Int32)))).2 (by decide) (by decide) ?_
          show sT p e below T133 (mkF m 153 #[iv p0, iv p1, iv p2, iv 2, iv r1, iv r2, iv 0, iv 0, iv r3, iv r4, rv d121, rv d123, .val .null, un, un] []) tz
          refine XS.iconst X133.here hx rfl (hb hby at_153) ?_
          show sT p e below T133 (mkF m 154 #[iv p0, iv p1, iv p2, iv 2, iv r1, iv r2, iv 0, iv 0, iv r3, iv r4, rv d121, rv d123, .val .null, un, un] [(.int 0)]) tz
          refine XS.istore X133.here hx rfl (hb hby at_154) rfl (l' := #[iv p0, iv p1, iv p2, iv 2, iv r1, iv r2, iv 0, iv 0, iv r3, iv r4, rv d121, rv d123, .val .null, iv 0, un]) rfl ?_
          show sT p e below T133 (mkF m 156 #[iv p0, iv p1, iv p2, iv 2, iv r1, iv r2, iv 0, iv 0, iv r3, iv r4, rv d121, rv d123, .val .null, iv 0, un] []) tz
          refine XS.iload X133.here hx rfl (hb hby at_156) rfl ?_
          show sT p e below T133 (mkF m 158 #[iv p0, iv p1, iv p2, iv 2, iv r1, iv r2, iv 0, iv 0, iv r3, iv r4, rv d121, rv d123, .val .null, iv 0, un] [(.int 0)]) tz
          refine XS.ifYes X133.here hx rfl (pc0 := 158) (pc' := 169) rfl (hb hby at_158) rfl ((if0 _ _).trans (teq rfl).1) (by decide) (by decide) ?_
          show sT p e below T133 (mkF m 169 #[iv p0, iv p1, iv p2, iv 2, iv r1, iv r2, iv 0, iv 0, iv r3, iv r4, rv d121, rv d123, .val .null, iv 0, un] []) tz
          refine XS.iloadN X133.here hx rfl (hb hby at_169) rfl ?_
          show sT p e below T133 (mkF m 170 #[iv p0, iv p1, iv p2, iv 2, iv r1, iv r2, iv 0, iv 0, iv r3, iv r4, rv d121, rv d123, .val .null, iv 0, un] [(.int 2)]) tz
          refine XS.iconst X133.here hx rfl (hb hby at_170) ?_
          show sT p e below T133 (mkF m 171 #[iv p0, iv p1, iv p2, iv 2, iv r1, iv r2, iv 0, iv 0, iv r3, iv r4, rv d121, rv d123, .val .null, iv 0, un] [(.int 1), (.int 2)]) tz
          refine XS.icmpYes X133.here hx rfl (pc0 := 171) (pc' := 189) rfl (hb hby at_171) rfl (feq (by decide : ¬ ((2 : Int32) = (1 : Int32)))).2 (by decide) (by decide) ?_
          show sT p e below T133 (mkF m 189 #[iv p0, iv p1, iv p2, iv 2, iv r1, iv r2, iv 0, iv 0, iv r3, iv r4, rv d121, rv d123, .val .null, iv 0, un] []) tz
          refine XS.iloadN X133.here hx rfl (hb hby at_189) rfl ?_
          show sT p e below T133 (mkF m 190 #[iv p0, iv p1, iv p2, iv 2, iv r1, iv r2, iv 0, iv 0, iv r3, iv r4, rv d121, rv d123, .val .null, iv 0, un] [(.int 2)]) tz
          refine XS.iconst X133.here hx rfl (hb hby at_190) ?_
          show sT p e below T133 (mkF m 191 #[iv p0, iv p1, iv p2, iv 2, iv r1, iv r2, iv 0, iv 0, iv r3, iv r4, rv d121, rv d123, .val .null, iv 0, un] [(.int 1), (.int 2)]) tz
          refine XS.icmpYes X133.here hx rfl (pc0 := 191) (pc' := 209) rfl (hb hby at_191) rfl (feq (by decide : ¬ ((2 : Int32) = (1 : Int32)))).2 (by decide) (by decide) ?_
          show sT p e below T133 (mkF m 209 #[iv p0, iv p1, iv p2, iv 2, iv r1, iv r2, iv 0, iv 0, iv r3, iv r4, rv d121, rv d123, .val .null, iv 0, un] []) tz
          refine XS.iloadN X133.here hx rfl (hb hby at_209) rfl ?_
          show sT p e below T133 (mkF m 210 #[iv p0, iv p1, iv p2, iv 2, iv r1, iv r2, iv 0, iv 0, iv r3, iv r4, rv d121, rv d123, .val .null, iv 0, un] [(.int 2)]) tz
          refine XS.iconst X133.here hx rfl (hb hby at_210) ?_
          show sT p e below T133 (mkF m 211 #[iv p0, iv p1, iv p2, iv 2, iv r1, iv r2, iv 0, iv 0, iv r3, iv r4, rv d121, rv d123, .val .null, iv 0, un] [(.int 1), (.int 2)]) tz
          refine XS.icmpYes X133.here hx rfl (pc0 := 211) (pc' := 229) rfl (hb hby at_211) rfl (feq (by decide : ¬ ((2 : Int32) = (1 : Int32)))).2 (by decide) (by decide) ?_
          show sT p e below T133 (mkF m 229 #[iv p0, iv p1, iv p2, iv 2, iv r1, iv r2, iv 0, iv 0, iv r3, iv r4, rv d121, rv d123, .val .null, iv 0, un] []) tz
          refine XS.aconstNull X133.here hx rfl (hb hby at_229) ?_
          show sT p e below T133 (mkF m 230 #[iv p0, iv p1, iv p2, iv 2, iv r1, iv r2, iv 0, iv 0, iv r3, iv r4, rv d121, rv d123, .val .null, iv 0, un] [.null]) tz
          refine XS.astore X133.here hx rfl (hb hby at_230) rfl rfl (l' := #[iv p0, iv p1, iv p2, iv 2, iv r1, iv r2, iv 0, iv 0, iv r3, iv r4, rv d121, rv d123, .val .null, iv 0, .val .null]) rfl ?_
          show sT p e below T133 (mkF m 232 #[iv p0, iv p1, iv p2, iv 2, iv r1, iv r2, iv 0, iv 0, iv r3, iv r4, rv d121, rv d123, .val .null, iv 0, .val .null] []) tz
          refine XS.aload X133.here hx rfl (hb hby at_232) rfl rfl ?_
          show sT p e below T133 (mkF m 234 #[iv p0, iv p1, iv p2, iv 2, iv r1, iv r2, iv 0, iv 0, iv r3, iv r4, rv d121, rv d123, .val .null, iv 0, .val .null] [.null]) tz
          refine XS.aload X133.here hx rfl (hb hby at_234) rfl rfl ?_
          show sT p e below T133 (mkF m 236 #[iv p0, iv p1, iv p2, iv 2, iv r1, iv r2, iv 0, iv 0, iv r3, iv r4, rv d121, rv d123, .val .null, iv 0, .val .null] [.null, .null]) tz
          refine Jvm.RoadKit.acmp (g := (mkF m 236 #[iv p0, iv p1, iv p2, iv 2, iv r1, iv r2, iv 0, iv 0, iv r3, iv r4, rv d121, rv d123, .val .null, iv 0, .val .null] [.null, .null])) X133 hx rfl rfl rfl (pc0 := 236) (pc' := 239) (same := true) rfl (hb hby at_236) rfl (decide_eq_true rfl) (by decide) (by decide) ?_
          show sT p e below T133 (mkF m 239 #[iv p0, iv p1, iv p2, iv 2, iv r1, iv r2, iv 0, iv 0, iv r3, iv r4, rv d121, rv d123, .val .null, iv 0, .val .null] []) tz
          refine XS.iconst X133.here hx rfl (hb hby at_239) ?_
          show sT p e below T133 (mkF m 240 #[iv p0, iv p1, iv p2, iv 2, iv r1, iv r2, iv 0, iv 0, iv r3, iv r4, rv d121, rv d123, .val .null, iv 0, .val .null] [(.int 1)]) tz
          refine XS.goto X133.here hx rfl (pc0 := 240) (pc' := 244) rfl (hb hby at_240) (by decide) (by decide) ?_
          exact kz
        obtain ⟨fs, hr, hrun, hended, hRW⟩ := Jvm.Stand.leaveW X133 hS133 ((Nat.le_refl T133.heap.size)) (v := some (.int (1 : Int32))) (fun h => by rw [Bd.returns] at h; cases h)
        refine own_of ⟨_, _, ?_, hrun, hended, _, _, rfl, ?_, hRW.1, hRW.2.1, hRW.2.2.1, hRW.2.2.2.mono (by decide) (by decide)⟩
        · show sT p e below T133 (mkF m 244 #[iv p0, iv p1, iv p2, iv 2, iv r1, iv r2, iv 0, iv 0, iv r3, iv r4, rv d121, rv d123, .val .null, iv 0, .val .null] [(.int 1)]) _
          exact own_retN X133 hx (t := .boolean) Bd.returns (by simp) (by first | rfl | (split <;> first | rfl | (split <;> first | rfl | (split <;> rfl)))) (hb hby at_244) hr
        · show Q0 Z p0 p1 p2 w0 w1 w2 w3 cS h0 n0 _ T133.heap _
          exact ⟨rfl, N133⟩
      · refine own_on (B := T4.setTop (mkF m 94 #[iv p0, iv p1, iv p2, iv 2, iv r1, iv r2, iv 0, iv 1, iv r3, iv r4, un, un, un, un, un] [(.int r2), (.int r1), (.int 2)])) (fun tz kz => ?_) ?_
        · show sT p e below T4 (mkF m 89 #[iv p0, iv p1, iv p2, iv 2, iv r1, iv r2, iv 0, iv 1, iv r3, iv r4, un, un, un, un, un] []) tz
          refine XS.iloadN X4.here hx rfl (hb hby at_89) rfl ?_
          show sT p e below T4 (mkF m 90 #[iv p0, iv p1, iv p2, iv 2, iv r1, iv r2, iv 0, iv 1, iv r3, iv r4, un, un, un, un, un] [(.int 2)]) tz
          refine XS.iload X4.here hx rfl (hb hby at_90) rfl ?_
          show sT p e below T4 (mkF m 92 #[iv p0, iv p1, iv p2, iv 2, iv r1, iv r2, iv 0, iv 1, iv r3, iv r4, un, un, un, un, un] [(.int r1), (.int 2)]) tz
          refine XS.iload X4.here hx rfl (hb hby at_92) rfl ?_
          exact kz
        obtain ⟨_, _, ⟨T135, L135, k135, n135⟩, -, X135, ⟨Lc135, hQ135, l135, y135, z135⟩, st135⟩ := Jvm.LawKit.callS X4 hx (y := (⟨"com/example/stackwright/stackwright/FairValueLevelReadPinLaw", "make", "(ICC)Ljava/lang/String;"⟩ : MethodName)) hown (mvT hZ (own_w hw 4 rfl)) (mvT hZ (own_w hw 5 rfl)) (mvT hZ (own_w hw 2 rfl)) (mvT hZ (own_w hw 6 rfl)) (by decide) (backOf (W := 0) (rm2b l Z a0 hw [] r1 r2 cS h0 n0 O0 S_cs hcS lo1 hi1 lo2 hi2) hZ (own_w hw 6 rfl) (own_w hw 2 rfl) (by decide) (by decide)) (g := (mkF m 94 #[iv p0, iv p1, iv p2, iv 2, iv r1, iv r2, iv 0, iv 1, iv r3, iv r4, un, un, un, un, un] [(.int r2), (.int r1), (.int 2)])) rfl (by rw [hml]; rfl) (argsL := [(.int (2 : Int32)), (.int r1), (.int r2)]) (rest := []) (lenOf own_pd13 rfl) rfl (by show 2 * 0 + _ ≤ _; exact Nat.le_of_eq rfl) (hb hby at_94) (fun _ _ => ⟨rfl, eq4, (by decide : 0 + 4 ≤ _), (by decide : 0 + 8 ≤ _)⟩)
        dsimp only [Pt.U, Pt.locs, Pt.cells, Pt.slots] at X135 l135 y135 z135 st135 hQ135
        subst l135 y135 z135
        obtain ⟨d135, b135, kb135, rfl, Nq135, Kq135, zq135, Eq135, Fv135, Fc135, Fh135, Fz135, Eb135, Vb135⟩ := hQ135
        have N135 := Fr.app N4 Nq135
        have g_d135 : n0 ≤ d135 := Nat.le_trans (own_old O0) zq135
        have sz_d135 : h0.size ≤ d135 := Nat.le_trans (Keep.refl h0 []).1 zq135
        have O136 := O0.keep Kq135 all0
        have K136 : Keep h0 T135.heap [] := (Keep.refl h0 []).trans Kq135 all0
        refine own_on (B := T135.setTop (mkF m 97 #[iv p0, iv p1, iv p2, iv 2, iv r1, iv r2, iv 0, iv 1, iv r3, iv r4, un, un, un, un, un] [(.ref d135)])) (fun tz kz => st135 _ kz) ?_
        refine own_on (B := T135.setTop (mkF m 105 #[iv p0, iv p1, iv p2, iv 2, iv r1, iv r2, iv 0, iv 1, iv r3, iv r4, rv d135, un, un, un, un] [(.int r4), (.int r3), (.int 1)])) (fun tz kz => ?_) ?_
        · show sT p e below T135 (mkF m 97 #[iv p0, iv p1, iv p2, iv 2, iv r1, iv r2, iv 0, iv 1, iv r3, iv r4, un, un, un, un, un] [(.ref d135)]) tz
          refine XS.astore X135.here hx rfl (hb hby at_97) rfl rfl (l' := #[iv p0, iv p1, iv p2, iv 2, iv r1, iv r2, iv 0, iv 1, iv r3, iv r4, rv d135, un, un, un, un]) rfl ?_
          show sT p e below T135 (mkF m 99 #[iv p0, iv p1, iv p2, iv 2, iv r1, iv r2, iv 0, iv 1, iv r3, iv r4, rv d135, un, un, un, un] []) tz
          refine XS.iload X135.here hx rfl (hb hby at_99) rfl ?_
          show sT p e below T135 (mkF m 101 #[iv p0, iv p1, iv p2, iv 2, iv r1, iv r2, iv 0, iv 1, iv r3, iv r4, rv d135, un, un, un, un] [(.int 1)]) tz
          refine XS.iload X135.here hx rfl (hb hby at_101) rfl ?_
          show sT p e below T135 (mkF m 103 #[iv p0, iv p1, iv p2, iv 2, iv r1, iv r2, iv 0, iv 1, iv r3, iv r4, rv d135, un, un, un, un] [(.int r3), (.int 1)]) tz
          refine XS.iload X135.here hx rfl (hb hby at_103) rfl ?_
          exact kz
        obtain ⟨_, _, ⟨T137, L137, k137, n137⟩, -, X137, ⟨Lc137, hQ137, l137, y137, z137⟩, st137⟩ := Jvm.LawKit.callS X135 hx (y := (⟨"com/example/stackwright/stackwright/FairValueLevelReadPinLaw", "make", "(ICC)Ljava/lang/String;"⟩ : MethodName)) hown (mvT hZ (own_w hw 4 rfl)) (mvT hZ (own_w hw 5 rfl)) (mvT hZ (own_w hw 2 rfl)) (mvT hZ (own_w hw 6 rfl)) (by decide) (backOf (W := 0) (rm2a l Z a0 hw [] r3 r4 cS T135.heap n0 O136 S_cs hcS lo3 hi3) hZ (own_w hw 6 rfl) (own_w hw 2 rfl) (by decide) (by decide)) (g := (mkF m 105 #[iv p0, iv p1, iv p2, iv 2, iv r1, iv r2, iv 0, iv 1, iv r3, iv r4, rv d135, un, un, un, un] [(.int r4), (.int r3), (.int 1)])) rfl (by rw [hml]; rfl) (argsL := [(.int (1 : Int32)), (.int r3), (.int r4)]) (rest := []) (lenOf own_pd13 rfl) rfl (by show 2 * 0 + _ ≤ _; exact Nat.le_of_eq rfl) (hb hby at_105) (fun _ _ => ⟨rfl, rfl, (by decide : 4 + 4 ≤ _), (by decide : 8 + 8 ≤ _)⟩)
        dsimp only [Pt.U, Pt.locs, Pt.cells, Pt.slots] at X137 l137 y137 z137 st137 hQ137
        subst l137 y137 z137
        obtain ⟨d137, b137, kb137, rfl, Nq137, Kq137, zq137, Eq137, Fv137, Fc137, Fh137, Fz137, Eb137, Vb137⟩ := hQ137
        have N137 := Fr.app N135 Nq137
        have ne_b135_d137 : b135 ≠ d137 := Nat.ne_of_lt (Nat.lt_of_lt_of_le (Eb135).lt zq137)
        have ne_d135_d137 : d135 ≠ d137 := Nat.ne_of_lt (Nat.lt_of_lt_of_le (Eq135).lt zq137)
        have g_d137 : n0 ≤ d137 := Nat.le_trans (own_old O136) zq137
        have sz_d137 : h0.size ≤ d137 := Nat.le_trans K136.1 zq137
        have O138 := O136.keep Kq137 all0
        have K138 : Keep h0 T137.heap [] := K136.trans Kq137 all0
        refine own_on (B := T137.setTop (mkF m 108 #[iv p0, iv p1, iv p2, iv 2, iv r1, iv r2, iv 0, iv 1, iv r3, iv r4, rv d135, un, un, un, un] [(.ref d137)])) (fun tz kz => st137 _ kz) ?_
        have f_139 := (Vb135.keep Kq137 nin0)
        have f_140 := (Eq135.keep Kq137)
        have f_141 := (Fv135.keep Kq137 nin0)
        have f_142 := (Fc135.keep Kq137 nin0)
        have f_143 := (Fh135.keep Kq137 nin0)
        have f_144 := (Fz135.keep Kq137 nin0)
        have f_145 := (Eb135.keep Kq137)
        refine own_on (B := T137.setTop (mkF m 114 #[iv p0, iv p1, iv p2, iv 2, iv r1, iv r2, iv 0, iv 1, iv r3, iv r4, rv d135, rv d137, un, un, un] [(.ref d137), (.ref d135)])) (fun tz kz => ?_) ?_
        · show sT p e below T137 (mkF m 108 #[iv p0, iv p1, iv p2, iv 2, iv r1, iv r2, iv 0, iv 1, iv r3, iv r4, rv d135, un, un, un, un] [(.ref d137)]) tz
          refine XS.astore X137.here hx rfl (hb hby at_108) rfl rfl (l' := #[iv p0, iv p1, iv p2, iv 2, iv r1, iv r2, iv 0, iv 1, iv r3, iv r4, rv d135, rv d137, un, un, un]) rfl ?_
          show sT p e below T137 (mkF m 110 #[iv p0, iv p1, iv p2, iv 2, iv r1, iv r2, iv 0, iv 1, iv r3, iv r4, rv d135, rv d137, un, un, un] []) tz
          refine XS.aload X137.here hx rfl (hb hby at_110) rfl rfl ?_
          show sT p e below T137 (mkF m 112 #[iv p0, iv p1, iv p2, iv 2, iv r1, iv r2, iv 0, iv 1, iv r3, iv r4, rv d135, rv d137, un, un, un] [(.ref d135)]) tz
          refine XS.aload X137.here hx rfl (hb hby at_112) rfl rfl ?_
          exact kz
        obtain ⟨_, _, ⟨T146, L146, k146, n146⟩, -, X146, hSc146, hgr146, ⟨Lc146, hQ146, l146, y146, z146⟩, st146⟩ := callSS X137 hx (y := (⟨"com/example/stackwright/stackwright/Holdings$FairValueLevel", "read", "(Ljava/lang/String;Ljava/lang/String;)Lcom/example/stackwright/stackwright/Holdings$FairValueLevel;"⟩ : MethodName)) hown (mvT hZ (own_w hw 29 rfl)) (mvT hZ (own_w hw 30 rfl)) (mvT hZ (own_w hw 31 rfl)) (mvT hZ (own_w hw 32 rfl)) (by decide) (own_backK (hJ := OwnJ.warm (s := s) hJ) (W := 0) (rm6p l Z a0 hw [] d135 d137 w0 w1 w2 w3 cS b135 kb135 (nar .byte (r1.toInt8.toInt32)) (nar .byte (r2.toInt8.toInt32)) [] T137.heap n0 O138 S_NONE S_LEVEL_1 S_LEVEL_2 S_LEVEL_3 S_cs hcS f_140 g_d135 f_141 f_142 f_143 f_144 f_145 f_139 (rm7d l Z a0 hw [] d135 d137 cS b135 b137 (2 : Int32) (1 : Int32) T137.heap n0 O138 S_cs hcS f_140 f_141 f_142 Eq137 Fv137 Fc137 (OwnArz.of f_139) (OwnArz.of Vb137) (by decide) ne_d135_d137) held1 held2 held3 hcw (by decide) (by decide) (by decide)) hZ (own_w hw 32 rfl) (own_w hw 31 rfl) (by decide) (by decide)) (g := (mkF m 114 #[iv p0, iv p1, iv p2, iv 2, iv r1, iv r2, iv 0, iv 1, iv r3, iv r4, rv d135, rv d137, un, un, un] [(.ref d137), (.ref d135)])) rfl (by rw [hml]; rfl) (argsL := [(.ref d135), (.ref d137)]) (rest := []) (lenOf own_pd14 rfl) rfl (by show 2 * 0 + _ ≤ _; exact Nat.le_of_eq rfl) (hb hby at_114) (fun _ _ => ⟨rfl, rfl, (by decide : 8 + 2 ≤ _), (by decide : 16 + 8 ≤ _)⟩)
        dsimp only [Pt.U, Pt.locs, Pt.cells, Pt.slots] at X146 l146 y146 z146 st146 hQ146 hSc146 hgr146
        subst l146 y146 z146
        have hS147 : s.Since s.vm 0 := State.WarmedH.since (State.WarmedH.refl s) 0
        obtain ⟨X146, hS146, hZ, hown⟩ := rebS hS147 (Nat.zero_le _) X146 hSc146 hgr146 hZ hown
        obtain ⟨rfl, Nq146, Kq146⟩ := hQ146
        have N146 := Fr.app N137 Nq146
        have O148 := O138.keep Kq146 (allS g_d135 all0)
        have K148 : Keep h0 T146.heap [] := K138.trans Kq146 (allS (Or.inr sz_d135) all0)
        refine own_on (B := T146.setTop (mkF m 117 #[iv p0, iv p1, iv p2, iv 2, iv r1, iv r2, iv 0, iv 1, iv r3, iv r4, rv d135, rv d137, un, un, un] [.null])) (fun tz kz => st146.trans kz) ?_
        refine own_on (B := T146.setTop (mkF m 244 #[iv p0, iv p1, iv p2, iv 2, iv r1, iv r2, iv 0, iv 1, iv r3, iv r4, rv d135, rv d137, .val .null, iv 0, .val .null] [(.int 1)])) (fun tz kz => ?_) ?_
        · show sT p e below T146 (mkF m 117 #[iv p0, iv p1, iv p2, iv 2, iv r1, iv r2, iv 0, iv 1, iv r3, iv r4, rv d135, rv d137, un, un, un] [.null]) tz
          refine XS.astore X146.here hx rfl (hb hby at_117) rfl rfl (l' := #[iv p0, iv p1, iv p2, iv 2, iv r1, iv r2, iv 0, iv 1, iv r3, iv r4, rv d135, rv d137, .val .null, un, un]) rfl ?_
          show sT p e below T146 (mkF m 119 #[iv p0, iv p1, iv p2, iv 2, iv r1, iv r2, iv 0, iv 1, iv r3, iv r4, rv d135, rv d137, .val .null, un, un] []) tz
          refine XS.iloadN X146.here hx rfl (hb hby at_119) rfl ?_
          show sT p e below T146 (mkF m 120 #[iv p0, iv p1, iv p2, iv 2, iv r1, iv r2, iv 0, iv 1, iv r3, iv r4, rv d135, rv d137, .val .null, un, un] [(.int 2)]) tz
          refine XS.iload X146.here hx rfl (hb hby at_120) rfl ?_
          show sT p e below T146 (mkF m 122 #[iv p0, iv p1, iv p2, iv 2, iv r1, iv r2, iv 0, iv 1, iv r3, iv r4, rv d135, rv d137, .val .null, un, un] [(.int 1), (.int 2)]) tz
          refine XS.icmpYes X146.here hx rfl (pc0 := 122) (pc' := 153) rfl (hb hby at_122) rfl (feq (by decide : ¬ ((2 : Int32) = (1 : Int32)))).2 (by decide) (by decide) ?_
          show sT p e below T146 (mkF m 153 #[iv p0, iv p1, iv p2, iv 2, iv r1, iv r2, iv 0, iv 1, iv r3, iv r4, rv d135, rv d137, .val .null, un, un] []) tz
          refine XS.iconst X146.here hx rfl (hb hby at_153) ?_
          show sT p e below T146 (mkF m 154 #[iv p0, iv p1, iv p2, iv 2, iv r1, iv r2, iv 0, iv 1, iv r3, iv r4, rv d135, rv d137, .val .null, un, un] [(.int 0)]) tz
          refine XS.istore X146.here hx rfl (hb hby at_154) rfl (l' := #[iv p0, iv p1, iv p2, iv 2, iv r1, iv r2, iv 0, iv 1, iv r3, iv r4, rv d135, rv d137, .val .null, iv 0, un]) rfl ?_
          show sT p e below T146 (mkF m 156 #[iv p0, iv p1, iv p2, iv 2, iv r1, iv r2, iv 0, iv 1, iv r3, iv r4, rv d135, rv d137, .val .null, iv 0, un] []) tz
          refine XS.iload X146.here hx rfl (hb hby at_156) rfl ?_
          show sT p e below T146 (mkF m 158 #[iv p0, iv p1, iv p2, iv 2, iv r1, iv r2, iv 0, iv 1, iv r3, iv r4, rv d135, rv d137, .val .null, iv 0, un] [(.int 0)]) tz
          refine XS.ifYes X146.here hx rfl (pc0 := 158) (pc' := 169) rfl (hb hby at_158) rfl ((if0 _ _).trans (teq rfl).1) (by decide) (by decide) ?_
          show sT p e below T146 (mkF m 169 #[iv p0, iv p1, iv p2, iv 2, iv r1, iv r2, iv 0, iv 1, iv r3, iv r4, rv d135, rv d137, .val .null, iv 0, un] []) tz
          refine XS.iloadN X146.here hx rfl (hb hby at_169) rfl ?_
          show sT p e below T146 (mkF m 170 #[iv p0, iv p1, iv p2, iv 2, iv r1, iv r2, iv 0, iv 1, iv r3, iv r4, rv d135, rv d137, .val .null, iv 0, un] [(.int 2)]) tz
          refine XS.iconst X146.here hx rfl (hb hby at_170) ?_
          show sT p e below T146 (mkF m 171 #[iv p0, iv p1, iv p2, iv 2, iv r1, iv r2, iv 0, iv 1, iv r3, iv r4, rv d135, rv d137, .val .null, iv 0, un] [(.int 1), (.int 2)]) tz
          refine XS.icmpYes X146.here hx rfl (pc0 := 171) (pc' := 189) rfl (hb hby at_171) rfl (feq (by decide : ¬ ((2 : Int32) = (1 : Int32)))).2 (by decide) (by decide) ?_
          show sT p e below T146 (mkF m 189 #[iv p0, iv p1, iv p2, iv 2, iv r1, iv r2, iv 0, iv 1, iv r3, iv r4, rv d135, rv d137, .val .null, iv 0, un] []) tz
          refine XS.iloadN X146.here hx rfl (hb hby at_189) rfl ?_
          show sT p e below T146 (mkF m 190 #[iv p0, iv p1, iv p2, iv 2, iv r1, iv r2, iv 0, iv 1, iv r3, iv r4, rv d135, rv d137, .val .null, iv 0, un] [(.int 2)]) tz
          refine XS.iconst X146.here hx rfl (hb hby at_190) ?_
          show sT p e below T146 (mkF m 191 #[iv p0, iv p1, iv p2, iv 2, iv r1, iv r2, iv 0, iv 1, iv r3, iv r4, rv d135, rv d137, .val .null, iv 0, un] [(.int 1), (.int 2)]) tz
          refine XS.icmpYes X146.here hx rfl (pc0 := 191) (pc' := 209) rfl (hb hby at_191) rfl (feq (by decide : ¬ ((2 : Int32) = (1 : Int32)))).2 (by decide) (by decide) ?_
          show sT p e below T146 (mkF m 209 #[iv p0, iv p1, iv p2, iv 2, iv r1, iv r2, iv 0, iv 1, iv r3, iv r4, rv d135, rv d137, .val .null, iv 0, un] []) tz
          refine XS.iloadN X146.here hx rfl (hb hby at_209) rfl ?_
          show sT p e below T146 (mkF m 210 #[iv p0, iv p1, iv p2, iv 2, iv r1, iv r2, iv 0, iv 1, iv r3, iv r4, rv d135, rv d137, .val .null, iv 0, un] [(.int 2)]) tz
          refine XS.iconst X146.here hx rfl (hb hby at_210) ?_
          show sT p e below T146 (mkF m 211 #[iv p0, iv p1, iv p2, iv 2, iv r1, iv r2, iv 0, iv 1, iv r3, iv r4, rv d135, rv d137, .val .null, iv 0, un] [(.int 1), (.int 2)]) tz
          refine XS.icmpYes X146.here hx rfl (pc0 := 211) (pc' := 229) rfl (hb hby at_211) rfl (feq (by decide : ¬ ((2 : Int32) = (1 : Int32)))).2 (by decide) (by decide) ?_
          show sT p e below T146 (mkF m 229 #[iv p0, iv p1, iv p2, iv 2, iv r1, iv r2, iv 0, iv 1, iv r3, iv r4, rv d135, rv d137, .val .null, iv 0, un] []) tz
          refine XS.aconstNull X146.here hx rfl (hb hby at_229) ?_
          show sT p e below T146 (mkF m 230 #[iv p0, iv p1, iv p2, iv 2, iv r1, iv r2, iv 0, iv 1, iv r3, iv r4, rv d135, rv d137, .val .null, iv 0, un] [.null]) tz
          refine XS.astore X146.here hx rfl (hb hby at_230) rfl rfl (l' := #[iv p0, iv p1, iv p2, iv 2, iv r1, iv r2, iv 0, iv 1, iv r3, iv r4, rv d135, rv d137, .val .null, iv 0, .val .null]) rfl ?_
          show sT p e below T146 (mkF m 232 #[iv p0, iv p1, iv p2, iv 2, iv r1, iv r2, iv 0, iv 1, iv r3, iv r4, rv d135, rv d137, .val .null, iv 0, .val .null] []) tz
          refine XS.aload X146.here hx rfl (hb hby at_232) rfl rfl ?_
          show sT p e below T146 (mkF m 234 #[iv p0, iv p1, iv p2, iv 2, iv r1, iv r2, iv 0, iv 1, iv r3, iv r4, rv d135, rv d137, .val .null, iv 0, .val .null] [.null]) tz
          refine XS.aload X146.here hx rfl (hb hby at_234) rfl rfl ?_
          show sT p e below T146 (mkF m 236 #[iv p0, iv p1, iv p2, iv 2, iv r1, iv r2, iv 0, iv 1, iv r3, iv r4, rv d135, rv d137, .val .null, iv 0, .val .null] [.null, .null]) tz
          refine Jvm.RoadKit.acmp (g := (mkF m 236 #[iv p0, iv p1, iv p2, iv 2, iv r1, iv r2, iv 0, iv 1, iv r3, iv r4, rv d135, rv d137, .val .null, iv 0, .val .null] [.null, .null])) X146 hx rfl rfl rfl (pc0 := 236) (pc' := 239) (same := true) rfl (hb hby at_236) rfl (decide_eq_true rfl) (by decide) (by decide) ?_
          show sT p e below T146 (mkF m 239 #[iv p0, iv p1, iv p2, iv 2, iv r1, iv r2, iv 0, iv 1, iv r3, iv r4, rv d135, rv d137, .val .null, iv 0, .val .null] []) tz
          refine XS.iconst X146.here hx rfl (hb hby at_239) ?_
          show sT p e below T146 (mkF m 240 #[iv p0, iv p1, iv p2, iv 2, iv r1, iv r2, iv 0, iv 1, iv r3, iv r4, rv d135, rv d137, .val .null, iv 0, .val .null] [(.int 1)]) tz
          refine XS.goto X146.here hx rfl (pc0 := 240) (pc' := 244) rfl (hb hby at_240) (by decide) (by decide) ?_
          exact kz
        obtain ⟨fs, hr, hrun, hended, hRW⟩ := Jvm.Stand.leaveW X146 hS146 ((Nat.le_refl T146.heap.size)) (v := some (.int (1 : Int32))) (fun h => by rw [Bd.returns] at h; cases h)
        refine own_of ⟨_, _, ?_, hrun, hended, _, _, rfl, ?_, hRW.1, hRW.2.1, hRW.2.2.1, hRW.2.2.2.mono (by decide) (by decide)⟩
        · show sT p e below T146 (mkF m 244 #[iv p0, iv p1, iv p2, iv 2, iv r1, iv r2, iv 0, iv 1, iv r3, iv r4, rv d135, rv d137, .val .null, iv 0, .val .null] [(.int 1)]) _
          exact own_retN X146 hx (t := .boolean) Bd.returns (by simp) (by first | rfl | (split <;> first | rfl | (split <;> first | rfl | (split <;> rfl)))) (hb hby at_244) hr
        · show Q0 Z p0 p1 p2 w0 w1 w2 w3 cS h0 n0 _ T146.heap _
          exact ⟨rfl, N146⟩
      · refine own_on (B := T4.setTop (mkF m 94 #[iv p0, iv p1, iv p2, iv 2, iv r1, iv r2, iv 0, iv 2, iv r3, iv r4, un, un, un, un, un] [(.int r2), (.int r1), (.int 2)])) (fun tz kz => ?_) ?_
        · show sT p e below T4 (mkF m 89 #[iv p0, iv p1, iv p2, iv 2, iv r1, iv r2, iv 0, iv 2, iv r3, iv r4, un, un, un, un, un] []) tz
          refine XS.iloadN X4.here hx rfl (hb hby at_89) rfl ?_
          show sT p e below T4 (mkF m 90 #[iv p0, iv p1, iv p2, iv 2, iv r1, iv r2, iv 0, iv 2, iv r3, iv r4, un, un, un, un, un] [(.int 2)]) tz
          refine XS.iload X4.here hx rfl (hb hby at_90) rfl ?_
          show sT p e below T4 (mkF m 92 #[iv p0, iv p1, iv p2, iv 2, iv r1, iv r2, iv 0, iv 2, iv r3, iv r4, un, un, un, un, un] [(.int r1), (.int 2)]) tz
          refine XS.iload X4.here hx rfl (hb hby at_92) rfl ?_
          exact kz
        obtain ⟨_, _, ⟨T149, L149, k149, n149⟩, -, X149, ⟨Lc149, hQ149, l149, y149, z149⟩, st149⟩ := Jvm.LawKit.callS X4 hx (y := (⟨"com/example/stackwright/stackwright/FairValueLevelReadPinLaw", "make", "(ICC)Ljava/lang/String;"⟩ : MethodName)) hown (mvT hZ (own_w hw 4 rfl)) (mvT hZ (own_w hw 5 rfl)) (mvT hZ (own_w hw 2 rfl)) (mvT hZ (own_w hw 6 rfl)) (by decide) (backOf (W := 0) (rm2b l Z a0 hw [] r1 r2 cS h0 n0 O0 S_cs hcS lo1 hi1 lo2 hi2) hZ (own_w hw 6 rfl) (own_w hw 2 rfl) (by decide) (by decide)) (g := (mkF m 94 #[iv p0, iv p1, iv p2, iv 2, iv r1, iv r2, iv 0, iv 2, iv r3, iv r4, un, un, un, un, un] [(.int r2), (.int r1), (.int 2)])) rfl (by rw [hml]; rfl) (argsL := [(.int (2 : Int32)), (.int r1), (.int r2)]) (rest := []) (lenOf own_pd13 rfl) rfl (by show 2 * 0 + _ ≤ _; exact Nat.le_of_eq rfl) (hb hby at_94) (fun _ _ => ⟨rfl, eq4, (by decide : 0 + 4 ≤ _), (by decide : 0 + 8 ≤ _)⟩)
        dsimp only [Pt.U, Pt.locs, Pt.cells, Pt.slots] at X149 l149 y149 z149 st149 hQ149
        subst l149 y149 z149
        obtain ⟨d149, b149, kb149, rfl, Nq149, Kq149, zq149, Eq149, Fv149, Fc149, Fh149, Fz149, Eb149, Vb149⟩ := hQ149
        have N149 := Fr.app N4 Nq149
        have g_d149 : n0 ≤ d149 := Nat.le_trans (own_old O0) zq149
        have sz_d149 : h0.size ≤ d149 := Nat.le_trans (Keep.refl h0 []).1 zq149
        have O150 := O0.keep Kq149 all0
        have K150 : Keep h0 T149.heap [] := (Keep.refl h0 []).trans Kq149 all0
        refine own_on (B := T149.setTop (mkF m 97 #[iv p0, iv p1, iv p2, iv 2, iv r1, iv r2, iv 0, iv 2, iv r3, iv r4, un, un, un, un, un] [(.ref d149)])) (fun tz kz => st149 _ kz) ?_
        refine own_on (B := T149.setTop (mkF m 105 #[iv p0, iv p1, iv p2, iv 2, iv r1, iv r2, iv 0, iv 2, iv r3, iv r4, rv d149, un, un, un, un] [(.int r4), (.int r3), (.int 2)])) (fun tz kz => ?_) ?_
        · show sT p e below T149 (mkF m 97 #[iv p0, iv p1, iv p2, iv 2, iv r1, iv r2, iv 0, iv 2, iv r3, iv r4, un, un, un, un, un] [(.ref d149)]) tz
          refine XS.astore X149.here hx rfl (hb hby at_97) rfl rfl (l' := #[iv p0, iv p1, iv p2, iv 2, iv r1, iv r2, iv 0, iv 2, iv r3, iv r4, rv d149, un, un, un, un]) rfl ?_
          show sT p e below T149 (mkF m 99 #[iv p0, iv p1, iv p2, iv 2, iv r1, iv r2, iv 0, iv 2, iv r3, iv r4, rv d149, un, un, un, un] []) tz
          refine XS.iload X149.here hx rfl (hb hby at_99) rfl ?_
          show sT p e below T149 (mkF m 101 #[iv p0, iv p1, iv p2, iv 2, iv r1, iv r2, iv 0, iv 2, iv r3, iv r4, rv d149, un, un, un, un] [(.int 2)]) tz
          refine XS.iload X149.here hx rfl (hb hby at_101) rfl ?_
          show sT p e below T149 (mkF m 103 #[iv p0, iv p1, iv p2, iv 2, iv r1, iv r2, iv 0, iv 2, iv r3, iv r4, rv d149, un, un, un, un] [(.int r3), (.int 2)]) tz
          refine XS.iload X149.here hx rfl (hb hby at_103) rfl ?_
          exact kz
        obtain ⟨_, _, ⟨T151, L151, k151, n151⟩, -, X151, ⟨Lc151, hQ151, l151, y151, z151⟩, st151⟩ := Jvm.LawKit.callS X149 hx (y := (⟨"com/example/stackwright/stackwright/FairValueLevelReadPinLaw", "make", "(ICC)Ljava/lang/String;"⟩ : MethodName)) hown (mvT hZ (own_w hw 4 rfl)) (mvT hZ (own_w hw 5 rfl)) (mvT hZ (own_w hw 2 rfl)) (mvT hZ (own_w hw 6 rfl)) (by decide) (backOf (W := 0) (rm2b l Z a0 hw [] r3 r4 cS T149.heap n0 O150 S_cs hcS lo3 hi3 lo4 hi4) hZ (own_w hw 6 rfl) (own_w hw 2 rfl) (by decide) (by decide)) (g := (mkF m 105 #[iv p0, iv p1, iv p2, iv 2, iv r1, iv r2, iv 0, iv 2, iv r3, iv r4, rv d149, un, un, un, un] [(.int r4), (.int r3), (.int 2)])) rfl (by rw [hml]; rfl) (argsL := [(.int (2 : Int32)), (.int r3), (.int r4)]) (rest := []) (lenOf own_pd13 rfl) rfl (by show 2 * 0 + _ ≤ _; exact Nat.le_of_eq rfl) (hb hby at_105) (fun _ _ => ⟨rfl, rfl, (by decide : 4 + 4 ≤ _), (by decide : 8 + 8 ≤ _)⟩)
        dsimp only [Pt.U, Pt.locs, Pt.cells, Pt.slots] at X151 l151 y151 z151 st151 hQ151
        subst l151 y151 z151
        obtain ⟨d151, b151, kb151, rfl, Nq151, Kq151, zq151, Eq151, Fv151, Fc151, Fh151, Fz151, Eb151, Vb151⟩ := hQ151
        have N151 := Fr.app N149 Nq151
        have ne_b149_d151 : b149 ≠ d151 := Nat.ne_of_lt (Nat.lt_of_lt_of_le (Eb149).lt zq151)
        have ne_d149_d151 : d149 ≠ d151 := Nat.ne_of_lt (Nat.lt_of_lt_of_le (Eq149).lt zq151)
        have g_d151 : n0 ≤ d151 := Nat.le_trans (own_old O150) zq151
        have sz_d151 : h0.size ≤ d151 := Nat.le_trans K150.1 zq151
        have O152 := O150.keep Kq151 all0
        have K152 : Keep h0 T151.heap [] := K150.trans Kq151 all0
        refine own_on (B := T151.setTop (mkF m 108 #[iv p0, iv p1, iv p2, iv 2, iv r1, iv r2, iv 0, iv 2, iv r3, iv r4, rv d149, un, un, un, un] [(.ref d151)])) (fun tz kz => st151 _ kz) ?_
        refine own_on (B := T151.setTop (mkF m 114 #[iv p0, iv p1, iv p2, iv 2, iv r1, iv r2, iv 0, iv 2, iv r3, iv r4, rv d149, rv d151, un, un, un] [(.ref d151), (.ref d149)])) (fun tz kz => ?_) ?_
        · show sT p e below T151 (mkF m 108 #[iv p0, iv p1, iv p2, iv 2, iv r1, iv r2, iv 0, iv 2, iv r3, iv r4, rv d149, un, un, un, un] [(.ref d151)]) tz
          refine XS.astore X151.here hx rfl (hb hby at_108) rfl rfl (l' := #[iv p0, iv p1, iv p2, iv 2, iv r1, iv r2, iv 0, iv 2, iv r3, iv r4, rv d149, rv d151, un, un, un]) rfl ?_
          show sT p e below T151 (mkF m 110 #[iv p0, iv p1, iv p2, iv 2, iv r1, iv r2, iv 0, iv 2, iv r3, iv r4, rv d149, rv d151, un, un, un] []) tz
          refine XS.aload X151.here hx rfl (hb hby at_110) rfl rfl ?_
          show sT p e below T151 (mkF m 112 #[iv p0, iv p1, iv p2, iv 2, iv r1, iv r2, iv 0, iv 2, iv r3, iv r4, rv d149, rv d151, un, un, un] [(.ref d149)]) tz
          refine XS.aload X151.here hx rfl (hb hby at_112) rfl rfl ?_
          exact kz
        by_cases e0_ : r1 = r3
        · by_cases e1_ : r2 = r4
          · have f_153 := (Vb149.keep Kq151 nin0)
            have Vr : Arv Z T151.heap b151 kb151 .byte (2 : Int32) [(.int (nar .byte (r1.toInt8.toInt32))), (.int (nar .byte (r2.toInt8.toInt32)))] (.int 0) := by have q := Vb151; rw [← e0_, ← e1_] at q; exact q
            have f_154 := (Eq149.keep Kq151)
            have f_155 := (Fv149.keep Kq151 nin0)
            have f_156 := (Fc149.keep Kq151 nin0)
            obtain ⟨_, _, ⟨T157, L157, k157, n157⟩, -, X157, ⟨Lc157, hQ157, l157, y157, z157⟩, st157⟩ := Jvm.LawKit.callS X151 hx (y := (⟨"com/example/stackwright/stackwright/Holdings$FairValueLevel", "read", "(Ljava/lang/String;Ljava/lang/String;)Lcom/example/stackwright/stackwright/Holdings$FairValueLevel;"⟩ : MethodName)) hown (mvT hZ (own_w hw 29 rfl)) (mvT hZ (own_w hw 30 rfl)) (mvT hZ (own_w hw 31 rfl)) (mvT hZ (own_w hw 32 rfl)) (by decide) (backOf (W := 0) (rm6e l Z a0 hw [] d149 d151 w0 w1 w2 w3 T151.heap n0 O152 S_NONE S_LEVEL_1 S_LEVEL_2 S_LEVEL_3 f_154 (rm7b l Z a0 hw [] d149 d151 cS b149 b151 kb149 kb151 (nar .byte (r1.toInt8.toInt32)) (nar .byte (r2.toInt8.toInt32)) T151.heap n0 O152 S_cs hcS f_154 f_155 f_156 Eq151 Fv151 Fc151 f_153 Vr )) hZ (own_w hw 32 rfl) (own_w hw 31 rfl) (by decide) (by decide)) (g := (mkF m 114 #[iv p0, iv p1, iv p2, iv 2, iv r1, iv r2, iv 0, iv 2, iv r3, iv r4, rv d149, rv d151, un, un, un] [(.ref d151), (.ref d149)])) rfl (by rw [hml]; rfl) (argsL := [(.ref d149), (.ref d151)]) (rest := []) (lenOf own_pd14 rfl) rfl (by show 2 * 0 + _ ≤ _; exact Nat.le_of_eq rfl) (hb hby at_114) (fun _ _ => ⟨rfl, rfl, (by decide : 8 + 2 ≤ _), (by decide : 16 + 8 ≤ _)⟩)
            dsimp only [Pt.U, Pt.locs, Pt.cells, Pt.slots] at X157 l157 y157 z157 st157 hQ157
            subst l157 y157 z157
            obtain ⟨rfl, Nq157, e157⟩ := hQ157
            have N157 := Fr.app N151 Nq157
            refine own_on (B := T157.setTop (mkF m 117 #[iv p0, iv p1, iv p2, iv 2, iv r1, iv r2, iv 0, iv 2, iv r3, iv r4, rv d149, rv d151, un, un, un] [(.ref w0)])) (fun tz kz => st157 _ kz) ?_
            refine own_on (B := T157.setTop (mkF m 161 #[iv p0, iv p1, iv p2, iv 2, iv r1, iv r2, iv 0, iv 2, iv r3, iv r4, rv d149, rv d151, rv w0, iv 1, un] [])) (fun tz kz => ?_) ?_
            · show sT p e below T157 (mkF m 117 #[iv p0, iv p1, iv p2, iv 2, iv r1, iv r2, iv 0, iv 2, iv r3, iv r4, rv d149, rv d151, un, un, un] [(.ref w0)]) tz
              refine XS.astore X157.here hx rfl (hb hby at_117) rfl rfl (l' := #[iv p0, iv p1, iv p2, iv 2, iv r1, iv r2, iv 0, iv 2, iv r3, iv r4, rv d149, rv d151, rv w0, un, un]) rfl ?_
              show sT p e below T157 (mkF m 119 #[iv p0, iv p1, iv p2, iv 2, iv r1, iv r2, iv 0, iv 2, iv r3, iv r4, rv d149, rv d151, rv w0, un, un] []) tz
              refine XS.iloadN X157.here hx rfl (hb hby at_119) rfl ?_
              show sT p e below T157 (mkF m 120 #[iv p0, iv p1, iv p2, iv 2, iv r1, iv r2, iv 0, iv 2, iv r3, iv r4, rv d149, rv d151, rv w0, un, un] [(.int 2)]) tz
              refine XS.iload X157.here hx rfl (hb hby at_120) rfl ?_
              show sT p e below T157 (mkF m 122 #[iv p0, iv p1, iv p2, iv 2, iv r1, iv r2, iv 0, iv 2, iv r3, iv r4, rv d149, rv d151, rv w0, un, un] [(.int 2), (.int 2)]) tz
              refine XS.icmpNo X157.here hx rfl (hb hby at_122) rfl (teq rfl).2 ?_
              show sT p e below T157 (mkF m 125 #[iv p0, iv p1, iv p2, iv 2, iv r1, iv r2, iv 0, iv 2, iv r3, iv r4, rv d149, rv d151, rv w0, un, un] []) tz
              refine XS.iloadN X157.here hx rfl (hb hby at_125) rfl ?_
              show sT p e below T157 (mkF m 126 #[iv p0, iv p1, iv p2, iv 2, iv r1, iv r2, iv 0, iv 2, iv r3, iv r4, rv d149, rv d151, rv w0, un, un] [(.int 2)]) tz
              refine XS.iconst X157.here hx rfl (hb hby at_126) ?_
              show sT p e below T157 (mkF m 127 #[iv p0, iv p1, iv p2, iv 2, iv r1, iv r2, iv 0, iv 2, iv r3, iv r4, rv d149, rv d151, rv w0, un, un] [(.int 1), (.int 2)]) tz
              refine XS.icmpNo X157.here hx rfl (hb hby at_127) rfl (flt (by decide : ¬ ((2 : Int32) < (1 : Int32)))).1 ?_
              show sT p e below T157 (mkF m 130 #[iv p0, iv p1, iv p2, iv 2, iv r1, iv r2, iv 0, iv 2, iv r3, iv r4, rv d149, rv d151, rv w0, un, un] []) tz
              refine XS.iload X157.here hx rfl (hb hby at_130) rfl ?_
              show sT p e below T157 (mkF m 132 #[iv p0, iv p1, iv p2, iv 2, iv r1, iv r2, iv 0, iv 2, iv r3, iv r4, rv d149, rv d151, rv w0, un, un] [(.int r1)]) tz
              refine XS.iload X157.here hx rfl (hb hby at_132) rfl ?_
              show sT p e below T157 (mkF m 134 #[iv p0, iv p1, iv p2, iv 2, iv r1, iv r2, iv 0, iv 2, iv r3, iv r4, rv d149, rv d151, rv w0, un, un] [(.int r3), (.int r1)]) tz
              refine XS.icmpNo X157.here hx rfl (hb hby at_134) rfl (teq e0_).2 ?_
              show sT p e below T157 (mkF m 137 #[iv p0, iv p1, iv p2, iv 2, iv r1, iv r2, iv 0, iv 2, iv r3, iv r4, rv d149, rv d151, rv w0, un, un] []) tz
              refine XS.iloadN X157.here hx rfl (hb hby at_137) rfl ?_
              show sT p e below T157 (mkF m 138 #[iv p0, iv p1, iv p2, iv 2, iv r1, iv r2, iv 0, iv 2, iv r3, iv r4, rv d149, rv d151, rv w0, un, un] [(.int 2)]) tz
              refine XS.iconst X157.here hx rfl (hb hby at_138) ?_
              show sT p e below T157 (mkF m 139 #[iv p0, iv p1, iv p2, iv 2, iv r1, iv r2, iv 0, iv 2, iv r3, iv r4, rv d149, rv d151, rv w0, un, un] [(.int 2), (.int 2)]) tz
              refine XS.icmpNo X157.here hx rfl (hb hby at_139) rfl (flt Int32.lt_irrefl).1 ?_
              show sT p e below T157 (mkF m 142 #[iv p0, iv p1, iv p2, iv 2, iv r1, iv r2, iv 0, iv 2, iv r3, iv r4, rv d149, rv d151, rv w0, un, un] []) tz
              refine XS.iload X157.here hx rfl (hb hby at_142) rfl ?_
              show sT p e below T157 (mkF m 144 #[iv p0, iv p1, iv p2, iv 2, iv r1, iv r2, iv 0, iv 2, iv r3, iv r4, rv d149, rv d151, rv w0, un, un] [(.int r2)]) tz
              refine XS.iload X157.here hx rfl (hb hby at_144) rfl ?_
              show sT p e below T157 (mkF m 146 #[iv p0, iv p1, iv p2, iv 2, iv r1, iv r2, iv 0, iv 2, iv r3, iv r4, rv d149, rv d151, rv w0, un, un] [(.int r4), (.int r2)]) tz
              refine XS.icmpNo X157.here hx rfl (hb hby at_146) rfl (teq e1_).2 ?_
              show sT p e below T157 (mkF m 149 #[iv p0, iv p1, iv p2, iv 2, iv r1, iv r2, iv 0, iv 2, iv r3, iv r4, rv d149, rv d151, rv w0, un, un] []) tz
              refine XS.iconst X157.here hx rfl (hb hby at_149) ?_
              show sT p e below T157 (mkF m 150 #[iv p0, iv p1, iv p2, iv 2, iv r1, iv r2, iv 0, iv 2, iv r3, iv r4, rv d149, rv d151, rv w0, un, un] [(.int 1)]) tz
              refine XS.goto X157.here hx rfl (pc0 := 150) (pc' := 154) rfl (hb hby at_150) (by decide) (by decide) ?_
              show sT p e below T157 (mkF m 154 #[iv p0, iv p1, iv p2, iv 2, iv r1, iv r2, iv 0, iv 2, iv r3, iv r4, rv d149, rv d151, rv w0, un, un] [(.int 1)]) tz
              refine XS.istore X157.here hx rfl (hb hby at_154) rfl (l' := #[iv p0, iv p1, iv p2, iv 2, iv r1, iv r2, iv 0, iv 2, iv r3, iv r4, rv d149, rv d151, rv w0, iv 1, un]) rfl ?_
              show sT p e below T157 (mkF m 156 #[iv p0, iv p1, iv p2, iv 2, iv r1, iv r2, iv 0, iv 2, iv r3, iv r4, rv d149, rv d151, rv w0, iv 1, un] []) tz
              refine XS.iload X157.here hx rfl (hb hby at_156) rfl ?_
              show sT p e below T157 (mkF m 158 #[iv p0, iv p1, iv p2, iv 2, iv r1, iv r2, iv 0, iv 2, iv r3, iv r4, rv d149, rv d151, rv w0, iv 1, un] [(.int 1)]) tz
              refine XS.ifNo X157.here hx rfl (hb hby at_158) rfl ((if0 _ _).trans (feq (by decide : ¬ ((1 : Int32) = (0 : Int32)))).1) ?_
              exact kz
            obtain ⟨T158, X158, e158, st158⟩ := getS2 X157 hx hZ hown (host := "") (Or.inl (own_w hw 46 rfl)) Via.refl e157 (S_NONE.ext O152.2) (g := (mkF m 161 #[iv p0, iv p1, iv p2, iv 2, iv r1, iv r2, iv 0, iv 2, iv r3, iv r4, rv d149, rv d151, rv w0, iv 1, un] [])) rfl (hb hby at_161)
            refine own_on (B := T158.setTop (mkF m 164 #[iv p0, iv p1, iv p2, iv 2, iv r1, iv r2, iv 0, iv 2, iv r3, iv r4, rv d149, rv d151, rv w0, iv 1, un] [(.ref w0)])) (fun tz kz => st158 _ kz) ?_
            refine own_on (B := T158.setTop (mkF m 244 #[iv p0, iv p1, iv p2, iv 2, iv r1, iv r2, iv 0, iv 2, iv r3, iv r4, rv d149, rv d151, rv w0, iv 1, rv w0] [(.int 1)])) (fun tz kz => ?_) ?_
            · show sT p e below T158 (mkF m 164 #[iv p0, iv p1, iv p2, iv 2, iv r1, iv r2, iv 0, iv 2, iv r3, iv r4, rv d149, rv d151, rv w0, iv 1, un] [(.ref w0)]) tz
              refine XS.astore X158.here hx rfl (hb hby at_164) rfl rfl (l' := #[iv p0, iv p1, iv p2, iv 2, iv r1, iv r2, iv 0, iv 2, iv r3, iv r4, rv d149, rv d151, rv w0, iv 1, rv w0]) rfl ?_
              show sT p e below T158 (mkF m 166 #[iv p0, iv p1, iv p2, iv 2, iv r1, iv r2, iv 0, iv 2, iv r3, iv r4, rv d149, rv d151, rv w0, iv 1, rv w0] []) tz
              refine XS.goto X158.here hx rfl (pc0 := 166) (pc' := 232) rfl (hb hby at_166) (by decide) (by decide) ?_
              show sT p e below T158 (mkF m 232 #[iv p0, iv p1, iv p2, iv 2, iv r1, iv r2, iv 0, iv 2, iv r3, iv r4, rv d149, rv d151, rv w0, iv 1, rv w0] []) tz
              refine XS.aload X158.here hx rfl (hb hby at_232) rfl rfl ?_
              show sT p e below T158 (mkF m 234 #[iv p0, iv p1, iv p2, iv 2, iv r1, iv r2, iv 0, iv 2, iv r3, iv r4, rv d149, rv d151, rv w0, iv 1, rv w0] [(.ref w0)]) tz
              refine XS.aload X158.here hx rfl (hb hby at_234) rfl rfl ?_
              show sT p e below T158 (mkF m 236 #[iv p0, iv p1, iv p2, iv 2, iv r1, iv r2, iv 0, iv 2, iv r3, iv r4, rv d149, rv d151, rv w0, iv 1, rv w0] [(.ref w0), (.ref w0)]) tz
              refine Jvm.RoadKit.acmp (g := (mkF m 236 #[iv p0, iv p1, iv p2, iv 2, iv r1, iv r2, iv 0, iv 2, iv r3, iv r4, rv d149, rv d151, rv w0, iv 1, rv w0] [(.ref w0), (.ref w0)])) X158 hx rfl rfl rfl (pc0 := 236) (pc' := 239) (same := true) rfl (hb hby at_236) rfl (decide_eq_true (congrArg Value.ref rfl)) (by decide) (by decide) ?_
              show sT p e below T158 (mkF m 239 #[iv p0, iv p1, iv p2, iv 2, iv r1, iv r2, iv 0, iv 2, iv r3, iv r4, rv d149, rv d151, rv w0, iv 1, rv w0] []) tz
              refine XS.iconst X158.here hx rfl (hb hby at_239) ?_
              show sT p e below T158 (mkF m 240 #[iv p0, iv p1, iv p2, iv 2, iv r1, iv r2, iv 0, iv 2, iv r3, iv r4, rv d149, rv d151, rv w0, iv 1, rv w0] [(.int 1)]) tz
              refine XS.goto X158.here hx rfl (pc0 := 240) (pc' := 244) rfl (hb hby at_240) (by decide) (by decide) ?_
              exact kz
            obtain ⟨fs, hr, hrun, hended, hW, hsame⟩ := X158.leave (v := some (.int (1 : Int32))) (fun h => by rw [Bd.returns] at h; cases h)
            refine own_of ⟨_, _, ?_, hrun, hended, _, _, rfl, ?_, ReturnedEndW.of_narrow ⟨_, rfl⟩ hW (hsame.mono (by decide) (by decide))⟩
            · show sT p e below T158 (mkF m 244 #[iv p0, iv p1, iv p2, iv 2, iv r1, iv r2, iv 0, iv 2, iv r3, iv r4, rv d149, rv d151, rv w0, iv 1, rv w0] [(.int 1)]) _
              exact own_retN X158 hx (t := .boolean) Bd.returns (by simp) (by first | rfl | (split <;> first | rfl | (split <;> first | rfl | (split <;> rfl)))) (hb hby at_244) hr
            · show Q0 Z p0 p1 p2 w0 w1 w2 w3 cS h0 n0 _ T158.heap _
              rw [e158]
              exact ⟨rfl, N157⟩
          · have Vo : Arv Z T151.heap b151 kb151 .byte (2 : Int32) [(.int (nar .byte (r1.toInt8.toInt32))), (.int (nar .byte (r4.toInt8.toInt32)))] (.int 0) := by have q := Vb151; rw [← e0_] at q; exact q
            have f_159 := (Vb149.keep Kq151 nin0)
            have f_160 := (Eq149.keep Kq151)
            have f_161 := (Fv149.keep Kq151 nin0)
            have f_162 := (Fc149.keep Kq151 nin0)
            have f_163 := (Fh149.keep Kq151 nin0)
            have f_164 := (Fz149.keep Kq151 nin0)
            have f_165 := (Eb149.keep Kq151)
            obtain ⟨_, _, ⟨T166, L166, k166, n166⟩, -, X166, hSc166, hgr166, ⟨Lc166, hQ166, l166, y166, z166⟩, st166⟩ := callSS X151 hx (y := (⟨"com/example/stackwright/stackwright/Holdings$FairValueLevel", "read", "(Ljava/lang/String;Ljava/lang/String;)Lcom/example/stackwright/stackwright/Holdings$FairValueLevel;"⟩ : MethodName)) hown (mvT hZ (own_w hw 29 rfl)) (mvT hZ (own_w hw 30 rfl)) (mvT hZ (own_w hw 31 rfl)) (mvT hZ (own_w hw 32 rfl)) (by decide) (own_backK (hJ := OwnJ.warm (s := s) hJ) (W := 0) (rm6p l Z a0 hw [] d149 d151 w0 w1 w2 w3 cS b149 kb149 (nar .byte (r1.toInt8.toInt32)) (nar .byte (r2.toInt8.toInt32)) [] T151.heap n0 O152 S_NONE S_LEVEL_1 S_LEVEL_2 S_LEVEL_3 S_cs hcS f_160 g_d149 f_161 f_162 f_163 f_164 f_165 f_159 (rm7o l Z a0 hw [] d149 d151 cS b149 b151 kb149 kb151 (nar .byte (r1.toInt8.toInt32)) (nar .byte (r2.toInt8.toInt32)) (nar .byte (r4.toInt8.toInt32)) T151.heap n0 O152 S_cs hcS f_160 f_161 f_162 Eq151 Fv151 Fc151 f_159 Vo (own_byi lo2 hi2 lo4 hi4 e1_) ne_d149_d151) held1 held2 held3 hcw (by decide) (by decide) (by decide)) hZ (own_w hw 32 rfl) (own_w hw 31 rfl) (by decide) (by decide)) (g := (mkF m 114 #[iv p0, iv p1, iv p2, iv 2, iv r1, iv r2, iv 0, iv 2, iv r3, iv r4, rv d149, rv d151, un, un, un] [(.ref d151), (.ref d149)])) rfl (by rw [hml]; rfl) (argsL := [(.ref d149), (.ref d151)]) (rest := []) (lenOf own_pd14 rfl) rfl (by show 2 * 0 + _ ≤ _; exact Nat.le_of_eq rfl) (hb hby at_114) (fun _ _ => ⟨rfl, rfl, (by decide : 8 + 2 ≤ _), (by decide : 16 + 8 ≤ _)⟩)
            dsimp only [Pt.U, Pt.locs, Pt.cells, Pt.slots] at X166 l166 y166 z166 st166 hQ166 hSc166 hgr166
            subst l166 y166 z166
            have hS167 : s.Since s.vm 0 := State.WarmedH.since (State.WarmedH.refl s) 0
            obtain ⟨X166, hS166, hZ, hown⟩ := rebS hS167 (Nat.zero_le _) X166 hSc166 hgr166 hZ hown
            obtain ⟨rfl, Nq166, Kq166⟩ := hQ166
            have N166 := Fr.app N151 Nq166
            have O168 := O152.keep Kq166 (allS g_d149 all0)
            have K168 : Keep h0 T166.heap [] := K152.trans Kq166 (allS (Or.inr sz_d149) all0)
            refine own_on (B := T166.setTop (mkF m 117 #[iv p0, iv p1, iv p2, iv 2, iv r1, iv r2, iv 0, iv 2, iv r3, iv r4, rv d149, rv d151, un, un, un] [.null])) (fun tz kz => st166.trans kz) ?_
            refine own_on (B := T166.setTop (mkF m 244 #[iv p0, iv p1, iv p2, iv 2, iv r1, iv r2, iv 0, iv 2, iv r3, iv r4, rv d149, rv d151, .val .null, iv 0, .val .null] [(.int 1)])) (fun tz kz => ?_) ?_
            · show sT p e below T166 (mkF m 117 #[iv p0, iv p1, iv p2, iv 2, iv r1, iv r2, iv 0, iv 2, iv r3, iv r4, rv d149, rv d151, un, un, un] [.null]) tz
              refine XS.astore X166.here hx rfl (hb hby at_117) rfl rfl (l' := #[iv p0, iv p1, iv p2, iv 2, iv r1, iv r2, iv 0, iv 2, iv r3, iv r4, rv d149, rv d151, .val .null, un, un]) rfl ?_
              show sT p e below T166 (mkF m 119 #[iv p0, iv p1, iv p2, iv 2, iv r1, iv r2, iv 0, iv 2, iv r3, iv r4, rv d149, rv d151, .val .null, un, un] []) tz
              refine XS.iloadN X166.here hx rfl (hb hby at_119) rfl ?_
              show sT p e below T166 (mkF m 120 #[iv p0, iv p1, iv p2, iv 2, iv r1, iv r2, iv 0, iv 2, iv r3, iv r4, rv d149, rv d151, .val .null, un, un] [(.int 2)]) tz
              refine XS.iload X166.here hx rfl (hb hby at_120) rfl ?_
              show sT p e below T166 (mkF m 122 #[iv p0, iv p1, iv p2, iv 2, iv r1, iv r2, iv 0, iv 2, iv r3, iv r4, rv d149, rv d151, .val .null, un, un] [(.int 2), (.int 2)]) tz
              refine XS.icmpNo X166.here hx rfl (hb hby at_122) rfl (teq rfl).2 ?_
              show sT p e below T166 (mkF m 125 #[iv p0, iv p1, iv p2, iv 2, iv r1, iv r2, iv 0, iv 2, iv r3, iv r4, rv d149, rv d151, .val .null, un, un] []) tz
              refine XS.iloadN X166.here hx rfl (hb hby at_125) rfl ?_
              show sT p e below T166 (mkF m 126 #[iv p0, iv p1, iv p2, iv 2, iv r1, iv r2, iv 0, iv 2, iv r3, iv r4, rv d149, rv d151, .val .null, un, un] [(.int 2)]) tz
              refine XS.iconst X166.here hx rfl (hb hby at_126) ?_
              show sT p e below T166 (mkF m 127 #[iv p0, iv p1, iv p2, iv 2, iv r1, iv r2, iv 0, iv 2, iv r3, iv r4, rv d149, rv d151, .val .null, un, un] [(.int 1), (.int 2)]) tz
              refine XS.icmpNo X166.here hx rfl (hb hby at_127) rfl (flt (by decide : ¬ ((2 : Int32) < (1 : Int32)))).1 ?_
              show sT p e below T166 (mkF m 130 #[iv p0, iv p1, iv p2, iv 2, iv r1, iv r2, iv 0, iv 2, iv r3, iv r4, rv d149, rv d151, .val .null, un, un] []) tz
              refine XS.iload X166.here hx rfl (hb hby at_130) rfl ?_
              show sT p e below T166 (mkF m 132 #[iv p0, iv p1, iv p2, iv 2, iv r1, iv r2, iv 0, iv 2, iv r3, iv r4, rv d149, rv d151, .val .null, un, un] [(.int r1)]) tz
              refine XS.iload X166.here hx rfl (hb hby at_132) rfl ?_
              show sT p e below T166 (mkF m 134 #[iv p0, iv p1, iv p2, iv 2, iv r1, iv r2, iv 0, iv 2, iv r3, iv r4, rv d149, rv d151, .val .null, un, un] [(.int r3), (.int r1)]) tz
              refine XS.icmpNo X166.here hx rfl (hb hby at_134) rfl (teq e0_).2 ?_
              show sT p e below T166 (mkF m 137 #[iv p0, iv p1, iv p2, iv 2, iv r1, iv r2, iv 0, iv 2, iv r3, iv r4, rv d149, rv d151, .val .null, un, un] []) tz
              refine XS.iloadN X166.here hx rfl (hb hby at_137) rfl ?_
              show sT p e below T166 (mkF m 138 #[iv p0, iv p1, iv p2, iv 2, iv r1, iv r2, iv 0, iv 2, iv r3, iv r4, rv d149, rv d151, .val .null, un, un] [(.int 2)]) tz
              refine XS.iconst X166.here hx rfl (hb hby at_138) ?_
              show sT p e below T166 (mkF m 139 #[iv p0, iv p1, iv p2, iv 2, iv r1, iv r2, iv 0, iv 2, iv r3, iv r4, rv d149, rv d151, .val .null, un, un] [(.int 2), (.int 2)]) tz
              refine XS.icmpNo X166.here hx rfl (hb hby at_139) rfl (flt Int32.lt_irrefl).1 ?_
              show sT p e below T166 (mkF m 142 #[iv p0, iv p1, iv p2, iv 2, iv r1, iv r2, iv 0, iv 2, iv r3, iv r4, rv d149, rv d151, .val .null, un, un] []) tz
              refine XS.iload X166.here hx rfl (hb hby at_142) rfl ?_
              show sT p e below T166 (mkF m 144 #[iv p0, iv p1, iv p2, iv 2, iv r1, iv r2, iv 0, iv 2, iv r3, iv r4, rv d149, rv d151, .val .null, un, un] [(.int r2)]) tz
              refine XS.iload X166.here hx rfl (hb hby at_144) rfl ?_
              show sT p e below T166 (mkF m 146 #[iv p0, iv p1, iv p2, iv 2, iv r1, iv r2, iv 0, iv 2, iv r3, iv r4, rv d149, rv d151, .val .null, un, un] [(.int r4), (.int r2)]) tz
              refine XS.icmpYes X166.here hx rfl (pc0 := 146) (pc' := 153) rfl (hb hby at_146) rfl (feq e1_).2 (by decide) (by decide) ?_
              show sT p e below T166 (mkF m 153 #[iv p0, iv p1, iv p2, iv 2, iv r1, iv r2, iv 0, iv 2, iv r3, iv r4, rv d149, rv d151, .val .null, un, un] []) tz
              refine XS.iconst X166.here hx rfl (hb hby at_153) ?_
              show sT p e below T166 (mkF m 154 #[iv p0, iv p1, iv p2, iv 2, iv r1, iv r2, iv 0, iv 2, iv r3, iv r4, rv d149, rv d151, .val .null, un, un] [(.int 0)]) tz
              refine XS.istore X166.here hx rfl (hb hby at_154) rfl (l' := #[iv p0, iv p1, iv p2, iv 2, iv r1, iv r2, iv 0, iv 2, iv r3, iv r4, rv d149, rv d151, .val .null, iv 0, un]) rfl ?_
              show sT p e below T166 (mkF m 156 #[iv p0, iv p1, iv p2, iv 2, iv r1, iv r2, iv 0, iv 2, iv r3, iv r4, rv d149, rv d151, .val .null, iv 0, un] []) tz
              refine XS.iload X166.here hx rfl (hb hby at_156) rfl ?_
              show sT p e below T166 (mkF m 158 #[iv p0, iv p1, iv p2, iv 2, iv r1, iv r2, iv 0, iv 2, iv r3, iv r4, rv d149, rv d151, .val .null, iv 0, un] [(.int 0)]) tz
              refine XS.ifYes X166.here hx rfl (pc0 := 158) (pc' := 169) rfl (hb hby at_158) rfl ((if0 _ _).trans (teq rfl).1) (by decide) (by decide) ?_
              show sT p e below T166 (mkF m 169 #[iv p0, iv p1, iv p2, iv 2, iv r1, iv r2, iv 0, iv 2, iv r3, iv r4, rv d149, rv d151, .val .null, iv 0, un] []) tz
              refine XS.iloadN X166.here hx rfl (hb hby at_169) rfl ?_
              show sT p e below T166 (mkF m 170 #[iv p0, iv p1, iv p2, iv 2, iv r1, iv r2, iv 0, iv 2, iv r3, iv r4, rv d149, rv d151, .val .null, iv 0, un] [(.int 2)]) tz
              refine XS.iconst X166.here hx rfl (hb hby at_170) ?_
              show sT p e below T166 (mkF m 171 #[iv p0, iv p1, iv p2, iv 2, iv r1, iv r2, iv 0, iv 2, iv r3, iv r4, rv d149, rv d151, .val .null, iv 0, un] [(.int 1), (.int 2)]) tz
              refine XS.icmpYes X166.here hx rfl (pc0 := 171) (pc' := 189) rfl (hb hby at_171) rfl (feq (by decide : ¬ ((2 : Int32) = (1 : Int32)))).2 (by decide) (by decide) ?_
              show sT p e below T166 (mkF m 189 #[iv p0, iv p1, iv p2, iv 2, iv r1, iv r2, iv 0, iv 2, iv r3, iv r4, rv d149, rv d151, .val .null, iv 0, un] []) tz
              refine XS.iloadN X166.here hx rfl (hb hby at_189) rfl ?_
              show sT p e below T166 (mkF m 190 #[iv p0, iv p1, iv p2, iv 2, iv r1, iv r2, iv 0, iv 2, iv r3, iv r4, rv d149, rv d151, .val .null, iv 0, un] [(.int 2)]) tz
              refine XS.iconst X166.here hx rfl (hb hby at_190) ?_
              show sT p e below T166 (mkF m 191 #[iv p0, iv p1, iv p2, iv 2, iv r1, iv r2, iv 0, iv 2, iv r3, iv r4, rv d149, rv d151, .val .null, iv 0, un] [(.int 1), (.int 2)]) tz
              refine XS.icmpYes X166.here hx rfl (pc0 := 191) (pc' := 209) rfl (hb hby at_191) rfl (feq (by decide : ¬ ((2 : Int32) = (1 : Int32)))).2 (by decide) (by decide) ?_
              show sT p e below T166 (mkF m 209 #[iv p0, iv p1, iv p2, iv 2, iv r1, iv r2, iv 0, iv 2, iv r3, iv r4, rv d149, rv d151, .val .null, iv 0, un] []) tz
              refine XS.iloadN X166.here hx rfl (hb hby at_209) rfl ?_
              show sT p e below T166 (mkF m 210 #[iv p0, iv p1, iv p2, iv 2, iv r1, iv r2, iv 0, iv 2, iv r3, iv r4, rv d149, rv d151, .val .null, iv 0, un] [(.int 2)]) tz
              refine XS.iconst X166.here hx rfl (hb hby at_210) ?_
              show sT p e below T166 (mkF m 211 #[iv p0, iv p1, iv p2, iv 2, iv r1, iv r2, iv 0, iv 2, iv r3, iv r4, rv d149, rv d151, .val .null, iv 0, un] [(.int 1), (.int 2)]) tz
              refine XS.icmpYes X166.here hx rfl (pc0 := 211) (pc' := 229) rfl (hb hby at_211) rfl (feq (by decide : ¬ ((2 : Int32) = (1 : Int32)))).2 (by decide) (by decide) ?_
              show sT p e below T166 (mkF m 229 #[iv p0, iv p1, iv p2, iv 2, iv r1, iv r2, iv 0, iv 2, iv r3, iv r4, rv d149, rv d151, .val .null, iv 0, un] []) tz
              refine XS.aconstNull X166.here hx rfl (hb hby at_229) ?_
              show sT p e below T166 (mkF m 230 #[iv p0, iv p1, iv p2, iv 2, iv r1, iv r2, iv 0, iv 2, iv r3, iv r4, rv d149, rv d151, .val .null, iv 0, un] [.null]) tz
              refine XS.astore X166.here hx rfl (hb hby at_230) rfl rfl (l' := #[iv p0, iv p1, iv p2, iv 2, iv r1, iv r2, iv 0, iv 2, iv r3, iv r4, rv d149, rv d151, .val .null, iv 0, .val .null]) rfl ?_
              show sT p e below T166 (mkF m 232 #[iv p0, iv p1, iv p2, iv 2, iv r1, iv r2, iv 0, iv 2, iv r3, iv r4, rv d149, rv d151, .val .null, iv 0, .val .null] []) tz
              refine XS.aload X166.here hx rfl (hb hby at_232) rfl rfl ?_
              show sT p e below T166 (mkF m 234 #[iv p0, iv p1, iv p2, iv 2, iv r1, iv r2, iv 0, iv 2, iv r3, iv r4, rv d149, rv d151, .val .null, iv 0, .val .null] [.null]) tz
              refine XS.aload X166.here hx rfl (hb hby at_234) rfl rfl ?_
              show sT p e below T166 (mkF m 236 #[iv p0, iv p1, iv p2, iv 2, iv r1, iv r2, iv 0, iv 2, iv r3, iv r4, rv d149, rv d151, .val .null, iv 0, .val .null] [.null, .null]) tz
              refine Jvm.RoadKit.acmp (g := (mkF m 236 #[iv p0, iv p1, iv p2, iv 2, iv r1, iv r2, iv 0, iv 2, iv r3, iv r4, rv d149, rv d151, .val .null, iv 0, .val .null] [.null, .null])) X166 hx rfl rfl rfl (pc0 := 236) (pc' := 239) (same := true) rfl (hb hby at_236) rfl (decide_eq_true rfl) (by decide) (by decide) ?_
              show sT p e below T166 (mkF m 239 #[iv p0, iv p1, iv p2, iv 2, iv r1, iv r2, iv 0, iv 2, iv r3, iv r4, rv d149, rv d151, .val .null, iv 0, .val .null] []) tz
              refine XS.iconst X166.here hx rfl (hb hby at_239) ?_
              show sT p e below T166 (mkF m 240 #[iv p0, iv p1, iv p2, iv 2, iv r1, iv r2, iv 0, iv 2, iv r3, iv r4, rv d149, rv d151, .val .null, iv 0, .val .null] [(.int 1)]) tz
              refine XS.goto X166.here hx rfl (pc0 := 240) (pc' := 244) rfl (hb hby at_240) (by decide) (by decide) ?_
              exact kz
            obtain ⟨fs, hr, hrun, hended, hRW⟩ := Jvm.Stand.leaveW X166 hS166 ((Nat.le_refl T166.heap.size)) (v := some (.int (1 : Int32))) (fun h => by rw [Bd.returns] at h; cases h)
            refine own_of ⟨_, _, ?_, hrun, hended, _, _, rfl, ?_, hRW.1, hRW.2.1, hRW.2.2.1, hRW.2.2.2.mono (by decide) (by decide)⟩
            · show sT p e below T166 (mkF m 244 #[iv p0, iv p1, iv p2, iv 2, iv r1, iv r2, iv 0, iv 2, iv r3, iv r4, rv d149, rv d151, .val .null, iv 0, .val .null] [(.int 1)]) _
              exact own_retN X166 hx (t := .boolean) Bd.returns (by simp) (by first | rfl | (split <;> first | rfl | (split <;> first | rfl | (split <;> rfl)))) (hb hby at_244) hr
            · show Q0 Z p0 p1 p2 w0 w1 w2 w3 cS h0 n0 _ T166.heap _
              exact ⟨rfl, N166⟩
        · have f_169 := (Vb149.keep Kq151 nin0)
          have f_170 := (Eq149.keep Kq151)
          have f_171 := (Fv149.keep Kq151 nin0)
          have f_172 := (Fc149.keep Kq151 nin0)
          have f_173 := (Fh149.keep Kq151 nin0)
          have f_174 := (Fz149.keep Kq151 nin0)
          have f_175 := (Eb149.keep Kq151)
          obtain ⟨_, _, ⟨T176, L176, k176, n176⟩, -, X176, hSc176, hgr176, ⟨Lc176, hQ176, l176, y176, z176⟩, st176⟩ := callSS X151 hx (y := (⟨"com/example/stackwright/stackwright/Holdings$FairValueLevel", "read", "(Ljava/lang/String;Ljava/lang/String;)Lcom/example/stackwright/stackwright/Holdings$FairValueLevel;"⟩ : MethodName)) hown (mvT hZ (own_w hw 29 rfl)) (mvT hZ (own_w hw 30 rfl)) (mvT hZ (own_w hw 31 rfl)) (mvT hZ (own_w hw 32 rfl)) (by decide) (own_backK (hJ := OwnJ.warm (s := s) hJ) (W := 0) (rm6p l Z a0 hw [] d149 d151 w0 w1 w2 w3 cS b149 kb149 (nar .byte (r1.toInt8.toInt32)) (nar .byte (r2.toInt8.toInt32)) [] T151.heap n0 O152 S_NONE S_LEVEL_1 S_LEVEL_2 S_LEVEL_3 S_cs hcS f_170 g_d149 f_171 f_172 f_173 f_174 f_175 f_169 (rm7n l Z a0 hw [] d149 d151 cS b149 b151 kb149 kb151 (nar .byte (r1.toInt8.toInt32)) (nar .byte (r2.toInt8.toInt32)) (nar .byte (r3.toInt8.toInt32)) (nar .byte (r4.toInt8.toInt32)) T151.heap n0 O152 S_cs hcS f_170 f_171 f_172 Eq151 Fv151 Fc151 f_169 Vb151 (own_byi lo1 hi1 lo3 hi3 e0_) ne_d149_d151) held1 held2 held3 hcw (by decide) (by decide) (by decide)) hZ (own_w hw 32 rfl) (own_w hw 31 rfl) (by decide) (by decide)) (g := (mkF m 114 #[iv p0, iv p1, iv p2, iv 2, iv r1, iv r2, iv 0, iv 2, iv r3, iv r4, rv d149, rv d151, un, un, un] [(.ref d151), (.ref d149)])) rfl (by rw [hml]; rfl) (argsL := [(.ref d149), (.ref d151)]) (rest := []) (lenOf own_pd14 rfl) rfl (by show 2 * 0 + _ ≤ _; exact Nat.le_of_eq rfl) (hb hby at_114) (fun _ _ => ⟨rfl, rfl, (by decide : 8 + 2 ≤ _), (by decide : 16 + 8 ≤ _)⟩)
          dsimp only [Pt.U, Pt.locs, Pt.cells, Pt.slots] at X176 l176 y176 z176 st176 hQ176 hSc176 hgr176
          subst l176 y176 z176
          have hS177 : s.Since s.vm 0 := State.WarmedH.since (State.WarmedH.refl s) 0
          obtain ⟨X176, hS176, hZ, hown⟩ := rebS hS177 (Nat.zero_le _) X176 hSc176 hgr176 hZ hown
          obtain ⟨rfl, Nq176, Kq176⟩ := hQ176
          have N176 := Fr.app N151 Nq176
          have O178 := O152.keep Kq176 (allS g_d149 all0)
          have K178 : Keep h0 T176.heap [] := K152.trans Kq176 (allS (Or.inr sz_d149) all0)
          refine own_on (B := T176.setTop (mkF m 117 #[iv p0, iv p1, iv p2, iv 2, iv r1, iv r2, iv 0, iv 2, iv r3, iv r4, rv d149, rv d151, un, un, un] [.null])) (fun tz kz => st176.trans kz) ?_
          refine own_on (B := T176.setTop (mkF m 244 #[iv p0, iv p1, iv p2, iv 2, iv r1, iv r2, iv 0, iv 2, iv r3, iv r4, rv d149, rv d151, .val .null, iv 0, .val .null] [(.int 1)])) (fun tz kz => ?_) ?_
          · show sT p e below T176 (mkF m 117 #[iv p0, iv p1, iv p2, iv 2, iv r1, iv r2, iv 0, iv 2, iv r3, iv r4, rv d149, rv d151, un, un, un] [.null]) tz
            refine XS.astore X176.here hx rfl (hb hby at_117) rfl rfl (l' := #[iv p0, iv p1, iv p2, iv 2, iv r1, iv r2, iv 0, iv 2, iv r3, iv r4, rv d149, rv d151, .val .null, un, un]) rfl ?_
            show sT p e below T176 (mkF m 119 #[iv p0, iv p1, iv p2, iv 2, iv r1, iv r2, iv 0, iv 2, iv r3, iv r4, rv d149, rv d151, .val .null, un, un] []) tz
            refine XS.iloadN X176.here hx rfl (hb hby at_119) rfl ?_
            show sT p e below T176 (mkF m 120 #[iv p0, iv p1, iv p2, iv 2, iv r1, iv r2, iv 0, iv 2, iv r3, iv r4, rv d149, rv d151, .val .null, un, un] [(.int 2)]) tz
            refine XS.iload X176.here hx rfl (hb hby at_120) rfl ?_
            show sT p e below T176 (mkF m 122 #[iv p0, iv p1, iv p2, iv 2, iv r1, iv r2, iv 0, iv 2, iv r3, iv r4, rv d149, rv d151, .val .null, un, un] [(.int 2), (.int 2)]) tz
            refine XS.icmpNo X176.here hx rfl (hb hby at_122) rfl (teq rfl).2 ?_
            show sT p e below T176 (mkF m 125 #[iv p0, iv p1, iv p2, iv 2, iv r1, iv r2, iv 0, iv 2, iv r3, iv r4, rv d149, rv d151, .val .null, un, un] []) tz
            refine XS.iloadN X176.here hx rfl (hb hby at_125) rfl ?_
            show sT p e below T176 (mkF m 126 #[iv p0, iv p1, iv p2, iv 2, iv r1, iv r2, iv 0, iv 2, iv r3, iv r4, rv d149, rv d151, .val .null, un, un] [(.int 2)]) tz
            refine XS.iconst X176.here hx rfl (hb hby at_126) ?_
            show sT p e below T176 (mkF m 127 #[iv p0, iv p1, iv p2, iv 2, iv r1, iv r2, iv 0, iv 2, iv r3, iv r4, rv d149, rv d151, .val .null, un, un] [(.int 1), (.int 2)]) tz
            refine XS.icmpNo X176.here hx rfl (hb hby at_127) rfl (flt (by decide : ¬ ((2 : Int32) < (1 : Int32)))).1 ?_
            show sT p e below T176 (mkF m 130 #[iv p0, iv p1, iv p2, iv 2, iv r1, iv r2, iv 0, iv 2, iv r3, iv r4, rv d149, rv d151, .val .null, un, un] []) tz
            refine XS.iload X176.here hx rfl (hb hby at_130) rfl ?_
            show sT p e below T176 (mkF m 132 #[iv p0, iv p1, iv p2, iv 2, iv r1, iv r2, iv 0, iv 2, iv r3, iv r4, rv d149, rv d151, .val .null, un, un] [(.int r1)]) tz
            refine XS.iload X176.here hx rfl (hb hby at_132) rfl ?_
            show sT p e below T176 (mkF m 134 #[iv p0, iv p1, iv p2, iv 2, iv r1, iv r2, iv 0, iv 2, iv r3, iv r4, rv d149, rv d151, .val .null, un, un] [(.int r3), (.int r1)]) tz
            refine XS.icmpYes X176.here hx rfl (pc0 := 134) (pc' := 153) rfl (hb hby at_134) rfl (feq e0_).2 (by decide) (by decide) ?_
            show sT p e below T176 (mkF m 153 #[iv p0, iv p1, iv p2, iv 2, iv r1, iv r2, iv 0, iv 2, iv r3, iv r4, rv d149, rv d151, .val .null, un, un] []) tz
            refine XS.iconst X176.here hx rfl (hb hby at_153) ?_
            show sT p e below T176 (mkF m 154 #[iv p0, iv p1, iv p2, iv 2, iv r1, iv r2, iv 0, iv 2, iv r3, iv r4, rv d149, rv d151, .val .null, un, un] [(.int 0)]) tz
            refine XS.istore X176.here hx rfl (hb hby at_154) rfl (l' := #[iv p0, iv p1, iv p2, iv 2, iv r1, iv r2, iv 0, iv 2, iv r3, iv r4, rv d149, rv d151, .val .null, iv 0, un]) rfl ?_
            show sT p e below T176 (mkF m 156 #[iv p0, iv p1, iv p2, iv 2, iv r1, iv r2, iv 0, iv 2, iv r3, iv r4, rv d149, rv d151, .val .null, iv 0, un] []) tz
            refine XS.iload X176.here hx rfl (hb hby at_156) rfl ?_
            show sT p e below T176 (mkF m 158 #[iv p0, iv p1, iv p2, iv 2, iv r1, iv r2, iv 0, iv 2, iv r3, iv r4, rv d149, rv d151, .val .null, iv 0, un] [(.int 0)]) tz
            refine XS.ifYes X176.here hx rfl (pc0 := 158) (pc' := 169) rfl (hb hby at_158) rfl ((if0 _ _).trans (teq rfl).1) (by decide) (by decide) ?_
            show sT p e below T176 (mkF m 169 #[iv p0, iv p1, iv p2, iv 2, iv r1, iv r2, iv 0, iv 2, iv r3, iv r4, rv d149, rv d151, .val .null, iv 0, un] []) tz
            refine XS.iloadN X176.here hx rfl (hb hby at_169) rfl ?_
            show sT p e below T176 (mkF m 170 #[iv p0, iv p1, iv p2, iv 2, iv r1, iv r2, iv 0, iv 2, iv r3, iv r4, rv d149, rv d151, .val .null, iv 0, un] [(.int 2)]) tz
            refine XS.iconst X176.here hx rfl (hb hby at_170) ?_
            show sT p e below T176 (mkF m 171 #[iv p0, iv p1, iv p2, iv 2, iv r1, iv r2, iv 0, iv 2, iv r3, iv r4, rv d149, rv d151, .val .null, iv 0, un] [(.int 1), (.int 2)]) tz
            refine XS.icmpYes X176.here hx rfl (pc0 := 171) (pc' := 189) rfl (hb hby at_171) rfl (feq (by decide : ¬ ((2 : Int32) = (1 : Int32)))).2 (by decide) (by decide) ?_
            show sT p e below T176 (mkF m 189 #[iv p0, iv p1, iv p2, iv 2, iv r1, iv r2, iv 0, iv 2, iv r3, iv r4, rv d149, rv d151, .val .null, iv 0, un] []) tz
            refine XS.iloadN X176.here hx rfl (hb hby at_189) rfl ?_
            show sT p e below T176 (mkF m 190 #[iv p0, iv p1, iv p2, iv 2, iv r1, iv r2, iv 0, iv 2, iv r3, iv r4, rv d149, rv d151, .val .null, iv 0, un] [(.int 2)]) tz
            refine XS.iconst X176.here hx rfl (hb hby at_190) ?_
            show sT p e below T176 (mkF m 191 #[iv p0, iv p1, iv p2, iv 2, iv r1, iv r2, iv 0, iv 2, iv r3, iv r4, rv d149, rv d151, .val .null, iv 0, un] [(.int 1), (.int 2)]) tz
            refine XS.icmpYes X176.here hx rfl (pc0 := 191) (pc' := 209) rfl (hb hby at_191) rfl (feq (by decide : ¬ ((2 : Int32) = (1 : Int32)))).2 (by decide) (by decide) ?_
            show sT p e below T176 (mkF m 209 #[iv p0, iv p1, iv p2, iv 2, iv r1, iv r2, iv 0, iv 2, iv r3, iv r4, rv d149, rv d151, .val .null, iv 0, un] []) tz
            refine XS.iloadN X176.here hx rfl (hb hby at_209) rfl ?_
            show sT p e below T176 (mkF m 210 #[iv p0, iv p1, iv p2, iv 2, iv r1, iv r2, iv 0, iv 2, iv r3, iv r4, rv d149, rv d151, .val .null, iv 0, un] [(.int 2)]) tz
            refine XS.iconst X176.here hx rfl (hb hby at_210) ?_
            show sT p e below T176 (mkF m 211 #[iv p0, iv p1, iv p2, iv 2, iv r1, iv r2, iv 0, iv 2, iv r3, iv r4, rv d149, rv d151, .val .null, iv 0, un] [(.int 1), (.int 2)]) tz
            refine XS.icmpYes X176.here hx rfl (pc0 := 211) (pc' := 229) rfl (hb hby at_211) rfl (feq (by decide : ¬ ((2 : Int32) = (1 : Int32)))).2 (by decide) (by decide) ?_
            show sT p e below T176 (mkF m 229 #[iv p0, iv p1, iv p2, iv 2, iv r1, iv r2, iv 0, iv 2, iv r3, iv r4, rv d149, rv d151, .val .null, iv 0, un] []) tz
            refine XS.aconstNull X176.here hx rfl (hb hby at_229) ?_
            show sT p e below T176 (mkF m 230 #[iv p0, iv p1, iv p2, iv 2, iv r1, iv r2, iv 0, iv 2, iv r3, iv r4, rv d149, rv d151, .val .null, iv 0, un] [.null]) tz
            refine XS.astore X176.here hx rfl (hb hby at_230) rfl rfl (l' := #[iv p0, iv p1, iv p2, iv 2, iv r1, iv r2, iv 0, iv 2, iv r3, iv r4, rv d149, rv d151, .val .null, iv 0, .val .null]) rfl ?_
            show sT p e below T176 (mkF m 232 #[iv p0, iv p1, iv p2, iv 2, iv r1, iv r2, iv 0, iv 2, iv r3, iv r4, rv d149, rv d151, .val .null, iv 0, .val .null] []) tz
            refine XS.aload X176.here hx rfl (hb hby at_232) rfl rfl ?_
            show sT p e below T176 (mkF m 234 #[iv p0, iv p1, iv p2, iv 2, iv r1, iv r2, iv 0, iv 2, iv r3, iv r4, rv d149, rv d151, .val .null, iv 0, .val .null] [.null]) tz
            refine XS.aload X176.here hx rfl (hb hby at_234) rfl rfl ?_
            show sT p e below T176 (mkF m 236 #[iv p0, iv p1, iv p2, iv 2, iv r1, iv r2, iv 0, iv 2, iv r3, iv r4, rv d149, rv d151, .val .null, iv 0, .val .null] [.null, .null]) tz
            refine Jvm.RoadKit.acmp (g := (mkF m 236 #[iv p0, iv p1, iv p2, iv 2, iv r1, iv r2, iv 0, iv 2, iv r3, iv r4, rv d149, rv d151, .val .null, iv 0, .val .null] [.null, .null])) X176 hx rfl rfl rfl (pc0 := 236) (pc' := 239) (same := true) rfl (hb hby at_236) rfl (decide_eq_true rfl) (by decide) (by decide) ?_
            show sT p e below T176 (mkF m 239 #[iv p0, iv p1, iv p2, iv 2, iv r1, iv r2, iv 0, iv 2, iv r3, iv r4, rv d149, rv d151, .val .null, iv 0, .val .null] []) tz
            refine XS.iconst X176.here hx rfl (hb hby at_239) ?_
            show sT p e below T176 (mkF m 240 #[iv p0, iv p1, iv p2, iv 2, iv r1, iv r2, iv 0, iv 2, iv r3, iv r4, rv d149, rv d151, .val .null, iv 0, .val .null] [(.int 1)]) tz
            refine XS.goto X176.here hx rfl (pc0 := 240) (pc' := 244) rfl (hb hby at_240) (by decide) (by decide) ?_
            exact kz
          obtain ⟨fs, hr, hrun, hended, hRW⟩ := Jvm.Stand.leaveW X176 hS176 ((Nat.le_refl T176.heap.size)) (v := some (.int (1 : Int32))) (fun h => by rw [Bd.returns] at h; cases h)
          refine own_of ⟨_, _, ?_, hrun, hended, _, _, rfl, ?_, hRW.1, hRW.2.1, hRW.2.2.1, hRW.2.2.2.mono (by decide) (by decide)⟩
          · show sT p e below T176 (mkF m 244 #[iv p0, iv p1, iv p2, iv 2, iv r1, iv r2, iv 0, iv 2, iv r3, iv r4, rv d149, rv d151, .val .null, iv 0, .val .null] [(.int 1)]) _
            exact own_retN X176 hx (t := .boolean) Bd.returns (by simp) (by first | rfl | (split <;> first | rfl | (split <;> first | rfl | (split <;> rfl)))) (hb hby at_244) hr
          · show Q0 Z p0 p1 p2 w0 w1 w2 w3 cS h0 n0 _ T176.heap _
            exact ⟨rfl, N176⟩
  · refine own_on (B := T2.setTop (mkF m 89 #[iv p0, iv p1, iv p2, iv tl, iv r1, iv r2, iv 1, iv tl, iv r1, iv r2, un, un, un, un, un] [])) (fun tz kz => ?_) ?_
    · show sT p e below T2 (mkF m 26 #[iv p0, iv p1, iv p2, iv tl, iv r1, iv r2, un, un, un, un, un, un, un, un, un] [(.int (p2 &&& (1 : Int32)))]) tz
      refine XS.ifNo X2.here hx rfl (hb hby at_26) rfl ((if0 _ _).trans (feq hsm).1) ?_
      show sT p e below T2 (mkF m 29 #[iv p0, iv p1, iv p2, iv tl, iv r1, iv r2, un, un, un, un, un, un, un, un, un] []) tz
      refine XS.iconst X2.here hx rfl (hb hby at_29) ?_
      show sT p e below T2 (mkF m 30 #[iv p0, iv p1, iv p2, iv tl, iv r1, iv r2, un, un, un, un, un, un, un, un, un] [(.int 1)]) tz
      refine XS.goto X2.here hx rfl (pc0 := 30) (pc' := 34) rfl (hb hby at_30) (by decide) (by decide) ?_
      show sT p e below T2 (mkF m 34 #[iv p0, iv p1, iv p2, iv tl, iv r1, iv r2, un, un, un, un, un, un, un, un, un] [(.int 1)]) tz
      refine XS.istore X2.here hx rfl (hb hby at_34) rfl (l' := #[iv p0, iv p1, iv p2, iv tl, iv r1, iv r2, iv 1, un, un, un, un, un, un, un, un]) rfl ?_
      show sT p e below T2 (mkF m 36 #[iv p0, iv p1, iv p2, iv tl, iv r1, iv r2, iv 1, un, un, un, un, un, un, un, un] []) tz
      refine XS.iload X2.here hx rfl (hb hby at_36) rfl ?_
      show sT p e below T2 (mkF m 38 #[iv p0, iv p1, iv p2, iv tl, iv r1, iv r2, iv 1, un, un, un, un, un, un, un, un] [(.int 1)]) tz
      refine XS.ifNo X2.here hx rfl (hb hby at_38) rfl ((if0 _ _).trans (feq (by decide : ¬ ((1 : Int32) = (0 : Int32)))).1) ?_
      show sT p e below T2 (mkF m 41 #[iv p0, iv p1, iv p2, iv tl, iv r1, iv r2, iv 1, un, un, un, un, un, un, un, un] []) tz
      refine XS.iloadN X2.here hx rfl (hb hby at_41) rfl ?_
      show sT p e below T2 (mkF m 42 #[iv p0, iv p1, iv p2, iv tl, iv r1, iv r2, iv 1, un, un, un, un, un, un, un, un] [(.int tl)]) tz
      refine XS.goto X2.here hx rfl (pc0 := 42) (pc' := 50) rfl (hb hby at_42) (by decide) (by decide) ?_
      show sT p e below T2 (mkF m 50 #[iv p0, iv p1, iv p2, iv tl, iv r1, iv r2, iv 1, un, un, un, un, un, un, un, un] [(.int tl)]) tz
      refine XS.istore X2.here hx rfl (hb hby at_50) rfl (l' := #[iv p0, iv p1, iv p2, iv tl, iv r1, iv r2, iv 1, iv tl, un, un, un, un, un, un, un]) rfl ?_
      show sT p e below T2 (mkF m 52 #[iv p0, iv p1, iv p2, iv tl, iv r1, iv r2, iv 1, iv tl, un, un, un, un, un, un, un] []) tz
      refine XS.iload X2.here hx rfl (hb hby at_52) rfl ?_
      show sT p e below T2 (mkF m 54 #[iv p0, iv p1, iv p2, iv tl, iv r1, iv r2, iv 1, iv tl, un, un, un, un, un, un, un] [(.int 1)]) tz
      refine XS.ifNo X2.here hx rfl (hb hby at_54) rfl ((if0 _ _).trans (feq (by decide : ¬ ((1 : Int32) = (0 : Int32)))).1) ?_
      show sT p e below T2 (mkF m 57 #[iv p0, iv p1, iv p2, iv tl, iv r1, iv r2, iv 1, iv tl, un, un, un, un, un, un, un] []) tz
      refine XS.iload X2.here hx rfl (hb hby at_57) rfl ?_
      show sT p e below T2 (mkF m 59 #[iv p0, iv p1, iv p2, iv tl, iv r1, iv r2, iv 1, iv tl, un, un, un, un, un, un, un] [(.int r1)]) tz
      refine XS.goto X2.here hx rfl (pc0 := 59) (pc' := 68) rfl (hb hby at_59) (by decide) (by decide) ?_
      show sT p e below T2 (mkF m 68 #[iv p0, iv p1, iv p2, iv tl, iv r1, iv r2, iv 1, iv tl, un, un, un, un, un, un, un] [(.int r1)]) tz
      refine XS.istore X2.here hx rfl (hb hby at_68) rfl (l' := #[iv p0, iv p1, iv p2, iv tl, iv r1, iv r2, iv 1, iv tl, iv r1, un, un, un, un, un, un]) rfl ?_
      show sT p e below T2 (mkF m 70 #[iv p0, iv p1, iv p2, iv tl, iv r1, iv r2, iv 1, iv tl, iv r1, un, un, un, un, un, un] []) tz
      refine XS.iload X2.here hx rfl (hb hby at_70) rfl ?_
      show sT p e below T2 (mkF m 72 #[iv p0, iv p1, iv p2, iv tl, iv r1, iv r2, iv 1, iv tl, iv r1, un, un, un, un, un, un] [(.int 1)]) tz
      refine XS.ifNo X2.here hx rfl (hb hby at_72) rfl ((if0 _ _).trans (feq (by decide : ¬ ((1 : Int32) = (0 : Int32)))).1) ?_
      show sT p e below T2 (mkF m 75 #[iv p0, iv p1, iv p2, iv tl, iv r1, iv r2, iv 1, iv tl, iv r1, un, un, un, un, un, un] []) tz
      refine XS.iload X2.here hx rfl (hb hby at_75) rfl ?_
      show sT p e below T2 (mkF m 77 #[iv p0, iv p1, iv p2, iv tl, iv r1, iv r2, iv 1, iv tl, iv r1, un, un, un, un, un, un] [(.int r2)]) tz
      refine XS.goto X2.here hx rfl (pc0 := 77) (pc' := 87) rfl (hb hby at_77) (by decide) (by decide) ?_
      show sT p e below T2 (mkF m 87 #[iv p0, iv p1, iv p2, iv tl, iv r1, iv r2, iv 1, iv tl, iv r1, un, un, un, un, un, un] [(.int r2)]) tz
      refine XS.istore X2.here hx rfl (hb hby at_87) rfl (l' := #[iv p0, iv p1, iv p2, iv tl, iv r1, iv r2, iv 1, iv tl, iv r1, iv r2, un, un, un, un, un]) rfl ?_
      exact kz
    rcases htl with rfl | rfl | rfl
    · refine own_on (B := T2.setTop (mkF m 94 #[iv p0, iv p1, iv p2, iv 0, iv r1, iv r2, iv 1, iv 0, iv r1, iv r2, un, un, un, un, un] [(.int r2), (.int r1), (.int 0)])) (fun tz kz => ?_) ?_
      · show sT p e below T2 (mkF m 89 #[iv p0, iv p1, iv p2, iv 0, iv r1, iv r2, iv 1, iv 0, iv r1, iv r2, un, un, un, un, un] []) tz
        refine XS.iloadN X2.here hx rfl (hb hby at_89) rfl ?_
        show sT p e below T2 (mkF m 90 #[iv p0, iv p1, iv p2, iv 0, iv r1, iv r2, iv 1, iv 0, iv r1, iv r2, un, un, un, un, un] [(.int 0)]) tz
        refine XS.iload X2.here hx rfl (hb hby at_90) rfl ?_
        show sT p e below T2 (mkF m 92 #[iv p0, iv p1, iv p2, iv 0, iv r1, iv r2, iv 1, iv 0, iv r1, iv r2, un, un, un, un, un] [(.int r1), (.int 0)]) tz
        refine XS.iload X2.here hx rfl (hb hby at_92) rfl ?_
        exact kz
      obtain ⟨_, _, ⟨T179, L179, k179, n179⟩, -, X179, hSc179, hgr179, ⟨Lc179, hQ179, l179, y179, z179⟩, st179⟩ := callSS X2 hx (y := (⟨"com/example/stackwright/stackwright/FairValueLevelReadPinLaw", "make", "(ICC)Ljava/lang/String;"⟩ : MethodName)) hown (mvT hZ (own_w hw 4 rfl)) (mvT hZ (own_w hw 5 rfl)) (mvT hZ (own_w hw 2 rfl)) (mvT hZ (own_w hw 6 rfl)) (by decide) (own_backJ (hJ := OwnJ.warm (s := s) hJ) (W := 0) (rm2z l Z a0 hw [] r1 r2  h0 n0 O0 hheld hcw) hZ (own_w hw 6 rfl) (own_w hw 2 rfl) (by decide) (by decide)) (g := (mkF m 94 #[iv p0, iv p1, iv p2, iv 0, iv r1, iv r2, iv 1, iv 0, iv r1, iv r2, un, un, un, un, un] [(.int r2), (.int r1), (.int 0)])) rfl (by rw [hml]; rfl) (argsL := [(.int (0 : Int32)), (.int r1), (.int r2)]) (rest := []) (lenOf own_pd13 rfl) rfl (by show 2 * 0 + _ ≤ _; exact Nat.le_of_eq rfl) (hb hby at_94) (fun _ _ => ⟨rfl, eq2, (by decide : 0 + 4 ≤ _), (by decide : 0 + 8 ≤ _)⟩)
      dsimp only [Pt.U, Pt.locs, Pt.cells, Pt.slots] at X179 l179 y179 z179 st179 hQ179 hSc179 hgr179
      subst l179 y179 z179
      have hS180 : s.Since s.vm 0 := State.WarmedH.since (State.WarmedH.refl s) 0
      obtain ⟨X179, hS179, hZ, hown⟩ := rebS hS180 (by rw [eq2]; exact (Nat.zero_le _)) X179 hSc179 hgr179 hZ hown
      obtain ⟨d179, la179, lb179, lk179, rfl, Nq179, Kq179, zq179, Eq179, Fv179, Fc179, Fh179, Fz179, La179, Lc179, Lv179, Lb179, Jq179⟩ := hQ179
      have N179 := Fr.app N2 Nq179
      have g_d179 : n0 ≤ d179 := Nat.le_trans (own_old O0) zq179
      have sz_d179 : h0.size ≤ d179 := Nat.le_trans (Keep.refl h0 []).1 zq179
      have O181 := O0.keep Kq179 all0
      have K181 : Keep h0 T179.heap [] := (Keep.refl h0 []).trans Kq179 all0
      refine own_on (B := T179.setTop (mkF m 97 #[iv p0, iv p1, iv p2, iv 0, iv r1, iv r2, iv 1, iv 0, iv r1, iv r2, un, un, un, un, un] [(.ref d179)])) (fun tz kz => st179.trans kz) ?_
      refine own_on (B := T179.setTop (mkF m 105 #[iv p0, iv p1, iv p2, iv 0, iv r1, iv r2, iv 1, iv 0, iv r1, iv r2, rv d179, un, un, un, un] [(.int r2), (.int r1), (.int 0)])) (fun tz kz => ?_) ?_
      · show sT p e below T179 (mkF m 97 #[iv p0, iv p1, iv p2, iv 0, iv r1, iv r2, iv 1, iv 0, iv r1, iv r2, un, un, un, un, un] [(.ref d179)]) tz
        refine XS.astore X179.here hx rfl (hb hby at_97) rfl rfl (l' := #[iv p0, iv p1, iv p2, iv 0, iv r1, iv r2, iv 1, iv 0, iv r1, iv r2, rv d179, un, un, un, un]) rfl ?_
        show sT p e below T179 (mkF m 99 #[iv p0, iv p1, iv p2, iv 0, iv r1, iv r2, iv 1, iv 0, iv r1, iv r2, rv d179, un, un, un, un] []) tz
        refine XS.iload X179.here hx rfl (hb hby at_99) rfl ?_
        show sT p e below T179 (mkF m 101 #[iv p0, iv p1, iv p2, iv 0, iv r1, iv r2, iv 1, iv 0, iv r1, iv r2, rv d179, un, un, un, un] [(.int 0)]) tz
        refine XS.iload X179.here hx rfl (hb hby at_101) rfl ?_
        show sT p e below T179 (mkF m 103 #[iv p0, iv p1, iv p2, iv 0, iv r1, iv r2, iv 1, iv 0, iv r1, iv r2, rv d179, un, un, un, un] [(.int r1), (.int 0)]) tz
        refine XS.iload X179.here hx rfl (hb hby at_103) rfl ?_
        exact kz
      obtain ⟨_, _, ⟨T182, L182, k182, n182⟩, -, X182, hSc182, hgr182, ⟨Lc182, hQ182, l182, y182, z182⟩, st182⟩ := callSS X179 hx (y := (⟨"com/example/stackwright/stackwright/FairValueLevelReadPinLaw", "make", "(ICC)Ljava/lang/String;"⟩ : MethodName)) hown (mvT hZ (own_w hw 4 rfl)) (mvT hZ (own_w hw 5 rfl)) (mvT hZ (own_w hw 2 rfl)) (mvT hZ (own_w hw 6 rfl)) (by decide) (own_backK (hJ := OwnJ.warm (s := (s.setVm T179.vm)) Jq179) (W := 0) (rm2y l Z a0 hw [] r1 r2 la179 lb179 lk179 T179.heap n0 O181 La179 Lc179 Lv179 Lb179) hZ (own_w hw 6 rfl) (own_w hw 2 rfl) (by decide) (by decide)) (g := (mkF m 105 #[iv p0, iv p1, iv p2, iv 0, iv r1, iv r2, iv 1, iv 0, iv r1, iv r2, rv d179, un, un, un, un] [(.int r2), (.int r1), (.int 0)])) rfl (by rw [hml]; rfl) (argsL := [(.int (0 : Int32)), (.int r1), (.int r2)]) (rest := []) (lenOf own_pd13 rfl) rfl (by show 2 * 0 + _ ≤ _; exact Nat.le_of_eq rfl) (hb hby at_105) (fun _ _ => ⟨rfl, rfl, (by decide : 4 + 4 ≤ _), (by decide : 8 + 8 ≤ _)⟩)
      dsimp only [Pt.U, Pt.locs, Pt.cells, Pt.slots] at X182 l182 y182 z182 st182 hQ182 hSc182 hgr182
      subst l182 y182 z182
      obtain ⟨X182, hS182, hZ, hown⟩ := rebS hS179 (Nat.le_refl T179.heap.size) X182 hSc182 hgr182 hZ hown
      obtain ⟨d182, rfl, Nq182, Kq182, zq182, Eq182, Fv182, Fc182, Fh182, Fz182⟩ := hQ182
      have N182 := Fr.app N179 Nq182
      have ne_la179_d182 : la179 ≠ d182 := Nat.ne_of_lt (Nat.lt_of_lt_of_le (La179).lt zq182)
      have ne_lb179_d182 : lb179 ≠ d182 := Nat.ne_of_lt (Nat.lt_of_lt_of_le (Lb179).lt zq182)
      have ne_d179_d182 : d179 ≠ d182 := Nat.ne_of_lt (Nat.lt_of_lt_of_le (Eq179).lt zq182)
      have g_d182 : n0 ≤ d182 := Nat.le_trans (own_old O181) zq182
      have sz_d182 : h0.size ≤ d182 := Nat.le_trans K181.1 zq182
      have O183 := O181.keep Kq182 all0
      have K183 : Keep h0 T182.heap [] := K181.trans Kq182 all0
      refine own_on (B := T182.setTop (mkF m 108 #[iv p0, iv p1, iv p2, iv 0, iv r1, iv r2, iv 1, iv 0, iv r1, iv r2, rv d179, un, un, un, un] [(.ref d182)])) (fun tz kz => st182.trans kz) ?_
      have f_184 := (Lb179.keep Kq182 nin0)
      have f_185 := (Eq179.keep Kq182)
      have f_186 := (Fv179.keep Kq182 nin0)
      have f_187 := (Fc179.keep Kq182 nin0)
      refine own_on (B := T182.setTop (mkF m 114 #[iv p0, iv p1, iv p2, iv 0, iv r1, iv r2, iv 1, iv 0, iv r1, iv r2, rv d179, rv d182, un, un, un] [(.ref d182), (.ref d179)])) (fun tz kz => ?_) ?_
      · show sT p e below T182 (mkF m 108 #[iv p0, iv p1, iv p2, iv 0, iv r1, iv r2, iv 1, iv 0, iv r1, iv r2, rv d179, un, un, un, un] [(.ref d182)]) tz
        refine XS.astore X182.here hx rfl (hb hby at_108) rfl rfl (l' := #[iv p0, iv p1, iv p2, iv 0, iv r1, iv r2, iv 1, iv 0, iv r1, iv r2, rv d179, rv d182, un, un, un]) rfl ?_
        show sT p e below T182 (mkF m 110 #[iv p0, iv p1, iv p2, iv 0, iv r1, iv r2, iv 1, iv 0, iv r1, iv r2, rv d179, rv d182, un, un, un] []) tz
        refine XS.aload X182.here hx rfl (hb hby at_110) rfl rfl ?_
        show sT p e below T182 (mkF m 112 #[iv p0, iv p1, iv p2, iv 0, iv r1, iv r2, iv 1, iv 0, iv r1, iv r2, rv d179, rv d182, un, un, un] [(.ref d179)]) tz
        refine XS.aload X182.here hx rfl (hb hby at_112) rfl rfl ?_
        exact kz
      obtain ⟨_, _, ⟨T188, L188, k188, n188⟩, -, X188, ⟨Lc188, hQ188, l188, y188, z188⟩, st188⟩ := Jvm.LawKit.callS X182 hx (y := (⟨"com/example/stackwright/stackwright/Holdings$FairValueLevel", "read", "(Ljava/lang/String;Ljava/lang/String;)Lcom/example/stackwright/stackwright/Holdings$FairValueLevel;"⟩ : MethodName)) hown (mvT hZ (own_w hw 29 rfl)) (mvT hZ (own_w hw 30 rfl)) (mvT hZ (own_w hw 31 rfl)) (mvT hZ (own_w hw 32 rfl)) (by decide) (backOf (W := 0) (rm6e l Z a0 hw [] d179 d182 w0 w1 w2 w3 T182.heap n0 O183 S_NONE S_LEVEL_1 S_LEVEL_2 S_LEVEL_3 f_185 (rm7z l Z a0 hw [] d179 d182 cS lb179 lb179 lk179 lk179  T182.heap n0 O183 S_cs hcS f_185 f_186 f_187 Eq182 Fv182 Fc182 f_184 f_184 )) hZ (own_w hw 32 rfl) (own_w hw 31 rfl) (by decide) (by decide)) (g := (mkF m 114 #[iv p0, iv p1, iv p2, iv 0, iv r1, iv r2, iv 1, iv 0, iv r1, iv r2, rv d179, rv d182, un, un, un] [(.ref d182), (.ref d179)])) rfl (by rw [hml]; rfl) (argsL := [(.ref d179), (.ref d182)]) (rest := []) (lenOf own_pd14 rfl) rfl (by show 2 * 0 + _ ≤ _; exact Nat.le_of_eq rfl) (hb hby at_114) (fun _ _ => ⟨rfl, rfl, (by decide : 8 + 2 ≤ _), (by decide : 16 + 8 ≤ _)⟩)
      dsimp only [Pt.U, Pt.locs, Pt.cells, Pt.slots] at X188 l188 y188 z188 st188 hQ188
      subst l188 y188 z188
      obtain ⟨rfl, Nq188, e188⟩ := hQ188
      have N188 := Fr.app N182 Nq188
      refine own_on (B := T188.setTop (mkF m 117 #[iv p0, iv p1, iv p2, iv 0, iv r1, iv r2, iv 1, iv 0, iv r1, iv r2, rv d179, rv d182, un, un, un] [(.ref w0)])) (fun tz kz => st188 _ kz) ?_
      refine own_on (B := T188.setTop (mkF m 161 #[iv p0, iv p1, iv p2, iv 0, iv r1, iv r2, iv 1, iv 0, iv r1, iv r2, rv d179, rv d182, rv w0, iv 1, un] [])) (fun tz kz => ?_) ?_
      · show sT p e below T188 (mkF m 117 #[iv p0, iv p1, iv p2, iv 0, iv r1, iv r2, iv 1, iv 0, iv r1, iv r2, rv d179, rv d182, un, un, un] [(.ref w0)]) tz
        refine XS.astore X188.here hx rfl (hb hby at_117) rfl rfl (l' := #[iv p0, iv p1, iv p2, iv 0, iv r1, iv r2, iv 1, iv 0, iv r1, iv r2, rv d179, rv d182, rv w0, un, un]) rfl ?_
        show sT p e below T188 (mkF m 119 #[iv p0, iv p1, iv p2, iv 0, iv r1, iv r2, iv 1, iv 0, iv r1, iv r2, rv d179, rv d182, rv w0, un, un] []) tz
        refine XS.iloadN X188.here hx rfl (hb hby at_119) rfl ?_
        show sT p e below T188 (mkF m 120 #[iv p0, iv p1, iv p2, iv 0, iv r1, iv r2, iv 1, iv 0, iv r1, iv r2, rv d179, rv d182, rv w0, un, un] [(.int 0)]) tz
        refine XS.iload X188.here hx rfl (hb hby at_120) rfl ?_
        show sT p e below T188 (mkF m 122 #[iv p0, iv p1, iv p2, iv 0, iv r1, iv r2, iv 1, iv 0, iv r1, iv r2, rv d179, rv d182, rv w0, un, un] [(.int 0), (.int 0)]) tz
        refine XS.icmpNo X188.here hx rfl (hb hby at_122) rfl (teq rfl).2 ?_
        show sT p e below T188 (mkF m 125 #[iv p0, iv p1, iv p2, iv 0, iv r1, iv r2, iv 1, iv 0, iv r1, iv r2, rv d179, rv d182, rv w0, un, un] []) tz
        refine XS.iloadN X188.here hx rfl (hb hby at_125) rfl ?_
        show sT p e below T188 (mkF m 126 #[iv p0, iv p1, iv p2, iv 0, iv r1, iv r2, iv 1, iv 0, iv r1, iv r2, rv d179, rv d182, rv w0, un, un] [(.int 0)]) tz
        refine XS.iconst X188.here hx rfl (hb hby at_126) ?_
        show sT p e below T188 (mkF m 127 #[iv p0, iv p1, iv p2, iv 0, iv r1, iv r2, iv 1, iv 0, iv r1, iv r2, rv d179, rv d182, rv w0, un, un] [(.int 1), (.int 0)]) tz
        refine XS.icmpYes X188.here hx rfl (pc0 := 127) (pc' := 137) rfl (hb hby at_127) rfl (tlt (by decide : (0 : Int32) < (1 : Int32))).1 (by decide) (by decide) ?_
        show sT p e below T188 (mkF m 137 #[iv p0, iv p1, iv p2, iv 0, iv r1, iv r2, iv 1, iv 0, iv r1, iv r2, rv d179, rv d182, rv w0, un, un] []) tz
        refine XS.iloadN X188.here hx rfl (hb hby at_137) rfl ?_
        show sT p e below T188 (mkF m 138 #[iv p0, iv p1, iv p2, iv 0, iv r1, iv r2, iv 1, iv 0, iv r1, iv r2, rv d179, rv d182, rv w0, un, un] [(.int 0)]) tz
        refine XS.iconst X188.here hx rfl (hb hby at_138) ?_
        show sT p e below T188 (mkF m 139 #[iv p0, iv p1, iv p2, iv 0, iv r1, iv r2, iv 1, iv 0, iv r1, iv r2, rv d179, rv d182, rv w0, un, un] [(.int 2), (.int 0)]) tz
        refine XS.icmpYes X188.here hx rfl (pc0 := 139) (pc' := 149) rfl (hb hby at_139) rfl (tlt (by decide : (0 : Int32) < (2 : Int32))).1 (by decide) (by decide) ?_
        show sT p e below T188 (mkF m 149 #[iv p0, iv p1, iv p2, iv 0, iv r1, iv r2, iv 1, iv 0, iv r1, iv r2, rv d179, rv d182, rv w0, un, un] []) tz
        refine XS.iconst X188.here hx rfl (hb hby at_149) ?_
        show sT p e below T188 (mkF m 150 #[iv p0, iv p1, iv p2, iv 0, iv r1, iv r2, iv 1, iv 0, iv r1, iv r2, rv d179, rv d182, rv w0, un, un] [(.int 1)]) tz
        refine XS.goto X188.here hx rfl (pc0 := 150) (pc' := 154) rfl (hb hby at_150) (by decide) (by decide) ?_
        show sT p e below T188 (mkF m 154 #[iv p0, iv p1, iv p2, iv 0, iv r1, iv r2, iv 1, iv 0, iv r1, iv r2, rv d179, rv d182, rv w0, un, un] [(.int 1)]) tz
        refine XS.istore X188.here hx rfl (hb hby at_154) rfl (l' := #[iv p0, iv p1, iv p2, iv 0, iv r1, iv r2, iv 1, iv 0, iv r1, iv r2, rv d179, rv d182, rv w0, iv 1, un]) rfl ?_
        show sT p e below T188 (mkF m 156 #[iv p0, iv p1, iv p2, iv 0, iv r1, iv r2, iv 1, iv 0, iv r1, iv r2, rv d179, rv d182, rv w0, iv 1, un] []) tz
        refine XS.iload X188.here hx rfl (hb hby at_156) rfl ?_
        show sT p e below T188 (mkF m 158 #[iv p0, iv p1, iv p2, iv 0, iv r1, iv r2, iv 1, iv 0, iv r1, iv r2, rv d179, rv d182, rv w0, iv 1, un] [(.int 1)]) tz
        refine XS.ifNo X188.here hx rfl (hb hby at_158) rfl ((if0 _ _).trans (feq (by decide : ¬ ((1 : Int32) = (0 : Int32)))).1) ?_
        exact kz
      obtain ⟨T189, X189, e189, st189⟩ := getS2 X188 hx hZ hown (host := "") (Or.inl (own_w hw 46 rfl)) Via.refl e188 (S_NONE.ext O183.2) (g := (mkF m 161 #[iv p0, iv p1, iv p2, iv 0, iv r1, iv r2, iv 1, iv 0, iv r1, iv r2, rv d179, rv d182, rv w0, iv 1, un] [])) rfl (hb hby at_161)
      refine own_on (B := T189.setTop (mkF m 164 #[iv p0, iv p1, iv p2, iv 0, iv r1, iv r2, iv 1, iv 0, iv r1, iv r2, rv d179, rv d182, rv w0, iv 1, un] [(.ref w0)])) (fun tz kz => st189 _ kz) ?_
      refine own_on (B := T189.setTop (mkF m 244 #[iv p0, iv p1, iv p2, iv 0, iv r1, iv r2, iv 1, iv 0, iv r1, iv r2, rv d179, rv d182, rv w0, iv 1, rv w0] [(.int 1)])) (fun tz kz => ?_) ?_
      · show sT p e below T189 (mkF m 164 #[iv p0, iv p1, iv p2, iv 0, iv r1, iv r2, iv 1, iv 0, iv r1, iv r2, rv d179, rv d182, rv w0, iv 1, un] [(.ref w0)]) tz
        refine XS.astore X189.here hx rfl (hb hby at_164) rfl rfl (l' := #[iv p0, iv p1, iv p2, iv 0, iv r1, iv r2, iv 1, iv 0, iv r1, iv r2, rv d179, rv d182, rv w0, iv 1, rv w0]) rfl ?_
        show sT p e below T189 (mkF m 166 #[iv p0, iv p1, iv p2, iv 0, iv r1, iv r2, iv 1, iv 0, iv r1, iv r2, rv d179, rv d182, rv w0, iv 1, rv w0] []) tz
        refine XS.goto X189.here hx rfl (pc0 := 166) (pc' := 232) rfl (hb hby at_166) (by decide) (by decide) ?_
        show sT p e below T189 (mkF m 232 #[iv p0, iv p1, iv p2, iv 0, iv r1, iv r2, iv 1, iv 0, iv r1, iv r2, rv d179, rv d182, rv w0, iv 1, rv w0] []) tz
        refine XS.aload X189.here hx rfl (hb hby at_232) rfl rfl ?_
        show sT p e below T189 (mkF m 234 #[iv p0, iv p1, iv p2, iv 0, iv r1, iv r2, iv 1, iv 0, iv r1, iv r2, rv d179, rv d182, rv w0, iv 1, rv w0] [(.ref w0)]) tz
        refine XS.aload X189.here hx rfl (hb hby at_234) rfl rfl ?_
        show sT p e below T189 (mkF m 236 #[iv p0, iv p1, iv p2, iv 0, iv r1, iv r2, iv 1, iv 0, iv r1, iv r2, rv d179, rv d182, rv w0, iv 1, rv w0] [(.ref w0), (.ref w0)]) tz
        refine Jvm.RoadKit.acmp (g := (mkF m 236 #[iv p0, iv p1, iv p2, iv 0, iv r1, iv r2, iv 1, iv 0, iv r1, iv r2, rv d179, rv d182, rv w0, iv 1, rv w0] [(.ref w0), (.ref w0)])) X189 hx rfl rfl rfl (pc0 := 236) (pc' := 239) (same := true) rfl (hb hby at_236) rfl (decide_eq_true (congrArg Value.ref rfl)) (by decide) (by decide) ?_
        show sT p e below T189 (mkF m 239 #[iv p0, iv p1, iv p2, iv 0, iv r1, iv r2, iv 1, iv 0, iv r1, iv r2, rv d179, rv d182, rv w0, iv 1, rv w0] []) tz
        refine XS.iconst X189.here hx rfl (hb hby at_239) ?_
        show sT p e below T189 (mkF m 240 #[iv p0, iv p1, iv p2, iv 0, iv r1, iv r2, iv 1, iv 0, iv r1, iv r2, rv d179, rv d182, rv w0, iv 1, rv w0] [(.int 1)]) tz
        refine XS.goto X189.here hx rfl (pc0 := 240) (pc' := 244) rfl (hb hby at_240) (by decide) (by decide) ?_
        exact kz
      obtain ⟨fs, hr, hrun, hended, hRW⟩ := Jvm.Stand.leaveW X189 hS182 (by rw [e189]; exact (Nat.le_refl T182.heap.size)) (v := some (.int (1 : Int32))) (fun h => by rw [Bd.returns] at h; cases h)
      refine own_of ⟨_, _, ?_, hrun, hended, _, _, rfl, ?_, hRW.1, hRW.2.1, hRW.2.2.1, hRW.2.2.2.mono (by decide) (by decide)⟩
      · show sT p e below T189 (mkF m 244 #[iv p0, iv p1, iv p2, iv 0, iv r1, iv r2, iv 1, iv 0, iv r1, iv r2, rv d179, rv d182, rv w0, iv 1, rv w0] [(.int 1)]) _
        exact own_retN X189 hx (t := .boolean) Bd.returns (by simp) (by first | rfl | (split <;> first | rfl | (split <;> first | rfl | (split <;> rfl)))) (hb hby at_244) hr
      · show Q0 Z p0 p1 p2 w0 w1 w2 w3 cS h0 n0 _ T189.heap _
        rw [e189]
        exact ⟨rfl, N188⟩
    · refine own_on (B := T2.setTop (mkF m 94 #[iv p0, iv p1, iv p2, iv 1, iv r1, iv r2, iv 1, iv 1, iv r1, iv r2, un, un, un, un, un] [(.int r2), (.int r1), (.int 1)])) (fun tz kz => ?_) ?_
      · show sT p e below T2 (mkF m 89 #[iv p0, iv p1, iv p2, iv 1, iv r1, iv r2, iv 1, iv 1, iv r1, iv r2, un, un, un, un, un] []) tz
        refine XS.iloadN X2.here hx rfl (hb hby at_89) rfl ?_
        show sT p e below T2 (mkF m 90 #[iv p0, iv p1, iv p2, iv 1, iv r1, iv r2, iv 1, iv 1, iv r1, iv r2, un, un, un, un, un] [(.int 1)]) tz
        refine XS.iload X2.here hx rfl (hb hby at_90) rfl ?_
        show sT p e below T2 (mkF m 92 #[iv p0, iv p1, iv p2, iv 1, iv r1, iv r2, iv 1, iv 1, iv r1, iv r2, un, un, un, un, un] [(.int r1), (.int 1)]) tz
        refine XS.iload X2.here hx rfl (hb hby at_92) rfl ?_
        exact kz
      obtain ⟨_, _, ⟨T190, L190, k190, n190⟩, -, X190, ⟨Lc190, hQ190, l190, y190, z190⟩, st190⟩ := Jvm.LawKit.callS X2 hx (y := (⟨"com/example/stackwright/stackwright/FairValueLevelReadPinLaw", "make", "(ICC)Ljava/lang/String;"⟩ : MethodName)) hown (mvT hZ (own_w hw 4 rfl)) (mvT hZ (own_w hw 5 rfl)) (mvT hZ (own_w hw 2 rfl)) (mvT hZ (own_w hw 6 rfl)) (by decide) (backOf (W := 0) (rm2a l Z a0 hw [] r1 r2 cS h0 n0 O0 S_cs hcS lo1 hi1) hZ (own_w hw 6 rfl) (own_w hw 2 rfl) (by decide) (by decide)) (g := (mkF m 94 #[iv p0, iv p1, iv p2, iv 1, iv r1, iv r2, iv 1, iv 1, iv r1, iv r2, un, un, un, un, un] [(.int r2), (.int r1), (.int 1)])) rfl (by rw [hml]; rfl) (argsL := [(.int (1 : Int32)), (.int r1), (.int r2)]) (rest := []) (lenOf own_pd13 rfl) rfl (by show 2 * 0 + _ ≤ _; exact Nat.le_of_eq rfl) (hb hby at_94) (fun _ _ => ⟨rfl, eq2, (by decide : 0 + 4 ≤ _), (by decide : 0 + 8 ≤ _)⟩)
      dsimp only [Pt.U, Pt.locs, Pt.cells, Pt.slots] at X190 l190 y190 z190 st190 hQ190
      subst l190 y190 z190
      obtain ⟨d190, b190, kb190, rfl, Nq190, Kq190, zq190, Eq190, Fv190, Fc190, Fh190, Fz190, Eb190, Vb190⟩ := hQ190
      have N190 := Fr.app N2 Nq190
      have g_d190 : n0 ≤ d190 := Nat.le_trans (own_old O0) zq190
      have sz_d190 : h0.size ≤ d190 := Nat.le_trans (Keep.refl h0 []).1 zq190
      have O191 := O0.keep Kq190 all0
      have K191 : Keep h0 T190.heap [] := (Keep.refl h0 []).trans Kq190 all0
      refine own_on (B := T190.setTop (mkF m 97 #[iv p0, iv p1, iv p2, iv 1, iv r1, iv r2, iv 1, iv 1, iv r1, iv r2, un, un, un, un, un] [(.ref d190)])) (fun tz kz => st190 _ kz) ?_
      refine own_on (B := T190.setTop (mkF m 105 #[iv p0, iv p1, iv p2, iv 1, iv r1, iv r2, iv 1, iv 1, iv r1, iv r2, rv d190, un, un, un, un] [(.int r2), (.int r1), (.int 1)])) (fun tz kz => ?_) ?_
      · show sT p e below T190 (mkF m 97 #[iv p0, iv p1, iv p2, iv 1, iv r1, iv r2, iv 1, iv 1, iv r1, iv r2, un, un, un, un, un] [(.ref d190)]) tz
        refine XS.astore X190.here hx rfl (hb hby at_97) rfl rfl (l' := #[iv p0, iv p1, iv p2, iv 1, iv r1, iv r2, iv 1, iv 1, iv r1, iv r2, rv d190, un, un, un, un]) rfl ?_
        show sT p e below T190 (mkF m 99 #[iv p0, iv p1, iv p2, iv 1, iv r1, iv r2, iv 1, iv 1, iv r1, iv r2, rv d190, un, un, un, un] []) tz
        refine XS.iload X190.here hx rfl (hb hby at_99) rfl ?_
        show sT p e below T190 (mkF m 101 #[iv p0, iv p1, iv p2, iv 1, iv r1, iv r2, iv 1, iv 1, iv r1, iv r2, rv d190, un, un, un, un] [(.int 1)]) tz
        refine XS.iload X190.here hx rfl (hb hby at_101) rfl ?_
        show sT p e below T190 (mkF m 103 #[iv p0, iv p1, iv p2, iv 1, iv r1, iv r2, iv 1, iv 1, iv r1, iv r2, rv d190, un, un, un, un] [(.int r1), (.int 1)]) tz
        refine XS.iload X190.here hx rfl (hb hby at_103) rfl ?_
        exact kz
      obtain ⟨_, _, ⟨T192, L192, k192, n192⟩, -, X192, ⟨Lc192, hQ192, l192, y192, z192⟩, st192⟩ := Jvm.LawKit.callS X190 hx (y := (⟨"com/example/stackwright/stackwright/FairValueLevelReadPinLaw", "make", "(ICC)Ljava/lang/String;"⟩ : MethodName)) hown (mvT hZ (own_w hw 4 rfl)) (mvT hZ (own_w hw 5 rfl)) (mvT hZ (own_w hw 2 rfl)) (mvT hZ (own_w hw 6 rfl)) (by decide) (backOf (W := 0) (rm2a l Z a0 hw [] r1 r2 cS T190.heap n0 O191 S_cs hcS lo1 hi1) hZ (own_w hw 6 rfl) (own_w hw 2 rfl) (by decide) (by decide)) (g := (mkF m 105 #[iv p0, iv p1, iv p2, iv 1, iv r1, iv r2, iv 1, iv 1, iv r1, iv r2, rv d190, un, un, un, un] [(.int r2), (.int r1), (.int 1)])) rfl (by rw [hml]; rfl) (argsL := [(.int (1 : Int32)), (.int r1), (.int r2)]) (rest := []) (lenOf own_pd13 rfl) rfl (by show 2 * 0 + _ ≤ _; exact Nat.le_of_eq rfl) (hb hby at_105) (fun _ _ => ⟨rfl, rfl, (by decide : 4 + 4 ≤ _), (by decide : 8 + 8 ≤ _)⟩)
      dsimp only [Pt.U, Pt.locs, Pt.cells, Pt.slots] at X192 l192 y192 z192 st192 hQ192
      subst l192 y192 z192
      obtain ⟨d192, b192, kb192, rfl, Nq192, Kq192, zq192, Eq192, Fv192, Fc192, Fh192, Fz192, Eb192, Vb192⟩ := hQ192
      have N192 := Fr.app N190 Nq192
      have ne_b190_d192 : b190 ≠ d192 := Nat.ne_of_lt (Nat.lt_of_lt_of_le (Eb190).lt zq192)
      have ne_d190_d192 : d190 ≠ d192 := Nat.ne_of_lt (Nat.lt_of_lt_of_le (Eq190).lt zq192)
      have g_d192 : n0 ≤ d192 := Nat.le_trans (own_old O191) zq192
      have sz_d192 : h0.size ≤ d192 := Nat.le_trans K191.1 zq192
      have O193 := O191.keep Kq192 all0
      have K193 : Keep h0 T192.heap [] := K191.trans Kq192 all0
      refine own_on (B := T192.setTop (mkF m 108 #[iv p0, iv p1, iv p2, iv 1, iv r1, iv r2, iv 1, iv 1, iv r1, iv r2, rv d190, un, un, un, un] [(.ref d192)])) (fun tz kz => st192 _ kz) ?_
      have f_194 := (Vb190.keep Kq192 nin0)
      have f_195 := (Eq190.keep Kq192)
      have f_196 := (Fv190.keep Kq192 nin0)
      have f_197 := (Fc190.keep Kq192 nin0)
      refine own_on (B := T192.setTop (mkF m 114 #[iv p0, iv p1, iv p2, iv 1, iv r1, iv r2, iv 1, iv 1, iv r1, iv r2, rv d190, rv d192, un, un, un] [(.ref d192), (.ref d190)])) (fun tz kz => ?_) ?_
      · show sT p e below T192 (mkF m 108 #[iv p0, iv p1, iv p2, iv 1, iv r1, iv r2, iv 1, iv 1, iv r1, iv r2, rv d190, un, un, un, un] [(.ref d192)]) tz
        refine XS.astore X192.here hx rfl (hb hby at_108) rfl rfl (l' := #[iv p0, iv p1, iv p2, iv 1, iv r1, iv r2, iv 1, iv 1, iv r1, iv r2, rv d190, rv d192, un, un, un]) rfl ?_
        show sT p e below T192 (mkF m 110 #[iv p0, iv p1, iv p2, iv 1, iv r1, iv r2, iv 1, iv 1, iv r1, iv r2, rv d190, rv d192, un, un, un] []) tz
        refine XS.aload X192.here hx rfl (hb hby at_110) rfl rfl ?_
        show sT p e below T192 (mkF m 112 #[iv p0, iv p1, iv p2, iv 1, iv r1, iv r2, iv 1, iv 1, iv r1, iv r2, rv d190, rv d192, un, un, un] [(.ref d190)]) tz
        refine XS.aload X192.here hx rfl (hb hby at_112) rfl rfl ?_
        exact kz
      obtain ⟨_, _, ⟨T198, L198, k198, n198⟩, -, X198, ⟨Lc198, hQ198, l198, y198, z198⟩, st198⟩ := Jvm.LawKit.callS X192 hx (y := (⟨"com/example/stackwright/stackwright/Holdings$FairValueLevel", "read", "(Ljava/lang/String;Ljava/lang/String;)Lcom/example/stackwright/stackwright/Holdings$FairValueLevel;"⟩ : MethodName)) hown (mvT hZ (own_w hw 29 rfl)) (mvT hZ (own_w hw 30 rfl)) (mvT hZ (own_w hw 31 rfl)) (mvT hZ (own_w hw 32 rfl)) (by decide) (backOf (W := 0) (rm6e l Z a0 hw [] d190 d192 w0 w1 w2 w3 T192.heap n0 O193 S_NONE S_LEVEL_1 S_LEVEL_2 S_LEVEL_3 f_195 (rm7a l Z a0 hw [] d190 d192 cS b190 b192 kb190 kb192 (nar .byte (r1.toInt8.toInt32)) T192.heap n0 O193 S_cs hcS f_195 f_196 f_197 Eq192 Fv192 Fc192 f_194 Vb192 )) hZ (own_w hw 32 rfl) (own_w hw 31 rfl) (by decide) (by decide)) (g := (mkF m 114 #[iv p0, iv p1, iv p2, iv 1, iv r1, iv r2, iv 1, iv 1, iv r1, iv r2, rv d190, rv d192, un, un, un] [(.ref d192), (.ref d190)])) rfl (by rw [hml]; rfl) (argsL := [(.ref d190), (.ref d192)]) (rest := []) (lenOf own_pd14 rfl) rfl (by show 2 * 0 + _ ≤ _; exact Nat.le_of_eq rfl) (hb hby at_114) (fun _ _ => ⟨rfl, rfl, (by decide : 8 + 2 ≤ _), (by decide : 16 + 8 ≤ _)⟩)
      dsimp only [Pt.U, Pt.locs, Pt.cells, Pt.slots] at X198 l198 y198 z198 st198 hQ198
      subst l198 y198 z198
      obtain ⟨rfl, Nq198, e198⟩ := hQ198
      have N198 := Fr.app N192 Nq198
      refine own_on (B := T198.setTop (mkF m 117 #[iv p0, iv p1, iv p2, iv 1, iv r1, iv r2, iv 1, iv 1, iv r1, iv r2, rv d190, rv d192, un, un, un] [(.ref w0)])) (fun tz kz => st198 _ kz) ?_
      refine own_on (B := T198.setTop (mkF m 161 #[iv p0, iv p1, iv p2, iv 1, iv r1, iv r2, iv 1, iv 1, iv r1, iv r2, rv d190, rv d192, rv w0, iv 1, un] [])) (fun tz kz => ?_) ?_
      · show sT p e below T198 (mkF m 117 #[iv p0, iv p1, iv p2, iv 1, iv r1, iv r2, iv 1, iv 1, iv r1, iv r2, rv d190, rv d192, un, un, un] [(.ref w0)]) tz
        refine XS.astore X198.here hx rfl (hb hby at_117) rfl rfl (l' := #[iv p0, iv p1, iv p2, iv 1, iv r1, iv r2, iv 1, iv 1, iv r1, iv r2, rv d190, rv d192, rv w0, un, un]) rfl ?_
        show sT p e below T198 (mkF m 119 #[iv p0, iv p1, iv p2, iv 1, iv r1, iv r2, iv 1, iv 1, iv r1, iv r2, rv d190, rv d192, rv w0, un, un] []) tz
        refine XS.iloadN X198.here hx rfl (hb hby at_119) rfl ?_
        show sT p e below T198 (mkF m 120 #[iv p0, iv p1, iv p2, iv 1, iv r1, iv r2, iv 1, iv 1, iv r1, iv r2, rv d190, rv d192, rv w0, un, un] [(.int 1)]) tz
        refine XS.iload X198.here hx rfl (hb hby at_120) rfl ?_
        show sT p e below T198 (mkF m 122 #[iv p0, iv p1, iv p2, iv 1, iv r1, iv r2, iv 1, iv 1, iv r1, iv r2, rv d190, rv d192, rv w0, un, un] [(.int 1), (.int 1)]) tz
        refine XS.icmpNo X198.here hx rfl (hb hby at_122) rfl (teq rfl).2 ?_
        show sT p e below T198 (mkF m 125 #[iv p0, iv p1, iv p2, iv 1, iv r1, iv r2, iv 1, iv 1, iv r1, iv r2, rv d190, rv d192, rv w0, un, un] []) tz
        refine XS.iloadN X198.here hx rfl (hb hby at_125) rfl ?_
        show sT p e below T198 (mkF m 126 #[iv p0, iv p1, iv p2, iv 1, iv r1, iv r2, iv 1, iv 1, iv r1, iv r2, rv d190, rv d192, rv w0, un, un] [(.int 1)]) tz
        refine XS.iconst X198.here hx rfl (hb hby at_126) ?_
        show sT p e below T198 (mkF m 127 #[iv p0, iv p1, iv p2, iv 1, iv r1, iv r2, iv 1, iv 1, iv r1, iv r2, rv d190, rv d192, rv w0, un, un] [(.int 1), (.int 1)]) tz
        refine XS.icmpNo X198.here hx rfl (hb hby at_127) rfl (flt Int32.lt_irrefl).1 ?_
        show sT p e below T198 (mkF m 130 #[iv p0, iv p1, iv p2, iv 1, iv r1, iv r2, iv 1, iv 1, iv r1, iv r2, rv d190, rv d192, rv w0, un, un] []) tz
        refine XS.iload X198.here hx rfl (hb hby at_130) rfl ?_
        show sT p e below T198 (mkF m 132 #[iv p0, iv p1, iv p2, iv 1, iv r1, iv r2, iv 1, iv 1, iv r1, iv r2, rv d190, rv d192, rv w0, un, un] [(.int r1)]) tz
        refine XS.iload X198.here hx rfl (hb hby at_132) rfl ?_
        show sT p e below T198 (mkF m 134 #[iv p0, iv p1, iv p2, iv 1, iv r1, iv r2, iv 1, iv 1, iv r1, iv r2, rv d190, rv d192, rv w0, un, un] [(.int r1), (.int r1)]) tz
        refine XS.icmpNo X198.here hx rfl (hb hby at_134) rfl (teq rfl).2 ?_
        show sT p e below T198 (mkF m 137 #[iv p0, iv p1, iv p2, iv 1, iv r1, iv r2, iv 1, iv 1, iv r1, iv r2, rv d190, rv d192, rv w0, un, un] []) tz
        refine XS.iloadN X198.here hx rfl (hb hby at_137) rfl ?_
        show sT p e below T198 (mkF m 138 #[iv p0, iv p1, iv p2, iv 1, iv r1, iv r2, iv 1, iv 1, iv r1, iv r2, rv d190, rv d192, rv w0, un, un] [(.int 1)]) tz
        refine XS.iconst X198.here hx rfl (hb hby at_138) ?_
        show sT p e below T198 (mkF m 139 #[iv p0, iv p1, iv p2, iv 1, iv r1, iv r2, iv 1, iv 1, iv r1, iv r2, rv d190, rv d192, rv w0, un, un] [(.int 2), (.int 1)]) tz
        refine XS.icmpYes X198.here hx rfl (pc0 := 139) (pc' := 149) rfl (hb hby at_139) rfl (tlt (by decide : (1 : Int32) < (2 : Int32))).1 (by decide) (by decide) ?_
        show sT p e below T198 (mkF m 149 #[iv p0, iv p1, iv p2, iv 1, iv r1, iv r2, iv 1, iv 1, iv r1, iv r2, rv d190, rv d192, rv w0, un, un] []) tz
        refine XS.iconst X198.here hx rfl (hb hby at_149) ?_
        show sT p e below T198 (mkF m 150 #[iv p0, iv p1, iv p2, iv 1, iv r1, iv r2, iv 1, iv 1, iv r1, iv r2, rv d190, rv d192, rv w0, un, un] [(.int 1)]) tz
        refine XS.goto X198.here hx rfl (pc0 := 150) (pc' := 154) rfl (hb hby at_150) (by decide) (by decide) ?_
        show sT p e below T198 (mkF m 154 #[iv p0, iv p1, iv p2, iv 1, iv r1, iv r2, iv 1, iv 1, iv r1, iv r2, rv d190, rv d192, rv w0, un, un] [(.int 1)]) tz
        refine XS.istore X198.here hx rfl (hb hby at_154) rfl (l' := #[iv p0, iv p1, iv p2, iv 1, iv r1, iv r2, iv 1, iv 1, iv r1, iv r2, rv d190, rv d192, rv w0, iv 1, un]) rfl ?_
        show sT p e below T198 (mkF m 156 #[iv p0, iv p1, iv p2, iv 1, iv r1, iv r2, iv 1, iv 1, iv r1, iv r2, rv d190, rv d192, rv w0, iv 1, un] []) tz
        refine XS.iload X198.here hx rfl (hb hby at_156) rfl ?_
        show sT p e below T198 (mkF m 158 #[iv p0, iv p1, iv p2, iv 1, iv r1, iv r2, iv 1, iv 1, iv r1, iv r2, rv d190, rv d192, rv w0, iv 1, un] [(.int 1)]) tz
        refine XS.ifNo X198.here hx rfl (hb hby at_158) rfl ((if0 _ _).trans (feq (by decide : ¬ ((1 : Int32) = (0 : Int32)))).1) ?_
        exact kz
      obtain ⟨T199, X199, e199, st199⟩ := getS2 X198 hx hZ hown (host := "") (Or.inl (own_w hw 46 rfl)) Via.refl e198 (S_NONE.ext O193.2) (g := (mkF m 161 #[iv p0, iv p1, iv p2, iv 1, iv r1, iv r2, iv 1, iv 1, iv r1, iv r2, rv d190, rv d192, rv w0, iv 1, un] [])) rfl (hb hby at_161)
      refine own_on (B := T199.setTop (mkF m 164 #[iv p0, iv p1, iv p2, iv 1, iv r1, iv r2, iv 1, iv 1, iv r1, iv r2, rv d190, rv d192, rv w0, iv 1, un] [(.ref w0)])) (fun tz kz => st199 _ kz) ?_
      refine own_on (B := T199.setTop (mkF m 244 #[iv p0, iv p1, iv p2, iv 1, iv r1, iv r2, iv 1, iv 1, iv r1, iv r2, rv d190, rv d192, rv w0, iv 1, rv w0] [(.int 1)])) (fun tz kz => ?_) ?_
      · show sT p e below T199 (mkF m 164 #[iv p0, iv p1, iv p2, iv 1, iv r1, iv r2, iv 1, iv 1, iv r1, iv r2, rv d190, rv d192, rv w0, iv 1, un] [(.ref w0)]) tz
        refine XS.astore X199.here hx rfl (hb hby at_164) rfl rfl (l' := #[iv p0, iv p1, iv p2, iv 1, iv r1, iv r2, iv 1, iv 1, iv r1, iv r2, rv d190, rv d192, rv w0, iv 1, rv w0]) rfl ?_
        show sT p e below T199 (mkF m 166 #[iv p0, iv p1, iv p2, iv 1, iv r1, iv r2, iv 1, iv 1, iv r1, iv r2, rv d190, rv d192, rv w0, iv 1, rv w0] []) tz
        refine XS.goto X199.here hx rfl (pc0 := 166) (pc' := 232) rfl (hb hby at_166) (by decide) (by decide) ?_
        show sT p e below T199 (mkF m 232 #[iv p0, iv p1, iv p2, iv 1, iv r1, iv r2, iv 1, iv 1, iv r1, iv r2, rv d190, rv d192, rv w0, iv 1, rv w0] []) tz
        refine XS.aload X199.here hx rfl (hb hby at_232) rfl rfl ?_
        show sT p e below T199 (mkF m 234 #[iv p0, iv p1, iv p2, iv 1, iv r1, iv r2, iv 1, iv 1, iv r1, iv r2, rv d190, rv d192, rv w0, iv 1, rv w0] [(.ref w0)]) tz
        refine XS.aload X199.here hx rfl (hb hby at_234) rfl rfl ?_
        show sT p e below T199 (mkF m 236 #[iv p0, iv p1, iv p2, iv 1, iv r1, iv r2, iv 1, iv 1, iv r1, iv r2, rv d190, rv d192, rv w0, iv 1, rv w0] [(.ref w0), (.ref w0)]) tz
        refine Jvm.RoadKit.acmp (g := (mkF m 236 #[iv p0, iv p1, iv p2, iv 1, iv r1, iv r2, iv 1, iv 1, iv r1, iv r2, rv d190, rv d192, rv w0, iv 1, rv w0] [(.ref w0), (.ref w0)])) X199 hx rfl rfl rfl (pc0 := 236) (pc' := 239) (same := true) rfl (hb hby at_236) rfl (decide_eq_true (congrArg Value.ref rfl)) (by decide) (by decide) ?_
        show sT p e below T199 (mkF m 239 #[iv p0, iv p1, iv p2, iv 1, iv r1, iv r2, iv 1, iv 1, iv r1, iv r2, rv d190, rv d192, rv w0, iv 1, rv w0] []) tz
        refine XS.iconst X199.here hx rfl (hb hby at_239) ?_
        show sT p e below T199 (mkF m 240 #[iv p0, iv p1, iv p2, iv 1, iv r1, iv r2, iv 1, iv 1, iv r1, iv r2, rv d190, rv d192, rv w0, iv 1, rv w0] [(.int 1)]) tz
        refine XS.goto X199.here hx rfl (pc0 := 240) (pc' := 244) rfl (hb hby at_240) (by decide) (by decide) ?_
        exact kz
      obtain ⟨fs, hr, hrun, hended, hW, hsame⟩ := X199.leave (v := some (.int (1 : Int32))) (fun h => by rw [Bd.returns] at h; cases h)
      refine own_of ⟨_, _, ?_, hrun, hended, _, _, rfl, ?_, ReturnedEndW.of_narrow ⟨_, rfl⟩ hW (hsame.mono (by decide) (by decide))⟩
      · show sT p e below T199 (mkF m 244 #[iv p0, iv p1, iv p2, iv 1, iv r1, iv r2, iv 1, iv 1, iv r1, iv r2, rv d190, rv d192, rv w0, iv 1, rv w0] [(.int 1)]) _
        exact own_retN X199 hx (t := .boolean) Bd.returns (by simp) (by first | rfl | (split <;> first | rfl | (split <;> first | rfl | (split <;> rfl)))) (hb hby at_244) hr
      · show Q0 Z p0 p1 p2 w0 w1 w2 w3 cS h0 n0 _ T199.heap _
        rw [e199]
        exact ⟨rfl, N198⟩
    · refine own_on (B := T2.setTop (mkF m 94 #[iv p0, iv p1, iv p2, iv 2, iv r1, iv r2, iv 1, iv 2, iv r1, iv r2, un, un, un, un, un] [(.int r2), (.int r1), (.int 2)])) (fun tz kz => ?_) ?_
      · show sT p e below T2 (mkF m 89 #[iv p0, iv p1, iv p2, iv 2, iv r1, iv r2, iv 1, iv 2, iv r1, iv r2, un, un, un, un, un] []) tz
        refine XS.iloadN X2.here hx rfl (hb hby at_89) rfl ?_
        show sT p e below T2 (mkF m 90 #[iv p0, iv p1, iv p2, iv 2, iv r1, iv r2, iv 1, iv 2, iv r1, iv r2, un, un, un, un, un] [(.int 2)]) tz
        refine XS.iload X2.here hx rfl (hb hby at_90) rfl ?_
        show sT p e below T2 (mkF m 92 #[iv p0, iv p1, iv p2, iv 2, iv r1, iv r2, iv 1, iv 2, iv r1, iv r2, un, un, un, un, un] [(.int r1), (.int 2)]) tz
        refine XS.iload X2.here hx rfl (hb hby at_92) rfl ?_
        exact kz
      obtain ⟨_, _, ⟨T200, L200, k200, n200⟩, -, X200, ⟨Lc200, hQ200, l200, y200, z200⟩, st200⟩ := Jvm.LawKit.callS X2 hx (y := (⟨"com/example/stackwright/stackwright/FairValueLevelReadPinLaw", "make", "(ICC)Ljava/lang/String;"⟩ : MethodName)) hown (mvT hZ (own_w hw 4 rfl)) (mvT hZ (own_w hw 5 rfl)) (mvT hZ (own_w hw 2 rfl)) (mvT hZ (own_w hw 6 rfl)) (by decide) (backOf (W := 0) (rm2b l Z a0 hw [] r1 r2 cS h0 n0 O0 S_cs hcS lo1 hi1 lo2 hi2) hZ (own_w hw 6 rfl) (own_w hw 2 rfl) (by decide) (by decide)) (g := (mkF m 94 #[iv p0, iv p1, iv p2, iv 2, iv r1, iv r2, iv 1, iv 2, iv r1, iv r2, un, un, un, un, un] [(.int r2), (.int r1), (.int 2)])) rfl (by rw [hml]; rfl) (argsL := [(.int (2 : Int32)), (.int r1), (.int r2)]) (rest := []) (lenOf own_pd13 rfl) rfl (by show 2 * 0 + _ ≤ _; exact Nat.le_of_eq rfl) (hb hby at_94) (fun _ _ => ⟨rfl, eq2, (by decide : 0 + 4 ≤ _), (by decide : 0 + 8 ≤ _)⟩)
      dsimp only [Pt.U, Pt.locs, Pt.cells, Pt.slots] at X200 l200 y200 z200 st200 hQ200
      subst l200 y200 z200
      obtain ⟨d200, b200, kb200, rfl, Nq200, Kq200, zq200, Eq200, Fv200, Fc200, Fh200, Fz200, Eb200, Vb200⟩ := hQ200
      have N200 := Fr.app N2 Nq200
      have g_d200 : n0 ≤ d200 := Nat.le_trans (own_old O0) zq200
      have sz_d200 : h0.size ≤ d200 := Nat.le_trans (Keep.refl h0 []).1 zq200
      have O201 := O0.keep Kq200 all0
      have K201 : Keep h0 T200.heap [] := (Keep.refl h0 []).trans Kq200 all0
      refine own_on (B := T200.setTop (mkF m 97 #[iv p0, iv p1, iv p2, iv 2, iv r1, iv r2, iv 1, iv 2, iv r1, iv r2, un, un, un, un, un] [(.ref d200)])) (fun tz kz => st200 _ kz) ?_
      refine own_on (B := T200.setTop (mkF m 105 #[iv p0, iv p1, iv p2, iv 2, iv r1, iv r2, iv 1, iv 2, iv r1, iv r2, rv d200, un, un, un, un] [(.int r2), (.int r1), (.int 2)])) (fun tz kz => ?_) ?_
      · show sT p e below T200 (mkF m 97 #[iv p0, iv p1, iv p2, iv 2, iv r1, iv r2, iv 1, iv 2, iv r1, iv r2, un, un, un, un, un] [(.ref d200)]) tz
        refine XS.astore X200.here hx rfl (hb hby at_97) rfl rfl (l' := #[iv p0, iv p1, iv p2, iv 2, iv r1, iv r2, iv 1, iv 2, iv r1, iv r2, rv d200, un, un, un, un]) rfl ?_
        show sT p e below T200 (mkF m 99 #[iv p0, iv p1, iv p2, iv 2, iv r1, iv r2, iv 1, iv 2, iv r1, iv r2, rv d200, un, un, un, un] []) tz
        refine XS.iload X200.here hx rfl (hb hby at_99) rfl ?_
        show sT p e below T200 (mkF m 101 #[iv p0, iv p1, iv p2, iv 2, iv r1, iv r2, iv 1, iv 2, iv r1, iv r2, rv d200, un, un, un, un] [(.int 2)]) tz
        refine XS.iload X200.here hx rfl (hb hby at_101) rfl ?_
        show sT p e below T200 (mkF m 103 #[iv p0, iv p1, iv p2, iv 2, iv r1, iv r2, iv 1, iv 2, iv r1, iv r2, rv d200, un, un, un, un] [(.int r1), (.int 2)]) tz
        refine XS.iload X200.here hx rfl (hb hby at_103) rfl ?_
        exact kz
      obtain ⟨_, _, ⟨T202, L202, k202, n202⟩, -, X202, ⟨Lc202, hQ202, l202, y202, z202⟩, st202⟩ := Jvm.LawKit.callS X200 hx (y := (⟨"com/example/stackwright/stackwright/FairValueLevelReadPinLaw", "make", "(ICC)Ljava/lang/String;"⟩ : MethodName)) hown (mvT hZ (own_w hw 4 rfl)) (mvT hZ (own_w hw 5 rfl)) (mvT hZ (own_w hw 2 rfl)) (mvT hZ (own_w hw 6 rfl)) (by decide) (backOf (W := 0) (rm2b l Z a0 hw [] r1 r2 cS T200.heap n0 O201 S_cs hcS lo1 hi1 lo2 hi2) hZ (own_w hw 6 rfl) (own_w hw 2 rfl) (by decide) (by decide)) (g := (mkF m 105 #[iv p0, iv p1, iv p2, iv 2, iv r1, iv r2, iv 1, iv 2, iv r1, iv r2, rv d200, un, un, un, un] [(.int r2), (.int r1), (.int 2)])) rfl (by rw [hml]; rfl) (argsL := [(.int (2 : Int32)), (.int r1), (.int r2)]) (rest := []) (lenOf own_pd13 rfl) rfl (by show 2 * 0 + _ ≤ _; exact Nat.le_of_eq rfl) (hb hby at_105) (fun _ _ => ⟨rfl, rfl, (by decide : 4 + 4 ≤ _), (by decide : 8 + 8 ≤ _)⟩)
      dsimp only [Pt.U, Pt.locs, Pt.cells, Pt.slots] at X202 l202 y202 z202 st202 hQ202
      subst l202 y202 z202
      obtain ⟨d202, b202, kb202, rfl, Nq202, Kq202, zq202, Eq202, Fv202, Fc202, Fh202, Fz202, Eb202, Vb202⟩ := hQ202
      have N202 := Fr.app N200 Nq202
      have ne_b200_d202 : b200 ≠ d202 := Nat.ne_of_lt (Nat.lt_of_lt_of_le (Eb200).lt zq202)
      have ne_d200_d202 : d200 ≠ d202 := Nat.ne_of_lt (Nat.lt_of_lt_of_le (Eq200).lt zq202)
      have g_d202 : n0 ≤ d202 := Nat.le_trans (own_old O201) zq202
      have sz_d202 : h0.size ≤ d202 := Nat.le_trans K201.1 zq202
      have O203 := O201.keep Kq202 all0
      have K203 : Keep h0 T202.heap [] := K201.trans Kq202 all0
      refine own_on (B := T202.setTop (mkF m 108 #[iv p0, iv p1, iv p2, iv 2, iv r1, iv r2, iv 1, iv 2, iv r1, iv r2, rv d200, un, un, un, un] [(.ref d202)])) (fun tz kz => st202 _ kz) ?_
      have f_204 := (Vb200.keep Kq202 nin0)
      have f_205 := (Eq200.keep Kq202)
      have f_206 := (Fv200.keep Kq202 nin0)
      have f_207 := (Fc200.keep Kq202 nin0)
      refine own_on (B := T202.setTop (mkF m 114 #[iv p0, iv p1, iv p2, iv 2, iv r1, iv r2, iv 1, iv 2, iv r1, iv r2, rv d200, rv d202, un, un, un] [(.ref d202), (.ref d200)])) (fun tz kz => ?_) ?_
      · show sT p e below T202 (mkF m 108 #[iv p0, iv p1, iv p2, iv 2, iv r1, iv r2, iv 1, iv 2, iv r1, iv r2, rv d200, un, un, un, un] [(.ref d202)]) tz
        refine XS.astore X202.here hx rfl (hb hby at_108) rfl rfl (l' := #[iv p0, iv p1, iv p2, iv 2, iv r1, iv r2, iv 1, iv 2, iv r1, iv r2, rv d200, rv d202, un, un, un]) rfl ?_
        show sT p e below T202 (mkF m 110 #[iv p0, iv p1, iv p2, iv 2, iv r1, iv r2, iv 1, iv 2, iv r1, iv r2, rv d200, rv d202, un, un, un] []) tz
        refine XS.aload X202.here hx rfl (hb hby at_110) rfl rfl ?_
        show sT p e below T202 (mkF m 112 #[iv p0, iv p1, iv p2, iv 2, iv r1, iv r2, iv 1, iv 2, iv r1, iv r2, rv d200, rv d202, un, un, un] [(.ref d200)]) tz
        refine XS.aload X202.here hx rfl (hb hby at_112) rfl rfl ?_
        exact kz
      obtain ⟨_, _, ⟨T208, L208, k208, n208⟩, -, X208, ⟨Lc208, hQ208, l208, y208, z208⟩, st208⟩ := Jvm.LawKit.callS X202 hx (y := (⟨"com/example/stackwright/stackwright/Holdings$FairValueLevel", "read", "(Ljava/lang/String;Ljava/lang/String;)Lcom/example/stackwright/stackwright/Holdings$FairValueLevel;"⟩ : MethodName)) hown (mvT hZ (own_w hw 29 rfl)) (mvT hZ (own_w hw 30 rfl)) (mvT hZ (own_w hw 31 rfl)) (mvT hZ (own_w hw 32 rfl)) (by decide) (backOf (W := 0) (rm6e l Z a0 hw [] d200 d202 w0 w1 w2 w3 T202.heap n0 O203 S_NONE S_LEVEL_1 S_LEVEL_2 S_LEVEL_3 f_205 (rm7b l Z a0 hw [] d200 d202 cS b200 b202 kb200 kb202 (nar .byte (r1.toInt8.toInt32)) (nar .byte (r2.toInt8.toInt32)) T202.heap n0 O203 S_cs hcS f_205 f_206 f_207 Eq202 Fv202 Fc202 f_204 Vb202 )) hZ (own_w hw 32 rfl) (own_w hw 31 rfl) (by decide) (by decide)) (g := (mkF m 114 #[iv p0, iv p1, iv p2, iv 2, iv r1, iv r2, iv 1, iv 2, iv r1, iv r2, rv d200, rv d202, un, un, un] [(.ref d202), (.ref d200)])) rfl (by rw [hml]; rfl) (argsL := [(.ref d200), (.ref d202)]) (rest := []) (lenOf own_pd14 rfl) rfl (by show 2 * 0 + _ ≤ _; exact Nat.le_of_eq rfl) (hb hby at_114) (fun _ _ => ⟨rfl, rfl, (by decide : 8 + 2 ≤ _), (by decide : 16 + 8 ≤ _)⟩)
      dsimp only [Pt.U, Pt.locs, Pt.cells, Pt.slots] at X208 l208 y208 z208 st208 hQ208
      subst l208 y208 z208
      obtain ⟨rfl, Nq208, e208⟩ := hQ208
      have N208 := Fr.app N202 Nq208
      refine own_on (B := T208.setTop (mkF m 117 #[iv p0, iv p1, iv p2, iv 2, iv r1, iv r2, iv 1, iv 2, iv r1, iv r2, rv d200, rv d202, un, un, un] [(.ref w0)])) (fun tz kz => st208 _ kz) ?_
      refine own_on (B := T208.setTop (mkF m 161 #[iv p0, iv p1, iv p2, iv 2, iv r1, iv r2, iv 1, iv 2, iv r1, iv r2, rv d200, rv d202, rv w0, iv 1, un] [])) (fun tz kz => ?_) ?_
      · show sT p e below T208 (mkF m 117 #[iv p0, iv p1, iv p2, iv 2, iv r1, iv r2, iv 1, iv 2, iv r1, iv r2, rv d200, rv d202, un, un, un] [(.ref w0)]) tz
        refine XS.astore X208.here hx rfl (hb hby at_117) rfl rfl (l' := #[iv p0, iv p1, iv p2, iv 2, iv r1, iv r2, iv 1, iv 2, iv r1, iv r2, rv d200, rv d202, rv w0, un, un]) rfl ?_
        show sT p e below T208 (mkF m 119 #[iv p0, iv p1, iv p2, iv 2, iv r1, iv r2, iv 1, iv 2, iv r1, iv r2, rv d200, rv d202, rv w0, un, un] []) tz
        refine XS.iloadN X208.here hx rfl (hb hby at_119) rfl ?_
        show sT p e below T208 (mkF m 120 #[iv p0, iv p1, iv p2, iv 2, iv r1, iv r2, iv 1, iv 2, iv r1, iv r2, rv d200, rv d202, rv w0, un, un] [(.int 2)]) tz
        refine XS.iload X208.here hx rfl (hb hby at_120) rfl ?_
        show sT p e below T208 (mkF m 122 #[iv p0, iv p1, iv p2, iv 2, iv r1, iv r2, iv 1, iv 2, iv r1, iv r2, rv d200, rv d202, rv w0, un, un] [(.int 2), (.int 2)]) tz
        refine XS.icmpNo X208.here hx rfl (hb hby at_122) rfl (teq rfl).2 ?_
        show sT p e below T208 (mkF m 125 #[iv p0, iv p1, iv p2, iv 2, iv r1, iv r2, iv 1, iv 2, iv r1, iv r2, rv d200, rv d202, rv w0, un, un] []) tz
        refine XS.iloadN X208.here hx rfl (hb hby at_125) rfl ?_
        show sT p e below T208 (mkF m 126 #[iv p0, iv p1, iv p2, iv 2, iv r1, iv r2, iv 1, iv 2, iv r1, iv r2, rv d200, rv d202, rv w0, un, un] [(.int 2)]) tz
        refine XS.iconst X208.here hx rfl (hb hby at_126) ?_
        show sT p e below T208 (mkF m 127 #[iv p0, iv p1, iv p2, iv 2, iv r1, iv r2, iv 1, iv 2, iv r1, iv r2, rv d200, rv d202, rv w0, un, un] [(.int 1), (.int 2)]) tz
        refine XS.icmpNo X208.here hx rfl (hb hby at_127) rfl (flt (by decide : ¬ ((2 : Int32) < (1 : Int32)))).1 ?_
        show sT p e below T208 (mkF m 130 #[iv p0, iv p1, iv p2, iv 2, iv r1, iv r2, iv 1, iv 2, iv r1, iv r2, rv d200, rv d202, rv w0, un, un] []) tz
        refine XS.iload X208.here hx rfl (hb hby at_130) rfl ?_
        show sT p e below T208 (mkF m 132 #[iv p0, iv p1, iv p2, iv 2, iv r1, iv r2, iv 1, iv 2, iv r1, iv r2, rv d200, rv d202, rv w0, un, un] [(.int r1)]) tz
        refine XS.iload X208.here hx rfl (hb hby at_132) rfl ?_
        show sT p e below T208 (mkF m 134 #[iv p0, iv p1, iv p2, iv 2, iv r1, iv r2, iv 1, iv 2, iv r1, iv r2, rv d200, rv d202, rv w0, un, un] [(.int r1), (.int r1)]) tz
        refine XS.icmpNo X208.here hx rfl (hb hby at_134) rfl (teq rfl).2 ?_
        show sT p e below T208 (mkF m 137 #[iv p0, iv p1, iv p2, iv 2, iv r1, iv r2, iv 1, iv 2, iv r1, iv r2, rv d200, rv d202, rv w0, un, un] []) tz
        refine XS.iloadN X208.here hx rfl (hb hby at_137) rfl ?_
        show sT p e below T208 (mkF m 138 #[iv p0, iv p1, iv p2, iv 2, iv r1, iv r2, iv 1, iv 2, iv r1, iv r2, rv d200, rv d202, rv w0, un, un] [(.int 2)]) tz
        refine XS.iconst X208.here hx rfl (hb hby at_138) ?_
        show sT p e below T208 (mkF m 139 #[iv p0, iv p1, iv p2, iv 2, iv r1, iv r2, iv 1, iv 2, iv r1, iv r2, rv d200, rv d202, rv w0, un, un] [(.int 2), (.int 2)]) tz
        refine XS.icmpNo X208.here hx rfl (hb hby at_139) rfl (flt Int32.lt_irrefl).1 ?_
        show sT p e below T208 (mkF m 142 #[iv p0, iv p1, iv p2, iv 2, iv r1, iv r2, iv 1, iv 2, iv r1, iv r2, rv d200, rv d202, rv w0, un, un] []) tz
        refine XS.iload X208.here hx rfl (hb hby at_142) rfl ?_
        show sT p e below T208 (mkF m 144 #[iv p0, iv p1, iv p2, iv 2, iv r1, iv r2, iv 1, iv 2, iv r1, iv r2, rv d200, rv d202, rv w0, un, un] [(.int r2)]) tz
        refine XS.iload X208.here hx rfl (hb hby at_144) rfl ?_
        show sT p e below T208 (mkF m 146 #[iv p0, iv p1, iv p2, iv 2, iv r1, iv r2, iv 1, iv 2, iv r1, iv r2, rv d200, rv d202, rv w0, un, un] [(.int r2), (.int r2)]) tz
        refine XS.icmpNo X208.here hx rfl (hb hby at_146) rfl (teq rfl).2 ?_
        show sT p e below T208 (mkF m 149 #[iv p0, iv p1, iv p2, iv 2, iv r1, iv r2, iv 1, iv 2, iv r1, iv r2, rv d200, rv d202, rv w0, un, un] []) tz
        refine XS.iconst X208.here hx rfl (hb hby at_149) ?_
        show sT p e below T208 (mkF m 150 #[iv p0, iv p1, iv p2, iv 2, iv r1, iv r2, iv 1, iv 2, iv r1, iv r2, rv d200, rv d202, rv w0, un, un] [(.int 1)]) tz
        refine XS.goto X208.here hx rfl (pc0 := 150) (pc' := 154) rfl (hb hby at_150) (by decide) (by decide) ?_
        show sT p e below T208 (mkF m 154 #[iv p0, iv p1, iv p2, iv 2, iv r1, iv r2, iv 1, iv 2, iv r1, iv r2, rv d200, rv d202, rv w0, un, un] [(.int 1)]) tz
        refine XS.istore X208.here hx rfl (hb hby at_154) rfl (l' := #[iv p0, iv p1, iv p2, iv 2, iv r1, iv r2, iv 1, iv 2, iv r1, iv r2, rv d200, rv d202, rv w0, iv 1, un]) rfl ?_
        show sT p e below T208 (mkF m 156 #[iv p0, iv p1, iv p2, iv 2, iv r1, iv r2, iv 1, iv 2, iv r1, iv r2, rv d200, rv d202, rv w0, iv 1, un] []) tz
        refine XS.iload X208.here hx rfl (hb hby at_156) rfl ?_
        show sT p e below T208 (mkF m 158 #[iv p0, iv p1, iv p2, iv 2, iv r1, iv r2, iv 1, iv 2, iv r1, iv r2, rv d200, rv d202, rv w0, iv 1, un] [(.int 1)]) tz
        refine XS.ifNo X208.here hx rfl (hb hby at_158) rfl ((if0 _ _).trans (feq (by decide : ¬ ((1 : Int32) = (0 : Int32)))).1) ?_
        exact kz
      obtain ⟨T209, X209, e209, st209⟩ := getS2 X208 hx hZ hown (host := "") (Or.inl (own_w hw 46 rfl)) Via.refl e208 (S_NONE.ext O203.2) (g := (mkF m 161 #[iv p0, iv p1, iv p2, iv 2, iv r1, iv r2, iv 1, iv 2, iv r1, iv r2, rv d200, rv d202, rv w0, iv 1, un] [])) rfl (hb hby at_161)
      refine own_on (B := T209.setTop (mkF m 164 #[iv p0, iv p1, iv p2, iv 2, iv r1, iv r2, iv 1, iv 2, iv r1, iv r2, rv d200, rv d202, rv w0, iv 1, un] [(.ref w0)])) (fun tz kz => st209 _ kz) ?_
      refine own_on (B := T209.setTop (mkF m 244 #[iv p0, iv p1, iv p2, iv 2, iv r1, iv r2, iv 1, iv 2, iv r1, iv r2, rv d200, rv d202, rv w0, iv 1, rv w0] [(.int 1)])) (fun tz kz => ?_) ?_
      · show sT p e below T209 (mkF m 164 #[iv p0, iv p1, iv p2, iv 2, iv r1, iv r2, iv 1, iv 2, iv r1, iv r2, rv d200, rv d202, rv w0, iv 1, un] [(.ref w0)]) tz
        refine XS.astore X209.here hx rfl (hb hby at_164) rfl rfl (l' := #[iv p0, iv p1, iv p2, iv 2, iv r1, iv r2, iv 1, iv 2, iv r1, iv r2, rv d200, rv d202, rv w0, iv 1, rv w0]) rfl ?_
        show sT p e below T209 (mkF m 166 #[iv p0, iv p1, iv p2, iv 2, iv r1, iv r2, iv 1, iv 2, iv r1, iv r2, rv d200, rv d202, rv w0, iv 1, rv w0] []) tz
        refine XS.goto X209.here hx rfl (pc0 := 166) (pc' := 232) rfl (hb hby at_166) (by decide) (by decide) ?_
        show sT p e below T209 (mkF m 232 #[iv p0, iv p1, iv p2, iv 2, iv r1, iv r2, iv 1, iv 2, iv r1, iv r2, rv d200, rv d202, rv w0, iv 1, rv w0] []) tz
        refine XS.aload X209.here hx rfl (hb hby at_232) rfl rfl ?_
        show sT p e below T209 (mkF m 234 #[iv p0, iv p1, iv p2, iv 2, iv r1, iv r2, iv 1, iv 2, iv r1, iv r2, rv d200, rv d202, rv w0, iv 1, rv w0] [(.ref w0)]) tz
        refine XS.aload X209.here hx rfl (hb hby at_234) rfl rfl ?_
        show sT p e below T209 (mkF m 236 #[iv p0, iv p1, iv p2, iv 2, iv r1, iv r2, iv 1, iv 2, iv r1, iv r2, rv d200, rv d202, rv w0, iv 1, rv w0] [(.ref w0), (.ref w0)]) tz
        refine Jvm.RoadKit.acmp (g := (mkF m 236 #[iv p0, iv p1, iv p2, iv 2, iv r1, iv r2, iv 1, iv 2, iv r1, iv r2, rv d200, rv d202, rv w0, iv 1, rv w0] [(.ref w0), (.ref w0)])) X209 hx rfl rfl rfl (pc0 := 236) (pc' := 239) (same := true) rfl (hb hby at_236) rfl (decide_eq_true (congrArg Value.ref rfl)) (by decide) (by decide) ?_
        show sT p e below T209 (mkF m 239 #[iv p0, iv p1, iv p2, iv 2, iv r1, iv r2, iv 1, iv 2, iv r1, iv r2, rv d200, rv d202, rv w0, iv 1, rv w0] []) tz
        refine XS.iconst X209.here hx rfl (hb hby at_239) ?_
        show sT p e below T209 (mkF m 240 #[iv p0, iv p1, iv p2, iv 2, iv r1, iv r2, iv 1, iv 2, iv r1, iv r2, rv d200, rv d202, rv w0, iv 1, rv w0] [(.int 1)]) tz
        refine XS.goto X209.here hx rfl (pc0 := 240) (pc' := 244) rfl (hb hby at_240) (by decide) (by decide) ?_
        exact kz
      obtain ⟨fs, hr, hrun, hended, hW, hsame⟩ := X209.leave (v := some (.int (1 : Int32))) (fun h => by rw [Bd.returns] at h; cases h)
      refine own_of ⟨_, _, ?_, hrun, hended, _, _, rfl, ?_, ReturnedEndW.of_narrow ⟨_, rfl⟩ hW (hsame.mono (by decide) (by decide))⟩
      · show sT p e below T209 (mkF m 244 #[iv p0, iv p1, iv p2, iv 2, iv r1, iv r2, iv 1, iv 2, iv r1, iv r2, rv d200, rv d202, rv w0, iv 1, rv w0] [(.int 1)]) _
        exact own_retN X209 hx (t := .boolean) Bd.returns (by simp) (by first | rfl | (split <;> first | rfl | (split <;> first | rfl | (split <;> rfl)))) (hb hby at_244) hr
      · show Q0 Z p0 p1 p2 w0 w1 w2 w3 cS h0 n0 _ T209.heap _
        rw [e209]
        exact ⟨rfl, N208⟩
set_option maxRecDepth 65536 in
set_option maxHeartbeats 40000000 in
theorem comes_1 {Post : Tables → Env → Array Value → State → Outcome → State → Prop} (hpost : ∀ tb e args s v u, (limb_1_1.after args s (.returned v) u = true ∧ limb_1_2.after args s (.returned v) u = true ∧ True) → ReturnedEndW s (.returned v) u (Jvm.fieldLocs frame_1_writes args s ++ Jvm.arrayLocs frame_1_arrays args s ++ Jvm.staticLocs frame_1_statics s) 32 4224 → Post tb e args s (.returned v) u) :
    ArmFor flags0 classFile x code maxLocals ret World_1 tables_1 room_1 Calls_1 rest_1 Pre_1 Post := by
  intro l hfl _ _ p e ha hc hk s m args below hf hA hF happ hP
  obtain ⟨hcalls, hrest, hpre⟩ := hP
  obtain ⟨-, -, -, hnamed, -, -, -, hat⟩ := (Spec.applies_iff hf).mp happ
  obtain ⟨hg, hn⟩ := and_e (Cond.before_iff.mp (show (Jvm.Cond.and given_1 narrow_1).before args s = true from hpre))
  obtain ⟨hcnt, hg0⟩ := and_e hg
  obtain ⟨ha0, hg1⟩ := and_e hg0
  obtain ⟨ha1, hg2⟩ := and_e hg1
  have ha2 := hg2
  obtain ⟨w0, w1, w2, rfl⟩ : ∃ w0 w1 w2 : Value, args = #[w0, w1, w2] := by
    have hs : args.size = 3 := by simpa [Cond.value, given_1] using hcnt
    obtain ⟨L⟩ := args
    match L, hs with
    | [w0, w1, w2], _ => exact ⟨w0, w1, w2, rfl⟩
  have hw := fun d (hd : d ∈ tables_1) => atoms_spec (ws := Jvm.Cond.code x code maxLocals ret :: tables_1) hat d (List.mem_cons_of_mem _ hd)
  have hfit : Fit s := fun {y c} hc i hi => by
    obtain ⟨ha, rfl⟩ := Array.getElem?_eq_some_iff.mp hc
    have q := List.all_eq_true.mp ((Array.all_eq_true_iff_forall_mem.mp hF) _ (Array.getElem_mem ha)) i (List.mem_range.mpr hi)
    simpa [Array.getElem?_eq_getElem hi] using q
  obtain ⟨hsets, hown0⟩ := atoms_of _ (rest_1_c_eq ▸ (show rest_1_c.before _ s = true from hrest))
  have hr0 := Cond.before_iff.mp hown0
  obtain ⟨i0, ei0⟩ := is_v ha0
  obtain rfl : w0 = (.int i0) := Option.some.inj ei0
  obtain ⟨i1, ei1⟩ := is_v ha1
  obtain rfl : w1 = (.int i1) := Option.some.inj ei1
  obtain ⟨i2, ei2⟩ := is_v ha2
  obtain rfl : w2 = (.int i2) := Option.some.inj ei2
  obtain ⟨hn0, hr0⟩ := and_e hn
  obtain ⟨hn1, hr1⟩ := and_e hr0
  obtain ⟨hn2, hr2⟩ := and_e hr1
  obtain ⟨w_NONE, ev_NONE⟩ := exa_v hn0
  have S_NONE := Sta.start ev_NONE (Or.inr ⟨(own_w hw 31 rfl), (own_w hw 45 rfl)⟩)
  have E_NONE := Exa.start ev_NONE hn0
  obtain ⟨w_LEVEL_3, ev_LEVEL_3⟩ := exa_v hn1
  have S_LEVEL_3 := Sta.start ev_LEVEL_3 (Or.inr ⟨(own_w hw 31 rfl), (own_w hw 85 rfl)⟩)
  have E_LEVEL_3 := Exa.start ev_LEVEL_3 hn1
  obtain ⟨w_LEVEL_1, ev_LEVEL_1⟩ := exa_v hn2
  have S_LEVEL_1 := Sta.start ev_LEVEL_1 (Or.inr ⟨(own_w hw 31 rfl), (own_w hw 89 rfl)⟩)
  have E_LEVEL_1 := Exa.start ev_LEVEL_1 hn2
  obtain ⟨w_LEVEL_2, ev_LEVEL_2⟩ := exa_v hr2
  have S_LEVEL_2 := Sta.start ev_LEVEL_2 (Or.inr ⟨(own_w hw 31 rfl), (own_w hw 93 rfl)⟩)
  have E_LEVEL_2 := Exa.start ev_LEVEL_2 hr2
  obtain ⟨j_COMPACT_STRINGS, jev_COMPACT_STRINGS⟩ := is_v (Cond.before_iff.mp (hsets _ (List.mem_of_getElem? (i := 1) rfl)))
  have JS_COMPACT_STRINGS := Sta.start jev_COMPACT_STRINGS (Or.inl (hsets _ (List.mem_of_getElem? (i := 0) rfl)))
  have JN_COMPACT_STRINGS := own_evN jev_COMPACT_STRINGS (Cond.before_iff.mp (hsets _ (List.mem_of_getElem? (i := 2) rfl)))
  have JC_COMPACT_STRINGS := (hsets _ (List.mem_of_getElem? (i := 2) rfl))
  obtain ⟨n, o, h1, h2, h3, _, L, rfl, ⟨rfl, N⟩, hq⟩ := rm0 l s _ hw tables_1 i0 i1 i2 w_NONE w_LEVEL_1 w_LEVEL_2 w_LEVEL_3 j_COMPACT_STRINGS s.heap s.heap.size (Old.start s) S_NONE S_LEVEL_1 S_LEVEL_2 S_LEVEL_3 JS_COMPACT_STRINGS JN_COMPACT_STRINGS (hcalls.1 _ (List.mem_of_getElem? (i := 3) rfl)) JC_COMPACT_STRINGS (hcalls.1 _ (List.mem_of_getElem? (i := 0) rfl)) (hcalls.1 _ (List.mem_of_getElem? (i := 1) rfl)) (hcalls.1 _ (List.mem_of_getElem? (i := 2) rfl)) p e ha hc hk s m _ below hf ((Spec.applies_iff_loose hf).mp happ).1 ⟨rfl, State.Warmed39.refl s, rfl, OwnJ.start s⟩ trivial
  refine ⟨n, _, h1, h2, h3, hpost _ _ _ _ _ _ ⟨Cond.after_iff.mpr rfl, Cond.after_iff.mpr (eq_i res_at (Term.int_eval (1)) rfl), trivial⟩ ⟨hq.1, hq.2.1, hq.2.2.1, (hq.2.2.2.sift fun y hy => Or.inr (N y hy)).mono (by decide) (by decide)⟩⟩
theorem main_1_1 : Claimed_1_1 := comes_1 fun _ _ _ _ _ _ h hF => ⟨h.1, hF⟩
theorem main_1_2 : Claimed_1_2 := comes_1 fun _ _ _ _ _ _ h hF => ⟨h.2.1, hF⟩
end Jvm.Pilot.@@N@@
namespace Jvm.Pilot.@@N@@
open Jvm Jvm.ClassFile Sem Op Lib Jvm.Free Jvm.Stand Jvm.Pilot.@@N@@.Jvm.D
/-! MADE BY PROGRAM (witnessworld.py) out of the Statement's table words and the real class files: 21 classes; the members and pool entries that the words name. The judged class is class 1, her method 3. -/
namespace start1
open Jvm.ClassFile
def u (s : String) : CpInfo := .utf8 (stringToUtf16 s)
/-- a pool by its gaps: so many unusable entries, then the entry; so many at the end -/
def gap : Nat → List CpInfo → List CpInfo
  | 0, r => r
  | n + 1, r => .unusable :: gap n r
def poolList (es : List (Nat × CpInfo)) (last : Nat) : List CpInfo := es.foldr (fun e r => gap e.1 (e.2 :: r)) (gap last [])
def pool (es : List (Nat × CpInfo)) (last : Nat) : Array CpInfo := ⟨poolList es last⟩
def fileOf (pool : Array CpInfo) (this : Nat) (attrs : Array Attribute := #[]) (ms : Array MethodInfo := #[]) (fl : Nat := 33) (sup : Nat := 0) (ifs : Array Nat := #[]) (fds : Array FieldInfo := #[]) : ClassFile where
  minorVersion := 0
  majorVersion := 65
  constantPool := pool
  accessFlags := fl
  thisClass := this
  superClass := sup
  interfaces := ifs
  fields := fds
  methods := ms
  attributes := attrs
def plain (name : String) (sup : Option ClassId) : Class where
  name := name
  kind := .ordinary
  loader := none
  accessFlags := 33
  super := sup
  interfaces := #[]
  cf := none
  fields := #[]
  methods := #[]
  instanceTypes := #[]
  staticTypes := #[]
  resolved := #[]
  callSites := []
  init := .initialized
  statics := none
  mirror := none

def pool0 : Array CpInfo := pool [(5, u "<init>"), (0, u "()V"), (1, .class_ 10), (1, u "java/lang/Object")] 113

def k0c0 : Code := { maxStack := 0, maxLocals := 1, code := object_method_1_code, exceptionTable := #[], attributes := #[] }
def k0m0 : Method := { name := "<init>", desc := "()V", sig := { parameters := [], returnType := none }, accessFlags := 1, code := some k0c0 }
/-- java/lang/Object -/
def k0 : Class := { plain "java/lang/Object" none with
  accessFlags := 33
  interfaces := #[]
  cf := some (fileOf pool0 8 #[] #[{ accessFlags := 1, nameIndex := 5, descriptorIndex := 6, attributes := #[] }] 33 0 #[] #[])
  fields := #[]
  methods := #[k0m0]
  instanceTypes := #[]
  staticTypes := #[]
  resolved := Array.replicate 124 none
  statics := none }

def pool1 : Array CpInfo := pool [(2, .class_ 4), (1, u "java/lang/Object"), (0, u "<init>"), (0, u "()V"), (0, .class_ 8), (0, u "java/lang/String"), (0, .methodref 7 10), (0, .nameAndType 5 11), (0, u "([C)V"), (0, .methodref 13 14), (0, .class_ 15), (0, .nameAndType 16 17), (0, u "com/example/stackwright/stackwright/FairValueLevelReadPinLaw"), (0, u "pick"), (0, u "(I)C"), (0, .methodref 13 19), (0, .nameAndType 20 21), (0, u "make"), (0, u "(ICC)Ljava/lang/String;"), (0, .methodref 23 24), (0, .class_ 25), (0, .nameAndType 26 27), (0, u "com/example/stackwright/stackwright/Holdings$FairValueLevel"), (0, u "read"), (0, u "(Ljava/lang/String;Ljava/lang/String;)Lcom/example/stackwright/stackwright/Holdings$FairValueLevel;"), (0, .fieldref 23 29), (0, .nameAndType 30 31), (0, u "NONE"), (0, u "Lcom/example/stackwright/stackwright/Holdings$FairValueLevel;"), (0, .fieldref 23 33), (0, .nameAndType 34 31), (0, u "LEVEL_1"), (0, .fieldref 23 36), (0, .nameAndType 37 31), (0, u "LEVEL_2"), (0, .fieldref 23 39), (0, .nameAndType 40 31), (0, u "LEVEL_3"), (3, u "law"), (0, u "(III)Z")] 6

def k1m0 : Method := { name := "<init>", desc := "()V", sig := { parameters := [], returnType := none }, accessFlags := 2, code := none }
def k1c1 : Code := { maxStack := 3, maxLocals := 1, code := method_2_code, exceptionTable := #[], attributes := #[] }
def k1m1 : Method := { name := "pick", desc := "(I)C", sig := { parameters := [.int], returnType := some .char }, accessFlags := 10, code := some k1c1 }
def k1c2 : Code := { maxStack := 6, maxLocals := 3, code := method_3_code, exceptionTable := #[], attributes := #[] }
def k1m2 : Method := { name := "make", desc := "(ICC)Ljava/lang/String;", sig := { parameters := [.int, .char, .char], returnType := some (.object "java/lang/String") }, accessFlags := 10, code := some k1c2 }
def k1c3 : Code := { maxStack := 3, maxLocals := 15, code := code, exceptionTable := #[], attributes := #[] }
def k1m3 : Method := { name := "law", desc := "(III)Z", sig := { parameters := [.int, .int, .int], returnType := some .boolean }, accessFlags := 9, code := some k1c3 }
/-- com/example/stackwright/stackwright/FairValueLevelReadPinLaw -/
def k1 : Class := { plain "com/example/stackwright/stackwright/FairValueLevelReadPinLaw" (some 0) with
  accessFlags := 49
  interfaces := #[]
  cf := some (fileOf pool1 13 #[] #[{ accessFlags := 2, nameIndex := 5, descriptorIndex := 6, attributes := #[] }, { accessFlags := 10, nameIndex := 16, descriptorIndex := 17, attributes := #[] }, { accessFlags := 10, nameIndex := 20, descriptorIndex := 21, attributes := #[] }, { accessFlags := 9, nameIndex := 44, descriptorIndex := 45, attributes := #[] }] 49 2 #[] #[])
  fields := #[]
  methods := #[k1m0, k1m1, k1m2, k1m3]
  instanceTypes := #[]
  staticTypes := #[]
  resolved := Array.replicate 52 none
  statics := none }

def pool2 : Array CpInfo := pool [(1, .class_ 2), (0, u "java/io/Serializable"), (0, .class_ 4), (0, u "java/lang/Object")] 2

/-- java/io/Serializable -/
def k2 : Class := { plain "java/io/Serializable" (some 0) with
  accessFlags := 1537
  interfaces := #[]
  cf := some (fileOf pool2 1 #[] #[] 1537 3 #[] #[])
  fields := #[]
  methods := #[]
  instanceTypes := #[]
  staticTypes := #[]
  resolved := Array.replicate 7 none
  statics := none }

def pool3 : Array CpInfo := pool [(1, .class_ 2), (0, u "java/lang/Comparable"), (0, .class_ 4), (0, u "java/lang/Object")] 7

/-- java/lang/Comparable -/
def k3 : Class := { plain "java/lang/Comparable" (some 0) with
  accessFlags := 1537
  interfaces := #[]
  cf := some (fileOf pool3 1 #[] #[] 1537 3 #[] #[])
  fields := #[]
  methods := #[]
  instanceTypes := #[]
  staticTypes := #[]
  resolved := Array.replicate 12 none
  statics := none }

def pool4 : Array CpInfo := pool [(2, .class_ 4), (1, u "java/lang/CharSequence"), (42, .class_ 48), (0, u "java/lang/CharSequence$1CodePointIterator"), (10, .class_ 60), (0, u "java/lang/CharSequence$1CharIterator"), (5, .class_ 67), (0, u "java/lang/Object")] 63

/-- java/lang/CharSequence -/
def k4 : Class := { plain "java/lang/CharSequence" (some 0) with
  accessFlags := 1537
  interfaces := #[]
  cf := some (fileOf pool4 2 #[.nestMembers #[47, 59]] #[] 1537 66 #[] #[])
  fields := #[]
  methods := #[]
  instanceTypes := #[]
  staticTypes := #[]
  resolved := Array.replicate 131 none
  statics := none }

def pool5 : Array CpInfo := pool [(1, .class_ 2), (0, u "java/lang/constant/Constable"), (0, .class_ 4), (0, u "java/lang/Object")] 6

/-- java/lang/constant/Constable -/
def k5 : Class := { plain "java/lang/constant/Constable" (some 0) with
  accessFlags := 1537
  interfaces := #[]
  cf := some (fileOf pool5 1 #[] #[] 1537 3 #[] #[])
  fields := #[]
  methods := #[]
  instanceTypes := #[]
  staticTypes := #[]
  resolved := Array.replicate 11 none
  statics := none }

def pool6 : Array CpInfo := pool [(1, .class_ 2), (0, u "java/lang/constant/ConstantDesc"), (0, .class_ 4), (0, u "java/lang/Object")] 32

/-- java/lang/constant/ConstantDesc -/
def k6 : Class := { plain "java/lang/constant/ConstantDesc" (some 0) with
  accessFlags := 1537
  interfaces := #[]
  cf := some (fileOf pool6 1 #[] #[] 1537 3 #[] #[])
  fields := #[]
  methods := #[]
  instanceTypes := #[]
  staticTypes := #[]
  resolved := Array.replicate 37 none
  statics := none }

def pool7 : Array CpInfo := pool [(1, .methodref 2 3), (0, .class_ 4), (0, .nameAndType 5 6), (0, u "java/lang/Object"), (0, u "<init>"), (0, u "()V"), (0, .string 8), (0, u ""), (0, .fieldref 10 11), (0, .class_ 12), (0, .nameAndType 13 14), (0, u "java/lang/String"), (0, u "value"), (0, u "[B"), (0, .fieldref 10 16), (0, .nameAndType 17 18), (0, u "coder"), (0, u "B"), (0, .fieldref 10 20), (0, .nameAndType 21 22), (0, u "hash"), (0, u "I"), (0, .fieldref 10 24), (0, .nameAndType 25 26), (0, u "hashIsZero"), (0, u "Z"), (0, .methodref 10 28), (0, .nameAndType 5 29), (0, u "([CIILjava/lang/Void;)V"), (8, .fieldref 10 39), (0, .nameAndType 40 26), (0, u "COMPACT_STRINGS"), (1, .class_ 44), (1, u "java/lang/StringUTF16"), (0, u "compress"), (1, .methodref 42 48), (0, .nameAndType 49 50), (0, u "coderFromArrayLen"), (0, u "([BI)B"), (56, .class_ 109), (1, u "java/lang/StringLatin1"), (32, u "()Z"), (34, .methodref 42 178), (0, .nameAndType 45 179), (0, u "([CII)[B"), (154, u "()I"), (157, .methodref 10 493), (0, .nameAndType 494 142), (0, u "isLatin1"), (46, .methodref 107 542), (0, .nameAndType 543 544), (0, u "equals"), (0, u "([B[B)Z"), (28, u "(Ljava/lang/Object;)Z"), (1, .class_ 576), (0, u "java/lang/CharSequence"), (22, u "CASE_INSENSITIVE_ORDER"), (0, u "Ljava/util/Comparator;"), (27, .methodref 107 629), (0, .nameAndType 630 631), (0, u "hashCode"), (0, u "([B)I"), (378, u "([C)V"), (90, u "serialPersistentFields"), (0, u "[Ljava/io/ObjectStreamField;"), (0, .class_ 1104), (0, u "java/lang/String$CaseInsensitiveComparator"), (1, .class_ 1107), (0, u "java/io/Serializable"), (0, .class_ 1109), (0, u "java/lang/Comparable"), (0, .class_ 1111), (0, u "java/lang/constant/Constable"), (0, .class_ 1113), (0, u "java/lang/constant/ConstantDesc"), (2, u "serialVersionUID"), (0, u "J"), (3, u "REPL"), (0, u "C"), (2, u "LATIN1"), (1, u "UTF16")] 323

def k7m0 : Method := { name := "<init>", desc := "()V", sig := { parameters := [], returnType := none }, accessFlags := 1, code := none }
def k7c1 : Code := { maxStack := 5, maxLocals := 2, code := jdk_42_method_3_code, exceptionTable := #[], attributes := #[] }
def k7m1 : Method := { name := "<init>", desc := "([C)V", sig := { parameters := [(.array .char)], returnType := none }, accessFlags := 1, code := some k7c1 }
def k7c2 : Code := { maxStack := 2, maxLocals := 3, code := jdk_42_method_66_code, exceptionTable := #[], attributes := #[] }
def k7m2 : Method := { name := "equals", desc := "(Ljava/lang/Object;)Z", sig := { parameters := [(.object "java/lang/Object")], returnType := some .boolean }, accessFlags := 1, code := some k7c2 }
def k7c3 : Code := { maxStack := 2, maxLocals := 2, code := jdk_42_method_78_code, exceptionTable := #[], attributes := #[] }
def k7m3 : Method := { name := "hashCode", desc := "()I", sig := { parameters := [], returnType := some .int }, accessFlags := 1, code := some k7c3 }
def k7c4 : Code := { maxStack := 4, maxLocals := 6, code := jdk_42_method_149_code, exceptionTable := #[], attributes := #[] }
def k7m4 : Method := { name := "<init>", desc := "([CIILjava/lang/Void;)V", sig := { parameters := [(.array .char), .int, .int, (.object "java/lang/Void")], returnType := none }, accessFlags := 2, code := some k7c4 }
def k7c5 : Code := { maxStack := 1, maxLocals := 1, code := jdk_42_method_154_code, exceptionTable := #[], attributes := #[] }
def k7m5 : Method := { name := "isLatin1", desc := "()Z", sig := { parameters := [], returnType := some .boolean }, accessFlags := 0, code := some k7c5 }
/-- java/lang/String -/
def k7 : Class := { plain "java/lang/String" (some 0) with
  accessFlags := 49
  interfaces := #[2, 3, 4, 5, 6]
  cf := some (fileOf pool7 10 #[.nestMembers #[1103]] #[{ accessFlags := 1, nameIndex := 5, descriptorIndex := 6, attributes := #[] }, { accessFlags := 1, nameIndex := 5, descriptorIndex := 1010, attributes := #[] }, { accessFlags := 1, nameIndex := 543, descriptorIndex := 573, attributes := #[] }, { accessFlags := 1, nameIndex := 630, descriptorIndex := 334, attributes := #[] }, { accessFlags := 2, nameIndex := 5, descriptorIndex := 29, attributes := #[] }, { accessFlags := 0, nameIndex := 494, descriptorIndex := 142, attributes := #[] }] 49 2 #[1106, 1108, 575, 1110, 1112] #[{ accessFlags := 18, nameIndex := 13, descriptorIndex := 14, attributes := #[] }, { accessFlags := 18, nameIndex := 17, descriptorIndex := 18, attributes := #[] }, { accessFlags := 2, nameIndex := 21, descriptorIndex := 22, attributes := #[] }, { accessFlags := 2, nameIndex := 25, descriptorIndex := 26, attributes := #[] }, { accessFlags := 26, nameIndex := 1116, descriptorIndex := 1117, attributes := #[] }, { accessFlags := 24, nameIndex := 40, descriptorIndex := 26, attributes := #[] }, { accessFlags := 26, nameIndex := 1101, descriptorIndex := 1102, attributes := #[] }, { accessFlags := 26, nameIndex := 1121, descriptorIndex := 1122, attributes := #[] }, { accessFlags := 25, nameIndex := 599, descriptorIndex := 600, attributes := #[] }, { accessFlags := 24, nameIndex := 1125, descriptorIndex := 18, attributes := #[] }, { accessFlags := 24, nameIndex := 1127, descriptorIndex := 18, attributes := #[] }])
  fields := #[{ name := "value", type := (.array .byte), accessFlags := 18, slot := 0, constantValue := 0 }, { name := "coder", type := .byte, accessFlags := 18, slot := 1, constantValue := 0 }, { name := "hash", type := .int, accessFlags := 2, slot := 2, constantValue := 0 }, { name := "hashIsZero", type := .boolean, accessFlags := 2, slot := 3, constantValue := 0 }, { name := "serialVersionUID", type := .long, accessFlags := 26, slot := 0, constantValue := 0 }, { name := "COMPACT_STRINGS", type := .boolean, accessFlags := 24, slot := 1, constantValue := 0 }, { name := "serialPersistentFields", type := (.array (.object "java/io/ObjectStreamField")), accessFlags := 26, slot := 2, constantValue := 0 }, { name := "REPL", type := .char, accessFlags := 26, slot := 3, constantValue := 0 }, { name := "CASE_INSENSITIVE_ORDER", type := (.object "java/util/Comparator"), accessFlags := 25, slot := 4, constantValue := 0 }, { name := "LATIN1", type := .byte, accessFlags := 24, slot := 5, constantValue := 0 }, { name := "UTF16", type := .byte, accessFlags := 24, slot := 6, constantValue := 0 }]
  methods := #[k7m0, k7m1, k7m2, k7m3, k7m4, k7m5]
  instanceTypes := #[(.array .byte), .byte, .int, .boolean]
  staticTypes := #[.long, .boolean, (.array (.object "java/io/ObjectStreamField")), .char, (.object "java/util/Comparator"), .byte, .byte]
  resolved := Array.replicate 1451 none
  statics := some 0 }

def pool8 : Array CpInfo := pool [(2, .class_ 4), (1, u "java/lang/Enum"), (0, u "name"), (0, u "Ljava/lang/String;"), (2, u "ordinal"), (0, u "I"), (1, .class_ 14), (1, u "java/lang/Object"), (4, u "hash"), (86, .class_ 108), (1, u "java/lang/Enum$EnumDesc"), (2, .class_ 112), (0, u "java/lang/constant/Constable"), (0, .class_ 114), (0, u "java/lang/Comparable"), (0, .class_ 116), (0, u "java/io/Serializable")] 87

/-- java/lang/Enum -/
def k8 : Class := { plain "java/lang/Enum" (some 0) with
  accessFlags := 1057
  interfaces := #[5, 3, 2]
  cf := some (fileOf pool8 2 #[.nestMembers #[106]] #[] 1057 12 #[111, 113, 115] #[{ accessFlags := 18, nameIndex := 5, descriptorIndex := 6, attributes := #[] }, { accessFlags := 18, nameIndex := 9, descriptorIndex := 10, attributes := #[] }, { accessFlags := 2, nameIndex := 19, descriptorIndex := 10, attributes := #[] }])
  fields := #[{ name := "name", type := (.object "java/lang/String"), accessFlags := 18, slot := 0, constantValue := 0 }, { name := "ordinal", type := .int, accessFlags := 18, slot := 1, constantValue := 0 }, { name := "hash", type := .int, accessFlags := 2, slot := 2, constantValue := 0 }]
  methods := #[]
  instanceTypes := #[(.object "java/lang/String"), .int, .int]
  staticTypes := #[]
  resolved := Array.replicate 204 none
  statics := none }

def pool9 : Array CpInfo := pool [(1, .class_ 2), (0, u "com/example/stackwright/stackwright/Holdings$FairValueLevel"), (0, .fieldref 1 4), (0, .nameAndType 5 6), (0, u "NONE"), (0, u "Lcom/example/stackwright/stackwright/Holdings$FairValueLevel;"), (0, .fieldref 1 8), (0, .nameAndType 9 6), (0, u "LEVEL_1"), (0, .fieldref 1 11), (0, .nameAndType 12 6), (0, u "LEVEL_2"), (0, .fieldref 1 14), (0, .nameAndType 15 6), (0, u "LEVEL_3"), (2, u "$VALUES"), (0, u "[Lcom/example/stackwright/stackwright/Holdings$FairValueLevel;"), (6, .class_ 28), (1, u "java/lang/Enum"), (6, .methodref 36 37), (0, .class_ 38), (0, .nameAndType 39 40), (0, u "java/lang/String"), (0, u "equals"), (0, u "(Ljava/lang/Object;)Z"), (0, .methodref 36 42), (0, .nameAndType 43 44), (0, u "hashCode"), (0, u "()I"), (0, .string 46), (0, u "1"), (0, .string 48), (0, u "2"), (0, .string 50), (0, u "3"), (16, u "read"), (0, u "(Ljava/lang/String;Ljava/lang/String;)Lcom/example/stackwright/stackwright/Holdings$FairValueLevel;"), (6, .class_ 76), (0, u "com/example/stackwright/stackwright/Holdings")] 2

def k9c0 : Code := { maxStack := 2, maxLocals := 5, code := prog_11_method_4_code, exceptionTable := #[], attributes := #[] }
def k9m0 : Method := { name := "read", desc := "(Ljava/lang/String;Ljava/lang/String;)Lcom/example/stackwright/stackwright/Holdings$FairValueLevel;", sig := { parameters := [(.object "java/lang/String"), (.object "java/lang/String")], returnType := some (.object "com/example/stackwright/stackwright/Holdings$FairValueLevel") }, accessFlags := 8, code := some k9c0 }
/-- com/example/stackwright/stackwright/Holdings$FairValueLevel -/
def k9 : Class := { plain "com/example/stackwright/stackwright/Holdings$FairValueLevel" (some 8) with
  accessFlags := 16433
  interfaces := #[]
  cf := some (fileOf pool9 1 #[.nestHost 75] #[{ accessFlags := 8, nameIndex := 67, descriptorIndex := 68, attributes := #[] }] 16433 26 #[] #[{ accessFlags := 16409, nameIndex := 5, descriptorIndex := 6, attributes := #[] }, { accessFlags := 16409, nameIndex := 9, descriptorIndex := 6, attributes := #[] }, { accessFlags := 16409, nameIndex := 12, descriptorIndex := 6, attributes := #[] }, { accessFlags := 16409, nameIndex := 15, descriptorIndex := 6, attributes := #[] }, { accessFlags := 4122, nameIndex := 18, descriptorIndex := 19, attributes := #[] }])
  fields := #[{ name := "NONE", type := (.object "com/example/stackwright/stackwright/Holdings$FairValueLevel"), accessFlags := 16409, slot := 0, constantValue := 0 }, { name := "LEVEL_1", type := (.object "com/example/stackwright/stackwright/Holdings$FairValueLevel"), accessFlags := 16409, slot := 1, constantValue := 0 }, { name := "LEVEL_2", type := (.object "com/example/stackwright/stackwright/Holdings$FairValueLevel"), accessFlags := 16409, slot := 2, constantValue := 0 }, { name := "LEVEL_3", type := (.object "com/example/stackwright/stackwright/Holdings$FairValueLevel"), accessFlags := 16409, slot := 3, constantValue := 0 }, { name := "$VALUES", type := (.array (.object "com/example/stackwright/stackwright/Holdings$FairValueLevel")), accessFlags := 4122, slot := 4, constantValue := 0 }]
  methods := #[k9m0]
  instanceTypes := #[(.object "java/lang/String"), .int, .int]
  staticTypes := #[(.object "com/example/stackwright/stackwright/Holdings$FairValueLevel"), (.object "com/example/stackwright/stackwright/Holdings$FairValueLevel"), (.object "com/example/stackwright/stackwright/Holdings$FairValueLevel"), (.object "com/example/stackwright/stackwright/Holdings$FairValueLevel"), (.array (.object "com/example/stackwright/stackwright/Holdings$FairValueLevel"))]
  resolved := Array.replicate 79 none
  statics := some 1 }

def pool10 : Array CpInfo := pool [(4, .class_ 6), (1, u "java/lang/Object"), (0, u "<init>"), (0, u "()V"), (5, .class_ 16), (1, u "java/lang/StringLatin1"), (28, .class_ 47), (1, u "jdk/internal/util/ArraysSupport"), (9, u "([B)I"), (26, .methodref 45 85), (0, .nameAndType 86 87), (0, u "vectorizedHashCode"), (0, u "(Ljava/lang/Object;IIII)I"), (33, u "$assertionsDisabled"), (0, u "Z"), (98, .class_ 223), (1, u "java/lang/StringLatin1$LinesSpliterator"), (57, u "equals"), (0, u "([B[B)Z"), (15, u "hashCode"), (91, .class_ 391), (0, u "java/lang/StringLatin1$CharsSpliterator")] 3

def k10m0 : Method := { name := "<init>", desc := "()V", sig := { parameters := [], returnType := none }, accessFlags := 0, code := none }
def k10c1 : Code := { maxStack := 3, maxLocals := 3, code := jdk_43_method_13_code, exceptionTable := #[], attributes := #[] }
def k10m1 : Method := { name := "equals", desc := "([B[B)Z", sig := { parameters := [(.array .byte), (.array .byte)], returnType := some .boolean }, accessFlags := 9, code := some k10c1 }
def k10c2 : Code := { maxStack := 5, maxLocals := 1, code := jdk_43_method_21_code, exceptionTable := #[], attributes := #[] }
def k10m2 : Method := { name := "hashCode", desc := "([B)I", sig := { parameters := [(.array .byte)], returnType := some .int }, accessFlags := 9, code := some k10c2 }
/-- java/lang/StringLatin1 -/
def k10 : Class := { plain "java/lang/StringLatin1" (some 0) with
  accessFlags := 48
  interfaces := #[]
  cf := some (fileOf pool10 14 #[.nestMembers #[390, 221]] #[{ accessFlags := 0, nameIndex := 7, descriptorIndex := 8, attributes := #[] }, { accessFlags := 9, nameIndex := 281, descriptorIndex := 282, attributes := #[] }, { accessFlags := 9, nameIndex := 298, descriptorIndex := 57, attributes := #[] }] 48 4 #[] #[{ accessFlags := 4120, nameIndex := 121, descriptorIndex := 122, attributes := #[] }])
  fields := #[{ name := "$assertionsDisabled", type := .boolean, accessFlags := 4120, slot := 0, constantValue := 0 }]
  methods := #[k10m0, k10m1, k10m2]
  instanceTypes := #[]
  staticTypes := #[.boolean]
  resolved := Array.replicate 395 none
  statics := none }

def pool11 : Array CpInfo := pool [(6, .class_ 8), (1, u "java/lang/Object"), (0, u "<init>"), (0, u "()V"), (1, .class_ 14), (1, u "java/lang/StringUTF16"), (31, u "$assertionsDisabled"), (0, u "Z"), (13, u "HI_BYTE_SHIFT"), (0, u "I"), (2, u "LO_BYTE_SHIFT"), (49, .methodref 12 116), (0, .nameAndType 117 118), (0, u "compress"), (0, u "([CI[BII)I"), (3, u "([CII)[B"), (138, u "coderFromArrayLen"), (0, u "([BI)B"), (106, .class_ 371), (1, u "java/lang/StringUTF16$LinesSpliterator"), (58, u "MAX_LENGTH"), (196, .class_ 628), (0, u "java/lang/StringUTF16$CodePointsSpliterator"), (0, .class_ 630), (0, u "java/lang/StringUTF16$CharsSpliterator")] 4

def k11m0 : Method := { name := "<init>", desc := "()V", sig := { parameters := [], returnType := none }, accessFlags := 0, code := none }
def k11c1 : Code := { maxStack := 2, maxLocals := 2, code := jdk_52_method_15_code, exceptionTable := #[], attributes := #[] }
def k11m1 : Method := { name := "coderFromArrayLen", desc := "([BI)B", sig := { parameters := [(.array .byte), .int], returnType := some .byte }, accessFlags := 8, code := some k11c1 }
def k11c2 : Code := { maxStack := 5, maxLocals := 6, code := jdk_52_method_16_code, exceptionTable := #[], attributes := #[] }
def k11m2 : Method := { name := "compress", desc := "([CII)[B", sig := { parameters := [(.array .char), .int, .int], returnType := some (.array .byte) }, accessFlags := 9, code := some k11c2 }
def k11c3 : Code := { maxStack := 3, maxLocals := 7, code := jdk_52_method_21_code, exceptionTable := #[], attributes := #[] }
def k11m3 : Method := { name := "compress", desc := "([CI[BII)I", sig := { parameters := [(.array .char), .int, (.array .byte), .int, .int], returnType := some .int }, accessFlags := 9, code := some k11c3 }
/-- java/lang/StringUTF16 -/
def k11 : Class := { plain "java/lang/StringUTF16" (some 0) with
  accessFlags := 48
  interfaces := #[]
  cf := some (fileOf pool11 12 #[.nestMembers #[627, 629, 369]] #[{ accessFlags := 0, nameIndex := 9, descriptorIndex := 10, attributes := #[] }, { accessFlags := 8, nameIndex := 261, descriptorIndex := 262, attributes := #[] }, { accessFlags := 9, nameIndex := 117, descriptorIndex := 122, attributes := #[] }, { accessFlags := 9, nameIndex := 117, descriptorIndex := 118, attributes := #[] }] 48 6 #[] #[{ accessFlags := 26, nameIndex := 61, descriptorIndex := 62, attributes := #[] }, { accessFlags := 26, nameIndex := 65, descriptorIndex := 62, attributes := #[] }, { accessFlags := 24, nameIndex := 430, descriptorIndex := 62, attributes := #[] }, { accessFlags := 4120, nameIndex := 46, descriptorIndex := 47, attributes := #[] }])
  fields := #[{ name := "HI_BYTE_SHIFT", type := .int, accessFlags := 26, slot := 0, constantValue := 0 }, { name := "LO_BYTE_SHIFT", type := .int, accessFlags := 26, slot := 1, constantValue := 0 }, { name := "MAX_LENGTH", type := .int, accessFlags := 24, slot := 2, constantValue := 0 }, { name := "$assertionsDisabled", type := .boolean, accessFlags := 4120, slot := 3, constantValue := 0 }]
  methods := #[k11m0, k11m1, k11m2, k11m3]
  instanceTypes := #[]
  staticTypes := #[.int, .int, .int, .boolean]
  resolved := Array.replicate 635 none
  statics := none }

def pool12 : Array CpInfo := pool [(9, u "<init>"), (6, .class_ 18), (1, u "java/lang/Object"), (0, u "()V"), (1, .class_ 23), (1, u "jdk/internal/util/ArraysSupport"), (0, u "LOG2_ARRAY_LONG_INDEX_SCALE"), (0, u "I"), (2, u "U"), (0, u "Ljdk/internal/misc/Unsafe;"), (8, u "BIG_ENDIAN"), (0, u "Z"), (8, u "LOG2_BYTE_BIT_SIZE"), (4, u "LOG2_ARRAY_INT_INDEX_SCALE"), (6, .class_ 61), (0, u "[B"), (0, .methodref 21 63), (0, .nameAndType 64 65), (0, u "signedHashCode"), (0, u "(I[BII)I"), (42, u "JLA"), (0, u "Ljdk/internal/access/JavaLangAccess;"), (11, u "LOG2_ARRAY_BOOLEAN_INDEX_SCALE"), (9, u "LOG2_ARRAY_BYTE_INDEX_SCALE"), (5, u "LOG2_ARRAY_CHAR_INDEX_SCALE"), (5, u "LOG2_ARRAY_SHORT_INDEX_SCALE"), (18, u "LOG2_ARRAY_FLOAT_INDEX_SCALE"), (24, u "LOG2_ARRAY_DOUBLE_INDEX_SCALE"), (89, u "T_BOOLEAN"), (2, u "T_CHAR"), (1, u "T_FLOAT"), (1, u "T_DOUBLE"), (1, u "T_BYTE"), (1, u "T_SHORT"), (1, u "T_INT"), (1, u "T_LONG"), (1, u "SOFT_MAX_ARRAY_LENGTH"), (26, u "vectorizedHashCode"), (0, u "(Ljava/lang/Object;IIII)I")] 55

def k12m0 : Method := { name := "<init>", desc := "()V", sig := { parameters := [], returnType := none }, accessFlags := 2, code := none }
def k12c1 : Code := { maxStack := 4, maxLocals := 5, code := jdk_48_method_4_code, exceptionTable := #[], attributes := #[] }
def k12m1 : Method := { name := "vectorizedHashCode", desc := "(Ljava/lang/Object;IIII)I", sig := { parameters := [(.object "java/lang/Object"), .int, .int, .int, .int], returnType := some .int }, accessFlags := 9, code := some k12c1 }
def k12c2 : Code := { maxStack := 3, maxLocals := 6, code := jdk_48_method_5_code, exceptionTable := #[], attributes := #[] }
def k12m2 : Method := { name := "signedHashCode", desc := "(I[BII)I", sig := { parameters := [.int, (.array .byte), .int, .int], returnType := some .int }, accessFlags := 10, code := some k12c2 }
/-- jdk/internal/util/ArraysSupport -/
def k12 : Class := { plain "jdk/internal/util/ArraysSupport" (some 0) with
  accessFlags := 33
  interfaces := #[]
  cf := some (fileOf pool12 21 #[] #[{ accessFlags := 2, nameIndex := 9, descriptorIndex := 19, attributes := #[] }, { accessFlags := 9, nameIndex := 321, descriptorIndex := 322, attributes := #[] }, { accessFlags := 10, nameIndex := 64, descriptorIndex := 65, attributes := #[] }] 33 16 #[] #[{ accessFlags := 24, nameIndex := 28, descriptorIndex := 29, attributes := #[] }, { accessFlags := 26, nameIndex := 38, descriptorIndex := 39, attributes := #[] }, { accessFlags := 25, nameIndex := 121, descriptorIndex := 25, attributes := #[] }, { accessFlags := 25, nameIndex := 131, descriptorIndex := 25, attributes := #[] }, { accessFlags := 25, nameIndex := 137, descriptorIndex := 25, attributes := #[] }, { accessFlags := 25, nameIndex := 143, descriptorIndex := 25, attributes := #[] }, { accessFlags := 25, nameIndex := 53, descriptorIndex := 25, attributes := #[] }, { accessFlags := 25, nameIndex := 24, descriptorIndex := 25, attributes := #[] }, { accessFlags := 25, nameIndex := 162, descriptorIndex := 25, attributes := #[] }, { accessFlags := 25, nameIndex := 187, descriptorIndex := 25, attributes := #[] }, { accessFlags := 26, nameIndex := 48, descriptorIndex := 25, attributes := #[] }, { accessFlags := 25, nameIndex := 277, descriptorIndex := 25, attributes := #[] }, { accessFlags := 25, nameIndex := 280, descriptorIndex := 25, attributes := #[] }, { accessFlags := 25, nameIndex := 282, descriptorIndex := 25, attributes := #[] }, { accessFlags := 25, nameIndex := 284, descriptorIndex := 25, attributes := #[] }, { accessFlags := 25, nameIndex := 286, descriptorIndex := 25, attributes := #[] }, { accessFlags := 25, nameIndex := 288, descriptorIndex := 25, attributes := #[] }, { accessFlags := 25, nameIndex := 290, descriptorIndex := 25, attributes := #[] }, { accessFlags := 25, nameIndex := 292, descriptorIndex := 25, attributes := #[] }, { accessFlags := 26, nameIndex := 108, descriptorIndex := 109, attributes := #[] }, { accessFlags := 25, nameIndex := 294, descriptorIndex := 25, attributes := #[] }])
  fields := #[{ name := "U", type := (.object "jdk/internal/misc/Unsafe"), accessFlags := 24, slot := 0, constantValue := 0 }, { name := "BIG_ENDIAN", type := .boolean, accessFlags := 26, slot := 1, constantValue := 0 }, { name := "LOG2_ARRAY_BOOLEAN_INDEX_SCALE", type := .int, accessFlags := 25, slot := 2, constantValue := 0 }, { name := "LOG2_ARRAY_BYTE_INDEX_SCALE", type := .int, accessFlags := 25, slot := 3, constantValue := 0 }, { name := "LOG2_ARRAY_CHAR_INDEX_SCALE", type := .int, accessFlags := 25, slot := 4, constantValue := 0 }, { name := "LOG2_ARRAY_SHORT_INDEX_SCALE", type := .int, accessFlags := 25, slot := 5, constantValue := 0 }, { name := "LOG2_ARRAY_INT_INDEX_SCALE", type := .int, accessFlags := 25, slot := 6, constantValue := 0 }, { name := "LOG2_ARRAY_LONG_INDEX_SCALE", type := .int, accessFlags := 25, slot := 7, constantValue := 0 }, { name := "LOG2_ARRAY_FLOAT_INDEX_SCALE", type := .int, accessFlags := 25, slot := 8, constantValue := 0 }, { name := "LOG2_ARRAY_DOUBLE_INDEX_SCALE", type := .int, accessFlags := 25, slot := 9, constantValue := 0 }, { name := "LOG2_BYTE_BIT_SIZE", type := .int, accessFlags := 26, slot := 10, constantValue := 0 }, { name := "T_BOOLEAN", type := .int, accessFlags := 25, slot := 11, constantValue := 0 }, { name := "T_CHAR", type := .int, accessFlags := 25, slot := 12, constantValue := 0 }, { name := "T_FLOAT", type := .int, accessFlags := 25, slot := 13, constantValue := 0 }, { name := "T_DOUBLE", type := .int, accessFlags := 25, slot := 14, constantValue := 0 }, { name := "T_BYTE", type := .int, accessFlags := 25, slot := 15, constantValue := 0 }, { name := "T_SHORT", type := .int, accessFlags := 25, slot := 16, constantValue := 0 }, { name := "T_INT", type := .int, accessFlags := 25, slot := 17, constantValue := 0 }, { name := "T_LONG", type := .int, accessFlags := 25, slot := 18, constantValue := 0 }, { name := "JLA", type := (.object "jdk/internal/access/JavaLangAccess"), accessFlags := 26, slot := 19, constantValue := 0 }, { name := "SOFT_MAX_ARRAY_LENGTH", type := .int, accessFlags := 25, slot := 20, constantValue := 0 }]
  methods := #[k12m0, k12m1, k12m2]
  instanceTypes := #[]
  staticTypes := #[(.object "jdk/internal/misc/Unsafe"), .boolean, .int, .int, .int, .int, .int, .int, .int, .int, .int, .int, .int, .int, .int, .int, .int, .int, .int, (.object "jdk/internal/access/JavaLangAccess"), .int]
  resolved := Array.replicate 378 none
  statics := none }

def pool13 : Array CpInfo := pool [(2, .class_ 4), (1, u "java/lang/Object"), (0, u "<init>"), (0, u "()V"), (17, .class_ 26), (1, u "jdk/internal/util/Preconditions"), (28, .class_ 56), (0, u "jdk/internal/util/Preconditions$4"), (57, .class_ 115), (0, u "jdk/internal/util/Preconditions$1"), (7, u "SIOOBE_FORMATTER"), (0, u "Ljava/util/function/BiFunction;"), (0, .class_ 126), (0, u "jdk/internal/util/Preconditions$2"), (3, u "AIOOBE_FORMATTER"), (0, .class_ 132), (0, u "jdk/internal/util/Preconditions$3"), (3, u "IOOBE_FORMATTER")] 57

def k13m0 : Method := { name := "<init>", desc := "()V", sig := { parameters := [], returnType := none }, accessFlags := 1, code := none }
/-- jdk/internal/util/Preconditions -/
def k13 : Class := { plain "jdk/internal/util/Preconditions" (some 0) with
  accessFlags := 33
  interfaces := #[]
  cf := some (fileOf pool13 24 #[.nestMembers #[55, 131, 125, 114]] #[{ accessFlags := 1, nameIndex := 5, descriptorIndex := 6, attributes := #[] }] 33 2 #[] #[{ accessFlags := 25, nameIndex := 123, descriptorIndex := 124, attributes := #[] }, { accessFlags := 25, nameIndex := 130, descriptorIndex := 124, attributes := #[] }, { accessFlags := 25, nameIndex := 136, descriptorIndex := 124, attributes := #[] }])
  fields := #[{ name := "SIOOBE_FORMATTER", type := (.object "java/util/function/BiFunction"), accessFlags := 25, slot := 0, constantValue := 0 }, { name := "AIOOBE_FORMATTER", type := (.object "java/util/function/BiFunction"), accessFlags := 25, slot := 1, constantValue := 0 }, { name := "IOOBE_FORMATTER", type := (.object "java/util/function/BiFunction"), accessFlags := 25, slot := 2, constantValue := 0 }]
  methods := #[k13m0]
  instanceTypes := #[]
  staticTypes := #[(.object "java/util/function/BiFunction"), (.object "java/util/function/BiFunction"), (.object "java/util/function/BiFunction")]
  resolved := Array.replicate 194 none
  statics := some 2 }

def pool14 : Array CpInfo := pool [(1, u "java/lang/Cloneable"), (0, .class_ 1), (0, u "java/lang/Object"), (0, .class_ 3)] 3

/-- java/lang/Cloneable -/
def k14 : Class := { plain "java/lang/Cloneable" (some 0) with
  accessFlags := 1537
  interfaces := #[]
  cf := some (fileOf pool14 2 #[] #[] 1537 4 #[] #[])
  fields := #[]
  methods := #[]
  instanceTypes := #[]
  staticTypes := #[]
  resolved := Array.replicate 8 none
  statics := none }

/-- the primitive byte -/
def k15 : Class := { plain "byte" none with kind := .primitive 'B', accessFlags := 0x411 }
/-- [B -/
def k16 : Class := { plain "[B" (some 0) with kind := .array 15 .byte, interfaces := #[14, 2], accessFlags := 1041 }

/-- the primitive char -/
def k17 : Class := { plain "char" none with kind := .primitive 'C', accessFlags := 0x411 }
/-- [C -/
def k18 : Class := { plain "[C" (some 0) with kind := .array 17 .char, interfaces := #[14, 2], accessFlags := 1041 }

/-- the primitive int -/
def k19 : Class := { plain "int" none with kind := .primitive 'I', accessFlags := 0x411 }
/-- [I -/
def k20 : Class := { plain "[I" (some 0) with kind := .array 19 .int, interfaces := #[14, 2], accessFlags := 1041 }

def heap : Heap := #[{ cls := 7, slots := #[.long 0, .int 1, .null, .int 0, .null, .int 0, .int 0], vm := .statics 7 },
  { cls := 9, slots := #[.ref 3, .ref 4, .ref 5, .ref 6, .null], vm := .statics 9 },
  { cls := 13, slots := #[.null, .null, .null], vm := .statics 13 },
  { cls := 9, slots := #[.null, .int 0, .int 0], vm := .none },
  { cls := 9, slots := #[.null, .int 1, .int 0], vm := .none },
  { cls := 9, slots := #[.null, .int 2, .int 0], vm := .none },
  { cls := 9, slots := #[.null, .int 3, .int 0], vm := .none }]
def classes : Array Class := #[k0, k1, k2, k3, k4, k5, k6, k7, k8, k9, k10, k11, k12, k13, k14, k15, k16, k17, k18, k19, k20]
def interned : List (Array UInt16 × Addr) := []
def slotsUsed : Nat := 27
def theMethod : MethodId := ⟨1, 3⟩
def args0 : Array Value := #[.int 397, .int 4, .int 0]
def aboutOver (below : List Frame) : State where
  vm := { classes := classes, interned := interned.toArray }
  heap := heap
  slotsUsed := slotsUsed
  threads := #[{ frames := .invoking theMethod args0 :: below }]
def below0 : List Frame := [.native { method := ⟨0, 0⟩, args := #[] }]
def about1 : State := aboutOver below0
def p0 : Program := .bare "" "" ""
def e0 : Env := launch0.env 0 0 0
theorem w_frames : about1.frames = Frame.invoking theMethod args0 :: below0 := rfl
set_option maxRecDepth 65536 in
theorem w_args : argsFit about1.vm theMethod args0 = true := by decide +kernel
set_option maxRecDepth 65536 in
theorem w_heap : heapFits about1 = true := by decide +kernel
set_option maxRecDepth 65536 in
theorem w_runnable : about1.curStatus? = some .runnable := by decide +kernel
set_option maxRecDepth 65536 in
theorem w_alone : about1.alone = true := by decide +kernel
set_option maxRecDepth 65536 in
theorem w_named : about1.methodNamed? x = some theMethod := by decide +kernel
set_option maxRecDepth 65536 in
theorem w_hears : about1.hears theMethod below0 = true := by decide +kernel
set_option maxRecDepth 65536 in
theorem w_ripe : about1.ripe theMethod args0 below0 = true := by decide +kernel
theorem w_running : about1.status = .running := rfl
set_option maxRecDepth 65536 in
theorem w_room : about1.hasRoom e0.platform room_1 = true :=
  launch0.hasRoom_least _ room_1 (by decide +kernel) (by decide +kernel) (by decide +kernel) (by decide +kernel) (by decide +kernel) (by decide +kernel)
theorem allAtoms_all (ts : List Jvm.Cond) (a : Array Jvm.Value) (st : Jvm.State) : (allAtoms ts).before a st = ts.all (fun c => c.before a st) := by
  induction ts with
  | nil => rfl
  | cons c t ih =>
    show (Jvm.Cond.and c (allAtoms t)).before a st = _
    rw [Jvm.Cond.before_and, ih, List.all_cons]
def words1 : List Jvm.Cond := Jvm.Cond.code x code maxLocals ret :: tables_1
/-- a 'code' word, met by the world's own term for the bytes: nothing is compared byte by byte -/
theorem code_word {y : MethodName} {bytes : ByteArray} {mx : Nat} {rt : Option FieldType} {a : Array Value} {s : State} {m : MethodId} {meth : Method} {c : Code} (h1 : s.methodNamed? y = some m) (h2 : s.vm.method? m = some meth) (h3 : meth.code = some c) (h4 : c.code = bytes)
    (h5 : (c.maxLocals == mx && c.exceptionTable.isEmpty && decide (c.maxStack ≤ mostOperands) && decide (meth.sig.returnType = rt) && !meth.locks && decide (parseMethodDescriptor y.desc = some meth.sig)) = true) : (Jvm.Cond.code y bytes mx rt).before a s = true := by
  simp only [Bool.and_eq_true, beq_iff_eq, Bool.not_eq_true', decide_eq_true_eq] at h5
  obtain ⟨⟨⟨⟨⟨g1, g2⟩, g3⟩, g4⟩, g5⟩, g6⟩ := h5
  simp [Cond.before, Cond.holds, Cond.value, h1, h2, h3, h4, g1, g2, g3, g4, g5, g6]
def isCode : Jvm.Cond → Bool
  | .code _ _ _ _ => true
  | _ => false
theorem all_split {L : List Jvm.Cond} {P : Jvm.Cond → Bool} (h1 : L.all (fun c => isCode c || P c) = true) (h2 : ∀ c ∈ L.filter isCode, P c = true) : L.all P = true := by
  refine List.all_eq_true.mpr fun c hc => ?_
  have h := List.all_eq_true.mp h1 c hc
  rcases Bool.eq_false_or_eq_true (isCode c) with hi | hi
  · exact h2 c (List.mem_filter.mpr ⟨hc, hi⟩)
  · simpa [hi] using h
set_option maxRecDepth 65536 in
theorem w_c0 : (Jvm.Cond.code x code maxLocals ret).before args0 about1 = true := code_word (m := ⟨1, 3⟩) (meth := k1m3) (c := k1c3) (by decide +kernel) rfl rfl rfl (by decide +kernel)
set_option maxRecDepth 65536 in
theorem w_c1 : (Jvm.Cond.code ({ cls := "com/example/stackwright/stackwright/FairValueLevelReadPinLaw", name := "pick", desc := "(I)C" } : Jvm.MethodName) method_2_code (1 : Nat) (Option.some Jvm.ClassFile.FieldType.char)).before args0 about1 = true := code_word (m := ⟨1, 1⟩) (meth := k1m1) (c := k1c1) (by decide +kernel) rfl rfl rfl (by decide +kernel)
set_option maxRecDepth 65536 in
theorem w_c2 : (Jvm.Cond.code ({ cls := "com/example/stackwright/stackwright/FairValueLevelReadPinLaw", name := "make", desc := "(ICC)Ljava/lang/String;" } : Jvm.MethodName) method_3_code (3 : Nat) (Option.some (Jvm.ClassFile.FieldType.object "java/lang/String"))).before args0 about1 = true := code_word (m := ⟨1, 2⟩) (meth := k1m2) (c := k1c2) (by decide +kernel) rfl rfl rfl (by decide +kernel)
set_option maxRecDepth 65536 in
theorem w_c3 : (Jvm.Cond.code ({ cls := "java/lang/String", name := "<init>", desc := "([C)V" } : Jvm.MethodName) jdk_42_method_3_code (2 : Nat) (Option.none : Option Jvm.ClassFile.FieldType)).before args0 about1 = true := code_word (m := ⟨7, 1⟩) (meth := k7m1) (c := k7c1) (by decide +kernel) rfl rfl rfl (by decide +kernel)
set_option maxRecDepth 65536 in
theorem w_c4 : (Jvm.Cond.code ({ cls := "java/lang/String", name := "<init>", desc := "([CIILjava/lang/Void;)V" } : Jvm.MethodName) jdk_42_method_149_code (6 : Nat) (Option.none : Option Jvm.ClassFile.FieldType)).before args0 about1 = true := code_word (m := ⟨7, 4⟩) (meth := k7m4) (c := k7c4) (by decide +kernel) rfl rfl rfl (by decide +kernel)
set_option maxRecDepth 65536 in
theorem w_c5 : (Jvm.Cond.code ({ cls := "java/lang/Object", name := "<init>", desc := "()V" } : Jvm.MethodName) object_method_1_code (1 : Nat) (Option.none : Option Jvm.ClassFile.FieldType)).before args0 about1 = true := code_word (m := ⟨0, 0⟩) (meth := k0m0) (c := k0c0) (by decide +kernel) rfl rfl rfl (by decide +kernel)
set_option maxRecDepth 65536 in
theorem w_c6 : (Jvm.Cond.code ({ cls := "com/example/stackwright/stackwright/Holdings$FairValueLevel", name := "read", desc := "(Ljava/lang/String;Ljava/lang/String;)Lcom/example/stackwright/stackwright/Holdings$FairValueLevel;" } : Jvm.MethodName) prog_11_method_4_code (5 : Nat) (Option.some (Jvm.ClassFile.FieldType.object "com/example/stackwright/stackwright/Holdings$FairValueLevel"))).before args0 about1 = true := code_word (m := ⟨9, 0⟩) (meth := k9m0) (c := k9c0) (by decide +kernel) rfl rfl rfl (by decide +kernel)
set_option maxRecDepth 65536 in
theorem w_c7 : (Jvm.Cond.code ({ cls := "java/lang/String", name := "equals", desc := "(Ljava/lang/Object;)Z" } : Jvm.MethodName) jdk_42_method_66_code (3 : Nat) (Option.some Jvm.ClassFile.FieldType.boolean)).before args0 about1 = true := code_word (m := ⟨7, 2⟩) (meth := k7m2) (c := k7c2) (by decide +kernel) rfl rfl rfl (by decide +kernel)
set_option maxRecDepth 65536 in
theorem w_c8 : (Jvm.Cond.code ({ cls := "java/lang/StringLatin1", name := "equals", desc := "([B[B)Z" } : Jvm.MethodName) jdk_43_method_13_code (3 : Nat) (Option.some Jvm.ClassFile.FieldType.boolean)).before args0 about1 = true := code_word (m := ⟨10, 1⟩) (meth := k10m1) (c := k10c1) (by decide +kernel) rfl rfl rfl (by decide +kernel)
set_option maxRecDepth 65536 in
theorem w_c9 : (Jvm.Cond.code ({ cls := "java/lang/StringUTF16", name := "compress", desc := "([CII)[B" } : Jvm.MethodName) jdk_52_method_16_code (6 : Nat) (Option.some (Jvm.ClassFile.FieldType.array Jvm.ClassFile.FieldType.byte))).before args0 about1 = true := code_word (m := ⟨11, 2⟩) (meth := k11m2) (c := k11c2) (by decide +kernel) rfl rfl rfl (by decide +kernel)
set_option maxRecDepth 65536 in
theorem w_c10 : (Jvm.Cond.code ({ cls := "java/lang/StringUTF16", name := "compress", desc := "([CI[BII)I" } : Jvm.MethodName) jdk_52_method_21_code (7 : Nat) (Option.some Jvm.ClassFile.FieldType.int)).before args0 about1 = true := code_word (m := ⟨11, 3⟩) (meth := k11m3) (c := k11c3) (by decide +kernel) rfl rfl rfl (by decide +kernel)
set_option maxRecDepth 65536 in
theorem w_c11 : (Jvm.Cond.code ({ cls := "java/lang/StringUTF16", name := "coderFromArrayLen", desc := "([BI)B" } : Jvm.MethodName) jdk_52_method_15_code (2 : Nat) (Option.some Jvm.ClassFile.FieldType.byte)).before args0 about1 = true := code_word (m := ⟨11, 1⟩) (meth := k11m1) (c := k11c1) (by decide +kernel) rfl rfl rfl (by decide +kernel)
set_option maxRecDepth 65536 in
theorem w_c12 : (Jvm.Cond.code ({ cls := "java/lang/String", name := "hashCode", desc := "()I" } : Jvm.MethodName) jdk_42_method_78_code (2 : Nat) (Option.some Jvm.ClassFile.FieldType.int)).before args0 about1 = true := code_word (m := ⟨7, 3⟩) (meth := k7m3) (c := k7c3) (by decide +kernel) rfl rfl rfl (by decide +kernel)
set_option maxRecDepth 65536 in
theorem w_c13 : (Jvm.Cond.code ({ cls := "java/lang/String", name := "isLatin1", desc := "()Z" } : Jvm.MethodName) jdk_42_method_154_code (1 : Nat) (Option.some Jvm.ClassFile.FieldType.boolean)).before args0 about1 = true := code_word (m := ⟨7, 5⟩) (meth := k7m5) (c := k7c5) (by decide +kernel) rfl rfl rfl (by decide +kernel)
set_option maxRecDepth 65536 in
theorem w_c14 : (Jvm.Cond.code ({ cls := "java/lang/StringLatin1", name := "hashCode", desc := "([B)I" } : Jvm.MethodName) jdk_43_method_21_code (1 : Nat) (Option.some Jvm.ClassFile.FieldType.int)).before args0 about1 = true := code_word (m := ⟨10, 2⟩) (meth := k10m2) (c := k10c2) (by decide +kernel) rfl rfl rfl (by decide +kernel)
set_option maxRecDepth 65536 in
theorem w_c15 : (Jvm.Cond.code ({ cls := "jdk/internal/util/ArraysSupport", name := "vectorizedHashCode", desc := "(Ljava/lang/Object;IIII)I" } : Jvm.MethodName) jdk_48_method_4_code (5 : Nat) (Option.some Jvm.ClassFile.FieldType.int)).before args0 about1 = true := code_word (m := ⟨12, 1⟩) (meth := k12m1) (c := k12c1) (by decide +kernel) rfl rfl rfl (by decide +kernel)
set_option maxRecDepth 65536 in
theorem w_c16 : (Jvm.Cond.code ({ cls := "jdk/internal/util/ArraysSupport", name := "signedHashCode", desc := "(I[BII)I" } : Jvm.MethodName) jdk_48_method_5_code (6 : Nat) (Option.some Jvm.ClassFile.FieldType.int)).before args0 about1 = true := code_word (m := ⟨12, 2⟩) (meth := k12m2) (c := k12c2) (by decide +kernel) rfl rfl rfl (by decide +kernel)
def codes1 : List Jvm.Cond := [Jvm.Cond.code x code maxLocals ret, Jvm.Cond.code ({ cls := "com/example/stackwright/stackwright/FairValueLevelReadPinLaw", name := "pick", desc := "(I)C" } : Jvm.MethodName) method_2_code (1 : Nat) (Option.some Jvm.ClassFile.FieldType.char), Jvm.Cond.code ({ cls := "com/example/stackwright/stackwright/FairValueLevelReadPinLaw", name := "make", desc := "(ICC)Ljava/lang/String;" } : Jvm.MethodName) method_3_code (3 : Nat) (Option.some (Jvm.ClassFile.FieldType.object "java/lang/String")), Jvm.Cond.code ({ cls := "java/lang/String", name := "<init>", desc := "([C)V" } : Jvm.MethodName) jdk_42_method_3_code (2 : Nat) (Option.none : Option Jvm.ClassFile.FieldType), Jvm.Cond.code ({ cls := "java/lang/String", name := "<init>", desc := "([CIILjava/lang/Void;)V" } : Jvm.MethodName) jdk_42_method_149_code (6 : Nat) (Option.none : Option Jvm.ClassFile.FieldType), Jvm.Cond.code ({ cls := "java/lang/Object", name := "<init>", desc := "()V" } : Jvm.MethodName) object_method_1_code (1 : Nat) (Option.none : Option Jvm.ClassFile.FieldType), Jvm.Cond.code ({ cls := "com/example/stackwright/stackwright/Holdings$FairValueLevel", name := "read", desc := "(Ljava/lang/String;Ljava/lang/String;)Lcom/example/stackwright/stackwright/Holdings$FairValueLevel;" } : Jvm.MethodName) prog_11_method_4_code (5 : Nat) (Option.some (Jvm.ClassFile.FieldType.object "com/example/stackwright/stackwright/Holdings$FairValueLevel")), Jvm.Cond.code ({ cls := "java/lang/String", name := "equals", desc := "(Ljava/lang/Object;)Z" } : Jvm.MethodName) jdk_42_method_66_code (3 : Nat) (Option.some Jvm.ClassFile.FieldType.boolean), Jvm.Cond.code ({ cls := "java/lang/StringLatin1", name := "equals", desc := "([B[B)Z" } : Jvm.MethodName) jdk_43_method_13_code (3 : Nat) (Option.some Jvm.ClassFile.FieldType.boolean), Jvm.Cond.code ({ cls := "java/lang/StringUTF16", name := "compress", desc := "([CII)[B" } : Jvm.MethodName) jdk_52_method_16_code (6 : Nat) (Option.some (Jvm.ClassFile.FieldType.array Jvm.ClassFile.FieldType.byte)), Jvm.Cond.code ({ cls := "java/lang/StringUTF16", name := "compress", desc := "([CI[BII)I" } : Jvm.MethodName) jdk_52_method_21_code (7 : Nat) (Option.some Jvm.ClassFile.FieldType.int), Jvm.Cond.code ({ cls := "java/lang/StringUTF16", name := "coderFromArrayLen", desc := "([BI)B" } : Jvm.MethodName) jdk_52_method_15_code (2 : Nat) (Option.some Jvm.ClassFile.FieldType.byte), Jvm.Cond.code ({ cls := "java/lang/String", name := "hashCode", desc := "()I" } : Jvm.MethodName) jdk_42_method_78_code (2 : Nat) (Option.some Jvm.ClassFile.FieldType.int), Jvm.Cond.code ({ cls := "java/lang/String", name := "isLatin1", desc := "()Z" } : Jvm.MethodName) jdk_42_method_154_code (1 : Nat) (Option.some Jvm.ClassFile.FieldType.boolean), Jvm.Cond.code ({ cls := "java/lang/StringLatin1", name := "hashCode", desc := "([B)I" } : Jvm.MethodName) jdk_43_method_21_code (1 : Nat) (Option.some Jvm.ClassFile.FieldType.int), Jvm.Cond.code ({ cls := "jdk/internal/util/ArraysSupport", name := "vectorizedHashCode", desc := "(Ljava/lang/Object;IIII)I" } : Jvm.MethodName) jdk_48_method_4_code (5 : Nat) (Option.some Jvm.ClassFile.FieldType.int), Jvm.Cond.code ({ cls := "jdk/internal/util/ArraysSupport", name := "signedHashCode", desc := "(I[BII)I" } : Jvm.MethodName) jdk_48_method_5_code (6 : Nat) (Option.some Jvm.ClassFile.FieldType.int)]
set_option maxRecDepth 65536 in
theorem codes_eq : words1.filter isCode = codes1 := rfl
theorem w_codes : ∀ c ∈ words1.filter isCode, c.before args0 about1 = true := by
  rw [codes_eq]
  intro c hc
  simp only [codes1, List.mem_cons, List.not_mem_nil, or_false] at hc
  rcases hc with rfl | rfl | rfl | rfl | rfl | rfl | rfl | rfl | rfl | rfl | rfl | rfl | rfl | rfl | rfl | rfl | rfl
  · exact w_c0
  · exact w_c1
  · exact w_c2
  · exact w_c3
  · exact w_c4
  · exact w_c5
  · exact w_c6
  · exact w_c7
  · exact w_c8
  · exact w_c9
  · exact w_c10
  · exact w_c11
  · exact w_c12
  · exact w_c13
  · exact w_c14
  · exact w_c15
  · exact w_c16
set_option maxRecDepth 65536 in
theorem w_t1 : (words1.take 24).all (fun c => isCode c || c.before args0 about1) = true := by decide +kernel
set_option maxRecDepth 65536 in
theorem w_t2 : ((words1.drop 24).take 24).all (fun c => isCode c || c.before args0 about1) = true := by decide +kernel
set_option maxRecDepth 65536 in
theorem w_t3 : (((words1.drop 24).drop 24).take 24).all (fun c => isCode c || c.before args0 about1) = true := by decide +kernel
set_option maxRecDepth 65536 in
theorem w_t4 : (((words1.drop 24).drop 24).drop 24).all (fun c => isCode c || c.before args0 about1) = true := by decide +kernel
theorem w_tables : (allAtoms (Jvm.Cond.code x code maxLocals ret :: tables_1)).before args0 about1 = true := by
  rw [allAtoms_all]
  show words1.all (fun c => c.before args0 about1) = true
  refine all_split ?_ w_codes
  rw [← List.take_append_drop 24 words1, List.all_append, w_t1, ← List.take_append_drop 24 (words1.drop 24), List.all_append, w_t2, ← List.take_append_drop 24 ((words1.drop 24).drop 24), List.all_append, w_t3, w_t4]
  rfl
set_option maxRecDepth 65536 in
theorem w_rest : rest_1_c.before args0 about1 = true := by decide +kernel
set_option maxRecDepth 65536 in
theorem w_case : (Jvm.Cond.and given_1 narrow_1).before args0 about1 = true := by decide +kernel
set_option maxRecDepth 65536 in
theorem w_consts : constsHeld consts_1 about1 := Jvm.Lit.constsHeldB_iff.mp (by decide +kernel)
theorem w_applies : (headSpec (Jvm.Cond.code x code maxLocals ret :: tables_1) room_1).applies x e0.platform about1 = true :=
  (Spec.applies_iff w_frames).mpr ⟨w_running, w_runnable, w_alone, w_named, w_hears, w_ripe, w_room, w_tables⟩
theorem atStart : AtStart classFile x code maxLocals ret World_1 tables_1 room_1 Calls_1 rest_1 Pre_1 launch0 p0 e0 about1 theMethod args0 below0 :=
  ⟨lists_1, trivial, launch0.admits_env _ _ _, launch0.least_env, fairChoices_fair.cas, fairChoices_fair.clock, w_frames, w_args, w_heap, w_applies, ⟨w_consts, trivial⟩, w_rest, w_case⟩
end start1
theorem witness_1 : WitnessClaimed_1 := ⟨start1.p0, start1.e0, start1.about1, start1.theMethod, start1.args0, start1.below0, start1.atStart⟩
end Jvm.Pilot.@@N@@
