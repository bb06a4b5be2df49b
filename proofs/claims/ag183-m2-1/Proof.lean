import JvmDerived
import JvmDerived.Pilot.@@N@@Statement
import JvmDerived.Pilot.@@N@@Code
set_option linter.unusedVariables false
set_option linter.unusedSimpArgs false
namespace Jvm.Pilot.@@N@@
open Jvm Jvm.ClassFile Sem Op Lib Jvm.Free Jvm.Stand Jvm.LawKit Jvm.RoadKit Bundle Jvm.Pilot.@@N@@.Jvm.D

/-- the run that stands at T with the top frame f ends, and its end is as P says -/
def Go (p : Program) (e : Env) (below : List Frame) (P : Outcome → State → Prop) (T : State) (f : JFrame) : Prop :=
  ∃ s₂ o, Steps p.tables e below (T.setTop f) s₂ ∧ s₂.status = .running ∧ Ended s₂ below o ∧ P o s₂
theorem Go.st {p : Program} {e : Env} {below : List Frame} {P : Outcome → State → Prop} {T T' : State} {f f' : JFrame}
    (h : ∀ t, Steps p.tables e below (T'.setTop f') t → Steps p.tables e below (T.setTop f) t) (k : Go p e below P T' f') : Go p e below P T f := by
  obtain ⟨s₂, o, a, b⟩ := k
  exact ⟨s₂, o, h _ a, b⟩
theorem Go.tr {p : Program} {e : Env} {below : List Frame} {P : Outcome → State → Prop} {T T' : State} {f f' : JFrame}
    (h : Steps p.tables e below (T.setTop f) (T'.setTop f')) (k : Go p e below P T' f') : Go p e below P T f := by
  obtain ⟨s₂, o, a, b⟩ := k
  exact ⟨s₂, o, h.trans a, b⟩
/-- what a contract says of the end -/
abbrev Done (s : State) (Q : Option Value → Heap → List Loc → Prop) (C S : Nat) (o : Outcome) (U' : State) : Prop :=
  ∃ v L, o = .returned v ∧ Q v U'.heap L ∧ FrameEnd s o U' L C S
theorem Go.ret {p : Program} {l : Launch} {e : Env} {R : Room} {s : State} {m : MethodId} {args : Array Value} {below : List Frame} {meth : Method} {c : Code} {T : State} {locs : List Loc} {cells slots : Nat} {h : Heap}
    {Q : Option Value → Heap → List Loc → Prop} {C S : Nat} {v : Option Value} {f : JFrame}
    (X : Stand p l e R s m args below meth c T locs cells slots) (hlk : meth.locks = false) (hv : meth.sig.returnType = none → v = none)
    (hs : ∀ fs, (∀ (f : JFrame) (acts : List Action), f.method = m → f.locked = none → f.entered = [] → (doReturn e (T.setTop f) acts v).1 = T.setFrames fs) → Steps p.tables e below (T.setTop f) (T.setFrames fs))
    (eT : T.heap = h) (hQ : Q v h locs) (hc : cells ≤ C) (hl : slots ≤ S) : Go p e below (Done s Q C S) T f := by
  obtain ⟨fs, hr, hrun, hended, hW, hsame⟩ := X.leave (v := v) hv hlk
  refine ⟨_, _, hs fs hr, hrun, hended, v, locs, rfl, ?_, ⟨_, rfl⟩, hW, hsame.mono hc hl⟩
  show Q v T.heap locs
  rw [eT]; exact hQ
theorem Go.retB {p : Program} {l : Launch} {e : Env} {R : Room} {s : State} {m : MethodId} {args : Array Value} {below : List Frame} {meth : Method} {c : Code} {T : State} {locs : List Loc} {cells slots : Nat} {h : Heap}
    {Q : Option Value → Heap → List Loc → Prop} {C S : Nat} {pc : Nat} {Ls : Array Slot} {z : Int32} {rest : List Value} {t : FieldType}
    (X : Stand p l e R s m args below meth c T locs cells slots) (hlk : meth.locks = false) (hx : p.tables.exec = Jvm.exec) (hret : meth.sig.returnType = some t) (ht : t = .boolean ∨ t = .byte ∨ t = .char ∨ t = .short)
    (hd : decode c.code pc = .ok (.ireturn, 1)) (eT : T.heap = h) (hQ : Q (some (.int (nar t z))) h locs) (hc : cells ≤ C) (hl : slots ≤ S) : Go p e below (Done s Q C S) T (mkF m pc Ls (.int z :: rest)) :=
  Go.ret X hlk (fun h => by rw [hret] at h; cases h) (fun _ hr => retN X hx hret ht hd hr) eT hQ hc hl
theorem Go.retV {p : Program} {l : Launch} {e : Env} {R : Room} {s : State} {m : MethodId} {args : Array Value} {below : List Frame} {meth : Method} {c : Code} {T : State} {locs : List Loc} {cells slots : Nat} {h : Heap}
    {Q : Option Value → Heap → List Loc → Prop} {C S : Nat} {pc : Nat} {Ls : Array Slot} {w : Value} {rest : List Value} {t : FieldType} {i : Instr}
    (X : Stand p l e R s m args below meth c T locs cells slots) (hlk : meth.locks = false) (hx : p.tables.exec = Jvm.exec) (hret : meth.sig.returnType = some t) (hn : narrow t w = w)
    (hi : (i = .ireturn ∧ (t = .int ∨ t = .boolean ∨ t = .byte ∨ t = .char ∨ t = .short) ∧ ∃ z, w = .int z) ∨ (i = .lreturn ∧ t = .long ∧ ∃ z, w = .long z) ∨ (i = .dreturn ∧ t = .double ∧ ∃ z, w = .double z) ∨ (i = .freturn ∧ t = .float ∧ ∃ z, w = .float z) ∨ (i = .areturn ∧ t.isReference = true ∧ w.isRef = true))
    (hd : decode c.code pc = .ok (i, 1)) (eT : T.heap = h) (hQ : Q (some w) h locs) (hc : cells ≤ C) (hl : slots ≤ S) : Go p e below (Done s Q C S) T (mkF m pc Ls (w :: rest)) :=
  Go.ret X hlk (fun h => by rw [hret] at h; cases h) (fun _ hr => retOut X hx hret hn hi hd hr) eT hQ hc hl
theorem Go.ret0 {p : Program} {l : Launch} {e : Env} {R : Room} {s : State} {m : MethodId} {args : Array Value} {below : List Frame} {meth : Method} {c : Code} {T : State} {locs : List Loc} {cells slots : Nat} {h : Heap}
    {Q : Option Value → Heap → List Loc → Prop} {C S : Nat} {pc : Nat} {Ls : Array Slot}
    (X : Stand p l e R s m args below meth c T locs cells slots) (hlk : meth.locks = false) (hx : p.tables.exec = Jvm.exec) (hret : meth.sig.returnType = none)
    (hd : decode c.code pc = .ok (.return_, 1)) (eT : T.heap = h) (hQ : Q none h locs) (hc : cells ≤ C) (hl : slots ≤ S) : Go p e below (Done s Q C S) T (mkF m pc Ls []) :=
  Go.ret X hlk (fun _ => rfl) (fun _ hr => X.returnOut hx hret hd hr) eT hQ hc hl
/-- an entry that stands resolved stays so, also where String constants are loaded -/
theorem own_fieldRef {Z : State} {vm1 : Vm} {a0 : Array Value} {own O n d : String} {index : Nat} (hW : Z.Warmed39 vm1) (w : (Cond.fieldRef own index O n d).before a0 Z = true) : (Cond.fieldRef own index O n d).before a0 (Z.setVm vm1) = true := by
  simp only [Cond.before, Cond.holds, Cond.value, State.vm_setVm, hW.alike.findClass, State.names_setVm hW.alike] at w ⊢
  cases q1 : Z.vm.findClass own with
  | none => rw [q1] at w; simp at w
  | some cO =>
    cases q2 : Z.fieldFound? O n d with
    | none => rw [q1, q2] at w; simp at w
    | some z =>
      obtain ⟨c1, k1, i1, f1⟩ := z
      obtain ⟨k2, q3, -⟩ := State.fieldFound?_setVm hW.alike q2
      rw [q1, q2] at w
      rw [q3]
      cases q4 : Z.resolvedAt? own index with
      | none => rw [q4] at w; simp at w
      | some r => rw [State.resolvedAt?_warmed39 hW q4]; rw [q4] at w; exact w
/-- getfield through an entry that stands resolved at the start (the word fieldRef) -/
theorem own_getR {p : Program} {l : Launch} {e : Env} {R : Room} {s : State} {m : MethodId} {args : Array Value} {below : List Frame} {meth : Method} {c : Code} {T : State} {locs : List Loc} {cells slots : Nat} {Z : State} {a0 : Array Value} {h : Heap}
    (X : Stand p l e R s m args below meth c T locs cells slots) (hx : p.tables.exec = Jvm.exec) (hZ : Z.Warmed39 s.vm) {own O n d : String} {index : Nat} (hown : s.vm.findClass own = some m.cls) (w : (Cond.fieldRef own index O n d).before a0 Z = true)
    (eT : T.heap = h) {a : Addr} {v : Value} (F : Fld Z h a O n d v) {g : JFrame} (hg : g.method = m) {rest : List Value} (hs : g.stack = .ref a :: rest) (hd : decode c.code g.pc = .ok (.getfield index, 3)) :
    ∃ T', Stand p l e R s m args below meth c T' locs cells slots ∧ T'.heap = h ∧ ∀ target, Steps p.tables e below (T'.setTop { g with pc := g.pc + 3, stack := v :: rest }) target → Steps p.tables e below (T.setTop g) target := by
  obtain ⟨cell, cf, k, i, f, h1, h2, h3, h4, -, -, h7⟩ := F
  have w1 : (Cond.fieldRef own index O n d).before args s = true := (own_fieldRef hZ w : (Cond.fieldRef own index O n d).before a0 (Z.setVm s.vm) = true)
  have w2 := Cond.fieldRef_warmed X.warmed w1
  obtain ⟨k1, r1, -⟩ := State.fieldFound?_setVm (s := Z) hZ.alike h2
  obtain ⟨k2, r2, -⟩ := State.fieldFound?_setVm (s := s) X.warmed.alike (show s.fieldFound? O n d = _ from r1)
  obtain ⟨c', k', i', f', q1, q2⟩ := Cond.fieldRef_spec (s := s.setVm T.vm) (cur := m.cls) (by rw [State.vm_setVm, X.warmed.alike.findClass]; exact hown) w2
  cases q1.symm.trans r2
  exact ⟨T, X, eT, fun target k => (X.getfieldR hx hg q2 h3 hs (by rw [eT]; exact h1) h4 h7 hd (Steps.refl _)).trans k⟩
/-- the form of every contract here -/
def Con (l : Launch) (Z : State) (y : MethodName) (bytes : ByteArray) (ml : Nat) (ret : Option FieldType) (ws : List Jvm.Cond) (room : Room) (A : Array Value) (h0 : Heap) (Q : Option Value → Heap → List Loc → Prop) : Prop :=
  MetFree l y (head1 (Jvm.Cond.code y bytes ml ret :: ws) room) (fun a U => a = A ∧ Z.Warmed39 U.vm ∧ U.heap = h0) (fun _ _ _ _ _ => True) (fun _ U o U' => ∃ v L, o = .returned v ∧ Q v U'.heap L ∧ FrameEnd U o U' L room.cells room.slots)
theorem own_body {l : Launch} {Z : State} {y : MethodName} {bytes : ByteArray} {ml : Nat} {ret : Option FieldType} {ws : List Jvm.Cond} {room : Room} {A : Array Value} {h0 : Heap} {Q : Option Value → Heap → List Loc → Prop} (hpn : plainFor y = true)
    (body : ∀ (p : Program) (e : Env) (s : State) (m : MethodId) (below : List Frame) (meth : Method) (c : Code) (s₁ : State), p.tables.exec = Jvm.exec → c.code = bytes → c.maxLocals = ml → Z.Warmed39 s.vm → s.vm.findClass y.cls = some m.cls → meth.name = y.name → meth.locks = false → meth.sig.returnType = ret →
      Stand p l e room s m A below meth c s₁ [] 0 0 → s₁.heap = h0 → Go p e below (Done s Q room.cells room.slots) s₁ (entryFrame m A ml)) : Con l Z y bytes ml ret ws room A h0 Q := by
  refine MetFree.of_bodySF hpn hisR ?_
  intro p e s m args below meth c s₁ Bd hml0 hP hK
  obtain ⟨rfl, hZ, hh⟩ := hP
  exact body p e s m below meth c s₁ Bd.exec Bd.bytes hml0 hZ (findClass_of_methodNamed Bd.named) (name_of_methodNamed Bd.named Bd.method).1 Bd.notSynchronized Bd.returns (Stand.of_body Bd) (by rw [← hh, Bd.state]; rfl)
theorem own_back {l : Launch} {R : Room} {p : Program} {e : Env} {below : List Frame} {s Z : State} {args a0 : Array Value} {h : Heap} {y : MethodName} {bytes : ByteArray} {maxL : Nat} {ret : Option FieldType} {rm : Room} {len W : Nat} {as' : Array Value} {Q : Option Value → Heap → List Loc → Prop}
    (hM : Con l Z y bytes maxL ret [] rm as' h Q) (hZ : Z.Warmed39 s.vm) (wc : (Cond.code y bytes maxL ret).before a0 Z = true) (wz : (Cond.initialized y.cls).before a0 Z = true) (hf : rm.frames + 1 ≤ R.frames) (hl : W + (maxL + 11) + rm.locals ≤ R.locals) :
    Back l R p e below s args y len W (fun A a => a = as' ∧ A.U.heap = h ∧ A.cells + rm.cells ≤ R.cells ∧ A.slots + rm.slots ≤ R.slots)
      (fun A _ v B => ∃ L, Q v B.U.heap L ∧ B.locs = A.locs ++ L ∧ B.cells = A.cells + rm.cells ∧ B.slots = A.slots + rm.slots) := backOf (Q := Q) hM hZ wc wz hf hl
theorem Con.weaken {l : Launch} {Z : State} {y : MethodName} {bytes : ByteArray} {ml : Nat} {ret : Option FieldType} {ws : List Jvm.Cond} {room : Room} {A : Array Value} {h0 : Heap} {Q Q' : Option Value → Heap → List Loc → Prop} (h : Con l Z y bytes ml ret ws room A h0 Q) (hq : ∀ v h L, Q v h L → Q' v h L) : Con l Z y bytes ml ret ws room A h0 Q' := fun p e h1 h2 h3 s m args below hf happ hP hK => by
  obtain ⟨n, o, a, b, c, v, L, d, e, f⟩ := h p e h1 h2 h3 s m args below hf happ hP hK
  exact ⟨n, o, a, b, c, v, L, d, hq _ _ _ e, f⟩
theorem own_cat {v : Value} (h : v.isRef = true) : v.category = 1 := by cases v <;> first | rfl | (simp [Value.isRef] at h)
theorem acYes {c : ClassFile.ACond} {x y : Value} (h : x = y) : acV c (decide (x = y)) = acV c true := by rw [decide_eq_true h]

theorem own_weaken {l : Launch} {x : MethodName} {S : Spec} {P : Array Value → State → Prop} {K : Program → Env → List Frame → State → Array Value → Prop} {Q Q' : Array Value → State → Outcome → State → Prop} (h : MetFree l x S P K Q) (hq : ∀ a s o t, Q a s o t → Q' a s o t) : MetFree l x S P K Q' := fun p e h1 h2 h3 s m args below hf happ hP hK => by
  obtain ⟨n, o, a, b, c, d⟩ := h p e h1 h2 h3 s m args below hf happ hP hK
  exact ⟨n, o, a, b, c, hq _ _ _ _ d⟩
section Start
variable {args : Array Value} {first s : State} {o : Option Outcome} {idx : List Nat} {t u : Term}
theorem own_eq_int {k : Int32} (h : (Jvm.Cond.eq t (.int k)).value args first o s idx = some true) : t.eval args first o idx s = some (.int k) := by
  simp only [Cond.value, Term.eval] at h
  cases ht : t.eval args first o idx s with
  | none => simp [ht] at h
  | some x => cases x <;> simp [ht] at h ⊢ <;> exact h
theorem own_eq_ref {a : Addr} (h : (Jvm.Cond.eq t u).value args first o s idx = some true) (hu : u.eval args first o idx s = some (.ref a)) : t.eval args first o idx s = some (.ref a) := by
  simp only [Cond.value] at h
  rw [hu] at h
  cases ht : t.eval args first o idx s with
  | none => simp [ht] at h
  | some x => cases x <;> simp [ht] at h ⊢ <;> exact h
theorem own_len {a : Addr} {cl : Cell} {z : Int32} (h : (Term.length t).eval args first o idx s = some (.int z)) (ht : t.eval args first o idx s = some (.ref a)) (hc : s.heap[a]? = some cl) : cl.slots.size < 2 ^ 31 ∧ cl.slots.size.toInt32 = z := by
  obtain ⟨a', cell, e1, e2, e3⟩ := Term.length_spec h
  cases ht.symm.trans e1
  have e4 := (State.arrayAt?_spec e2).1
  cases hc.symm.trans e4
  refine ⟨?_, (Value.int.inj e3).symm⟩
  by_cases hn : cl.slots.size < 2147483648
  · exact hn
  · simp only [Term.eval, Option.bind_eq_bind, ht, Option.bind_some, e2] at h
    rw [if_neg hn] at h; cases h
theorem own_ne_int {z : Int32} (h : (Jvm.Cond.not (Jvm.Cond.eq t (.int 0))).value args first o s idx = some true) (ht : t.eval args first o idx s = some (.int z)) : ¬ z = 0 := by
  have h1 := not_v h
  intro e
  subst e
  simp [Cond.value, Term.eval, ht] at h1
theorem own_fld {a : Addr} {C n d : String} {k : Int32} (h : (Jvm.Cond.eq (Term.field t C n d) (.int k)).value args s none s [] = some true) (ht : t.eval args s none [] s = some (.ref a)) : Fld s s.heap a C n d (.int k) :=
  Fld.start (by rw [← fld_at ht]; exact own_eq_int h)
theorem own_elem {a : Addr} {cl : Cell} {w : Addr} {j : Int32} {i : Nat} (h : (Jvm.Cond.eq (Term.elem t (.int j)) u).value args s none s [] = some true) (hu : u.eval args s none [] s = some (.ref w)) (ht : t.eval args s none [] s = some (.ref a)) (hc : s.heap[a]? = some cl) (hj : j.toNatClampNeg = i) : cl.slots[i]? = some (.ref w) := by
  subst hj
  exact (elem_in (own_eq_ref h hu) ht rfl hc).2
end Start

section Mirrors
variable {p : Program} {l : Launch} {e : Env} {R : Room} {s : State} {m : MethodId} {args : Array Value} {below : List Frame} {meth : Method} {c : Code} {T : State} {locs : List Loc} {cells slots : Nat} {Z : State} {a0 : Array Value} {h h' : Heap}
theorem own_mir (hZ : Z.Warmed39 s.vm) {C : String} {mr : Addr} (M : Mir Z C mr) : ∃ cc kc, s.vm.findClass C = some cc ∧ s.vm.classes[cc]? = some kc ∧ kc.mirror = some mr := by
  obtain ⟨cc, kc, m1, m2, m3, -⟩ := M
  obtain ⟨k', q, ek⟩ := hZ.alike.2.2 _ _ m2
  exact ⟨cc, k', by rw [hZ.alike.findClass]; exact m1, q, by rw [ek]; exact m3⟩
theorem own_gcV (X : Stand p l e R s m args below meth c T locs cells slots) (hx : p.tables.exec = Jvm.exec) (hZ : Z.Warmed39 s.vm) {own C : String} {index : Nat} (hown : s.vm.findClass own = some m.cls)
    (w1 : (Cond.methodLink own index Stand.gcN).before a0 Z = true) (w2 : (Cond.declares Stand.gcN).before a0 Z = true) (w4 : (Cond.selects C Stand.gcN Stand.gcN).before a0 Z = true) (w5 : (Cond.instanceMethod Stand.gcN).before a0 Z = true) (w6 : (Cond.native Stand.gcN).before a0 Z = true) (eT : T.heap = h) {a : Addr} (E : Exa Z h a C) {mr : Addr} (M : Mir Z C mr)
    {g : JFrame} (hg : g.method = m) (hsize : g.locals.size = c.maxLocals) {rest : List Value} (hs : g.stack = .ref a :: rest) (hd : decode c.code g.pc = .ok (.invokevirtual index, 3)) (hf : 1 ≤ R.frames) (hl : 2 * g.monitorRoom + (rest.map fun v => v.category).sum + (nativeFrameWords "java/lang/Object" "getClass" 1 + 11) ≤ R.locals) :
    ∃ T', Stand p l e R s m args below meth c T' locs cells slots ∧ T'.heap = h ∧ ∀ target, Steps p.tables e below (T'.setTop { g with pc := g.pc + 3, stack := .ref mr :: rest }) target → Steps p.tables e below (T.setTop g) target := by
  obtain ⟨cB, kB, i1, i2, i3⟩ := isOf hZ eT E
  obtain ⟨cc, kc, m1, m2, m3⟩ := own_mir hZ M
  cases i1.symm.trans m1
  obtain ⟨vm', X', st⟩ := X.getClassOf hx hown (mvT hZ w1) (mvT hZ w2) (notFace_of_selects (args := #[]) (mvT hZ w4)) (mvT hZ w4) (mvT hZ w5) (mvT hZ w6) m1 i3 m2 m3 hg hsize hs hd hf hl
  exact ⟨_, X', eT, st⟩
theorem own_mvI (hZ : Z.Warmed39 s.vm) {r o n d : String} (w : (Cond.interfaceMethod r o n d).before a0 Z = true) : (Cond.interfaceMethod r o n d).before args s = true := by
  have h1 : (Cond.interfaceMethod r o n d).before a0 (Z.setVm s.vm) = (Cond.interfaceMethod r o n d).before a0 Z := by
    simp only [Cond.before, Cond.holds, Cond.value, State.vm_setVm, hZ.alike.findClass, State.methodFound?_setVm hZ.alike, State.methodNamed?_setVm hZ.alike, arm_isInterface_setVm hZ.alike]
  have h2 := Cond.onTables_vm (A := a0) (A' := args) (U := Z) (U' := s) s.vm (Cond.interfaceMethod r o n d) rfl
  rw [h1, w] at h2
  exact h2.symm
theorem own_gcI (X : Stand p l e R s m args below meth c T locs cells slots) (hx : p.tables.exec = Jvm.exec) (hZ : Z.Warmed39 s.vm) {own C : String} {index count : Nat} {xi : MethodName} (hown : s.vm.findClass own = some m.cls)
    (w1 : (Cond.methodLink own index xi).before a0 Z = true) (w2 : (Cond.declares Stand.gcN).before a0 Z = true) (w3 : (Cond.interfaceMethod xi.cls "java/lang/Object" xi.name xi.desc).before a0 Z = true) (w4 : (Cond.selects C xi Stand.gcN).before a0 Z = true) (w5 : (Cond.instanceMethod Stand.gcN).before a0 Z = true) (w6 : (Cond.publicMethod Stand.gcN).before a0 Z = true)
    (w7 : (Cond.unhidden C xi.name xi.desc).before a0 Z = true) (w8 : (Cond.castable C xi.cls).before a0 Z = true) (w9 : (Cond.native Stand.gcN).before a0 Z = true) (n1 : xi.cls ≠ "java/lang/invoke/MethodHandle" ∧ xi.cls ≠ "java/lang/invoke/VarHandle") (n2 : xi.cls ≠ "java/lang/Object") (n3 : xi.name = "getClass") (n4 : xi.desc = "()Ljava/lang/Class;")
    (eT : T.heap = h) {a : Addr} (E : Exa Z h a C) {mr : Addr} (M : Mir Z C mr)
    {g : JFrame} (hg : g.method = m) (hsize : g.locals.size = c.maxLocals) {rest : List Value} (hs : g.stack = .ref a :: rest) (hd : decode c.code g.pc = .ok (.invokeinterface index count, 5)) (hf : 1 ≤ R.frames) (hl : 2 * g.monitorRoom + (rest.map fun v => v.category).sum + (nativeFrameWords "java/lang/Object" "getClass" 1 + 11) ≤ R.locals) :
    ∃ T', Stand p l e R s m args below meth c T' locs cells slots ∧ T'.heap = h ∧ ∀ target, Steps p.tables e below (T'.setTop { g with pc := g.pc + 5, stack := .ref mr :: rest }) target → Steps p.tables e below (T.setTop g) target := by
  obtain ⟨cB, kB, i1, i2, i3⟩ := isOf hZ eT E
  obtain ⟨cc, kc, m1, m2, m3⟩ := own_mir hZ M
  cases i1.symm.trans m1
  obtain ⟨vm', X', st⟩ := X.getClassOfI hx hown (mvT hZ w1) (mvT hZ w2) (own_mvI hZ w3) (mvT hZ w4) (mvT hZ w5) (mvT hZ w6) (mvT hZ w7) (mvT hZ w8) (mvT hZ w9) n1 n2 n3 n4 m1 m2 i3 m3 hg hsize hs hd hf hl
  exact ⟨_, X', eT, st⟩
theorem own_ldcM (X : Stand p l e R s m args below meth c T locs cells slots) (hx : p.tables.exec = Jvm.exec) (hZ : Z.Warmed39 s.vm) {own C : String} {index : Nat} (hown : s.vm.findClass own = some m.cls) (w1 : (Cond.classLink own index C).before a0 Z = true) (eT : T.heap = h) {mr : Addr} (M : Mir Z C mr)
    {g : JFrame} (hg : g.method = m) (hd : decode c.code g.pc = .ok (.ldc index, 2)) :
    ∃ T', Stand p l e R s m args below meth c T' locs cells slots ∧ T'.heap = h ∧ ∀ target, Steps p.tables e below (T'.setTop { g with pc := g.pc + 2, stack := .ref mr :: g.stack }) target → Steps p.tables e below (T.setTop g) target := by
  obtain ⟨cc, kc, m1, m2, m3⟩ := own_mir hZ M
  obtain ⟨vm', X', st⟩ := X.ldcMirror hx hown (mvT hZ w1) (show (Term.mirror C).eval args s none [] s = some (.ref mr) by simp [Term.eval, m1, m2, m3]) hg hd
  exact ⟨_, X', eT, st⟩
end Mirrors

/-- an array of n ints, of whatever values -/
def Ia (Z : State) (h : Heap) (a : Addr) (n : Int32) : Prop := ∃ c : Cell, Arr Z h a c .int ∧ c.slots.size = n.toNatClampNeg ∧ ¬ n < 0 ∧ ∀ j : Int32, ¬ (j < 0 ∨ c.slots.size ≤ j.toNatClampNeg) → ∃ v : Int32, c.slots[j.toNatClampNeg]? = some (.int v)
theorem Ia.ext {Z : State} {h h' : Heap} {a : Addr} {n : Int32} (F : Ia Z h a n) (E : Ext h h') : Ia Z h' a n := by obtain ⟨c, A, r⟩ := F; exact ⟨c, A.ext E, r⟩
theorem Ia.other {Z : State} {h h' : Heap} {a b : Addr} {n : Int32} {sl : Nat} {v : Value} (F : Ia Z h a n) (W : Wr h h' b sl v) (q : a ≠ b) : Ia Z h' a n := by obtain ⟨c, A, r⟩ := F; exact ⟨c, A.other W q, r⟩
theorem Ia.keep {Z : State} {h h' : Heap} {a : Addr} {n : Int32} {ws : List Addr} (F : Ia Z h a n) (K : Keep h h' ws) (q : a ∉ ws) : Ia Z h' a n := by obtain ⟨c, A, r⟩ := F; exact ⟨c, ⟨K.2.1 a c A.1 q, A.2⟩, r⟩
theorem Ia.lt {Z : State} {h : Heap} {a : Addr} {n : Int32} (F : Ia Z h a n) : a < h.size := by obtain ⟨c, A, r⟩ := F; exact A.lt
theorem Ia.new {Z : State} {h : Heap} {a : Addr} {n : Int32} {k : ClassId} (A : Arr Z h a (newA k .int n) .int) (q : ¬ n < 0) : Ia Z h a n := ⟨_, A, sz_new _ _ _, q, fun j hj => ⟨0, get_new (by rw [sz_new] at hj; exact hj)⟩⟩
theorem Ia.set {Z : State} {h h' : Heap} {a : Addr} {n j x : Int32} {c : Cell} (A : Arr Z h a c .int) (S : c.slots.size = n.toNatClampNeg) (q : ¬ n < 0) (H : ∀ j : Int32, ¬ (j < 0 ∨ c.slots.size ≤ j.toNatClampNeg) → ∃ v : Int32, c.slots[j.toNatClampNeg]? = some (.int v)) (hj : ¬ (j < 0 ∨ c.slots.size ≤ j.toNatClampNeg)) (W : Wr h h' a j.toNatClampNeg (.int x)) : Ia Z h' a n := by
  refine ⟨_, A.same W, by rw [sz_set]; exact S, q, fun i hi => ?_⟩
  rw [sz_set] at hi
  by_cases e : i = j
  · exact ⟨x, get_hit hj e⟩
  · obtain ⟨v, hv⟩ := H i hi
    exact ⟨v, by rw [get_miss (fun z => hj (Or.inl z)) (fun z => hi (Or.inl z)) e]; exact hv⟩

def World1 (Z : State) (mir_0 : Addr) (mir_1 : Addr) (mir_2 : Addr) (mir_3 : Addr) (w_EMPTY_ELEMENTDATA : Addr) (w_DEFAULTCAPACITY_EMPTY_ELEMENTDATA : Addr) (k_EMPTY_ELEMENTDATA : ClassId) (k_DEFAULTCAPACITY_EMPTY_ELEMENTDATA : ClassId) : Prop :=
  Mir Z "[Ljava/lang/Object;" mir_0 ∧
  Mir Z "java/util/ArrayList" mir_1 ∧
  Mir Z "java/util/Collections$UnmodifiableList" mir_2 ∧
  Mir Z "java/util/Collections$UnmodifiableRandomAccessList" mir_3 ∧
  Sta Z Z.heap "java/util/ArrayList" "EMPTY_ELEMENTDATA" "[Ljava/lang/Object;" (.ref w_EMPTY_ELEMENTDATA) ∧
  Exa Z Z.heap w_EMPTY_ELEMENTDATA "[Ljava/lang/Object;" ∧
  Sta Z Z.heap "java/util/ArrayList" "DEFAULTCAPACITY_EMPTY_ELEMENTDATA" "[Ljava/lang/Object;" (.ref w_DEFAULTCAPACITY_EMPTY_ELEMENTDATA) ∧
  Exa Z Z.heap w_DEFAULTCAPACITY_EMPTY_ELEMENTDATA "[Ljava/lang/Object;" ∧
  Arv Z Z.heap w_EMPTY_ELEMENTDATA k_EMPTY_ELEMENTDATA (Jvm.ClassFile.FieldType.object "java/lang/Object") (0 : Int32) [] .null ∧
  Arv Z Z.heap w_DEFAULTCAPACITY_EMPTY_ELEMENTDATA k_DEFAULTCAPACITY_EMPTY_ELEMENTDATA (Jvm.ClassFile.FieldType.object "java/lang/Object") (0 : Int32) [] .null
theorem pn_java_util_AbstractCollection : plainName "java/util/AbstractCollection" = true := by first | (simp [plainName, overriddenIn]; done) | decide +kernel
theorem d3_0 : decode jdk_22_method_1_code 0 = .ok (.aload_n 0, 1) := by decide +kernel
theorem d3_1 : decode jdk_22_method_1_code 1 = .ok (.invokespecial 1, 3) := by decide +kernel
theorem d3_4 : decode jdk_22_method_1_code 4 = .ok (.return_, 1) := by decide +kernel
set_option maxRecDepth 65536 in
set_option maxHeartbeats 40000000 in
theorem rmAC (l : Launch) (Z : State) (a0 : Array Value) (hw : ∀ d ∈ tables_1, d.before a0 Z = true) (ws : List Jvm.Cond) (a1 : Addr) (h0 : Heap) (n0 : Nat) (O0 : Old Z n0 h0)  :
    Con l Z (⟨"java/util/AbstractCollection", "<init>", "()V"⟩ : MethodName) jdk_22_method_1_code 1 none ws ({ frames := 1, cells := 0, slots := 0, locals := 12 } : Room) #[(.ref a1)] h0 (fun v h L => v = none ∧ Fr n0 L ∧ h = h0) := by
  refine own_body (plainFor_of_name pn_java_util_AbstractCollection) ?_
  intro p e s m below meth c s₁ hx hby hml hZ hown hnm hlk hret X0 e0
  have N0 := Fr.nil n0
  refine Go.st (T' := s₁) (f' := (mkF m 0 #[rv a1] [])) (fun _ k => castTop (by first | (simp [entryFrame, mkF, argsToLocals, Value.category]; done) | rfl) k) ?_
  refine Go.st (f' := (mkF m 1 #[rv a1] [(.ref a1)])) (fun _ k => XS.aloadN X0.here hx rfl (hb hby d3_0) rfl rfl k) ?_
  obtain ⟨T1, X1, e1, st1⟩ := initO X0 hx hZ hown (hw _ (List.mem_of_getElem? (i := 23) rfl)) (hw _ (List.mem_of_getElem? (i := 24) rfl)) (hw _ (List.mem_of_getElem? (i := 25) rfl)) e0 (g := (mkF m 1 #[rv a1] [(.ref a1)])) rfl (by rw [hml]; rfl) rfl (hb hby d3_1) (by decide) (W := 0) (by show 2 * 0 + _ ≤ _; exact Nat.le_of_eq rfl) (by decide)
  refine Go.st (f' := (mkF m 4 #[rv a1] [])) (fun _ k => st1 _ k) ?_
  refine Go.ret0 X1 hlk hx hret (hb hby d3_4) e1 ?_ (by decide) (by decide)
  exact ⟨rfl, N0, rfl⟩
theorem pn_java_util_AbstractList : plainName "java/util/AbstractList" = true := by first | (simp [plainName, overriddenIn]; done) | decide +kernel
theorem d2_0 : decode jdk_39_method_1_code 0 = .ok (.aload_n 0, 1) := by decide +kernel
theorem d2_1 : decode jdk_39_method_1_code 1 = .ok (.invokespecial 1, 3) := by decide +kernel
theorem pd___V : parseMethodDescriptor "()V" = some ⟨[], none⟩ := by decide +kernel
theorem d2_4 : decode jdk_39_method_1_code 4 = .ok (.aload_n 0, 1) := by decide +kernel
theorem d2_5 : decode jdk_39_method_1_code 5 = .ok (.iconst 0, 1) := by decide +kernel
theorem d2_6 : decode jdk_39_method_1_code 6 = .ok (.putfield 7, 3) := by decide +kernel
theorem d2_9 : decode jdk_39_method_1_code 9 = .ok (.return_, 1) := by decide +kernel
set_option maxRecDepth 65536 in
set_option maxHeartbeats 40000000 in
theorem rmAB (l : Launch) (Z : State) (a0 : Array Value) (hw : ∀ d ∈ tables_1, d.before a0 Z = true) (ws : List Jvm.Cond) (a1 : Addr) (h0 : Heap) (n0 : Nat) (O0 : Old Z n0 h0) (g_a1 : n0 ≤ a1) (E_a1 : Exa Z h0 a1 "java/util/ArrayList") (F_a1_modCount : Fld Z h0 a1 "java/util/AbstractList" "modCount" "I" (.int 0)) (F_a1_elementData : Fld Z h0 a1 "java/util/ArrayList" "elementData" "[Ljava/lang/Object;" .null) (F_a1_size : Fld Z h0 a1 "java/util/ArrayList" "size" "I" (.int 0)) :
    Con l Z (⟨"java/util/AbstractList", "<init>", "()V"⟩ : MethodName) jdk_39_method_1_code 1 none ws ({ frames := 2, cells := 0, slots := 0, locals := 24 } : Room) #[(.ref a1)] h0 (fun v h L => v = none ∧ Fr n0 L ∧ Keep h0 h [a1] ∧ Exa Z h a1 "java/util/ArrayList" ∧ Fld Z h a1 "java/util/AbstractList" "modCount" "I" (.int 0) ∧ Fld Z h a1 "java/util/ArrayList" "elementData" "[Ljava/lang/Object;" .null ∧ Fld Z h a1 "java/util/ArrayList" "size" "I" (.int 0)) := by
  refine own_body (plainFor_of_name pn_java_util_AbstractList) ?_
  intro p e s m below meth c s₁ hx hby hml hZ hown hnm hlk hret X0 e0
  have N0 := Fr.nil n0
  have K0 : Keep h0 h0 [a1] := Keep.refl _ _
  refine Go.st (T' := s₁) (f' := (mkF m 0 #[rv a1] [])) (fun _ k => castTop (by first | (simp [entryFrame, mkF, argsToLocals, Value.category]; done) | rfl) k) ?_
  have lt_a1 := E_a1.lt
  refine Go.st (f' := (mkF m 1 #[rv a1] [(.ref a1)])) (fun _ k => XS.aloadN X0.here hx rfl (hb hby d2_0) rfl rfl k) ?_
  obtain ⟨_, _, ⟨T1, L1, kk1, nn1⟩, -, X1, ⟨Lc1, hQ1, lq1, yq1, zz1⟩, st1⟩ := X0.specialBack hx (y := (⟨"java/util/AbstractCollection", "<init>", "()V"⟩ : MethodName)) rfl hown (mvT hZ (hw _ (List.mem_of_getElem? (i := 17) rfl))) (mvT hZ (hw _ (List.mem_of_getElem? (i := 18) rfl))) (mvT hZ (hw _ (List.mem_of_getElem? (i := 22) rfl))) (by decide) (own_back (W := 0) (rmAC l Z a0 hw [] a1 h0 n0 O0) hZ (hw _ (List.mem_of_getElem? (i := 22) rfl)) (hw _ (List.mem_of_getElem? (i := 21) rfl)) (by decide) (by decide)) (g := (mkF m 1 #[rv a1] [(.ref a1)])) rfl (by rw [hml]; rfl) (Steps.refl _) (a := a1) (argsL := []) (rest := []) (lenOf pd___V rfl) rfl (by show 2 * 0 + _ ≤ _; exact Nat.le_of_eq rfl) (hb hby d2_1) (fun _ _ => ⟨rfl, e0, (by decide : 0 + 0 ≤ _), (by decide : 0 + 0 ≤ _)⟩)
  dsimp only [Pt.U, Pt.locs, Pt.cells, Pt.slots] at X1 lq1 yq1 zz1 st1 hQ1
  subst lq1 yq1 zz1
  obtain ⟨rfl, Nq1, kq1⟩ := hQ1
  have N1 := Fr.app N0 Nq1
  refine Go.tr (f' := (mkF m 4 #[rv a1] [])) st1 ?_
  refine Go.st (f' := (mkF m 5 #[rv a1] [(.ref a1)])) (fun _ k => XS.aloadN X1.here hx rfl (hb hby d2_4) rfl rfl k) ?_
  refine Go.st (f' := (mkF m 6 #[rv a1] [(.int 0), (.ref a1)])) (fun _ k => XS.iconst X1.here hx rfl (hb hby d2_5) k) ?_
  obtain ⟨T2, h2, X2, e2, W2, st2⟩ := putF X1 hx hZ hown (host := "") (Or.inl (hw _ (List.mem_of_getElem? (i := 26) rfl))) Via.refl kq1 F_a1_modCount E_a1 (Or.inl (hw _ (List.mem_of_getElem? (i := 27) rfl))) (hw _ (List.mem_of_getElem? (i := 6) rfl)) (ty := .int) (by decide) rfl rfl (g := (mkF m 6 #[rv a1] [(.int 0), (.ref a1)])) rfl rfl (hb hby d2_6)
  have N2 := Fr.snoc X2 N1 g_a1
  have O2 : Old Z n0 h2 := O0.wr W2 g_a1
  have K2 : Keep h0 h2 [a1] := K0.wr W2 (Or.inl (List.mem_of_getElem? (i := 0) rfl))
  have Fw2 := F_a1_modCount.same W2
  refine Go.st (f' := (mkF m 9 #[rv a1] [])) (fun _ k => st2 _ k) ?_
  refine Go.ret0 X2 hlk hx hret (hb hby d2_9) e2 ?_ (by decide) (by decide)
  have ft3 := (E_a1.wr W2)
  have ft4 := (F_a1_elementData.other W2 (Or.inr (slot_ne (Or.inl (hw _ (List.mem_of_getElem? (i := 30) rfl))) (Or.inl (hw _ (List.mem_of_getElem? (i := 27) rfl))) (by decide) (t := (.array (.object "java/lang/Object"))) (t' := .int) (by decide) (by decide))))
  have ft5 := (F_a1_size.other W2 (Or.inr (slot_ne (Or.inl (hw _ (List.mem_of_getElem? (i := 72) rfl))) (Or.inl (hw _ (List.mem_of_getElem? (i := 27) rfl))) (by decide) (t := .int) (t' := .int) (by decide) (by decide))))
  exact ⟨rfl, N2, K2, ft3, Fw2, ft4, ft5⟩
theorem pn_java_util_ArrayList : plainName "java/util/ArrayList" = true := by first | (simp [plainName, overriddenIn]; done) | decide +kernel
theorem d1_0 : decode jdk_38_method_2_code 0 = .ok (.aload_n 0, 1) := by decide +kernel
theorem d1_1 : decode jdk_38_method_2_code 1 = .ok (.invokespecial 1, 3) := by decide +kernel
theorem d1_4 : decode jdk_38_method_2_code 4 = .ok (.aload_n 0, 1) := by decide +kernel
theorem d1_5 : decode jdk_38_method_2_code 5 = .ok (.getstatic 39, 3) := by decide +kernel
theorem d1_8 : decode jdk_38_method_2_code 8 = .ok (.putfield 9, 3) := by decide +kernel
theorem d1_11 : decode jdk_38_method_2_code 11 = .ok (.return_, 1) := by decide +kernel
set_option maxRecDepth 65536 in
set_option maxHeartbeats 40000000 in
theorem rmAL (l : Launch) (Z : State) (a0 : Array Value) (hw : ∀ d ∈ tables_1, d.before a0 Z = true) (ws : List Jvm.Cond) (a1 : Addr) (mir_0 : Addr) (mir_1 : Addr) (mir_2 : Addr) (mir_3 : Addr) (w_EMPTY_ELEMENTDATA : Addr) (w_DEFAULTCAPACITY_EMPTY_ELEMENTDATA : Addr) (k_EMPTY_ELEMENTDATA : ClassId) (k_DEFAULTCAPACITY_EMPTY_ELEMENTDATA : ClassId) (h0 : Heap) (n0 : Nat) (O0 : Old Z n0 h0) (g_a1 : n0 ≤ a1) (E_a1 : Exa Z h0 a1 "java/util/ArrayList") (F_a1_modCount : Fld Z h0 a1 "java/util/AbstractList" "modCount" "I" (.int 0)) (F_a1_elementData : Fld Z h0 a1 "java/util/ArrayList" "elementData" "[Ljava/lang/Object;" .null) (F_a1_size : Fld Z h0 a1 "java/util/ArrayList" "size" "I" (.int 0)) (WW : World1 Z mir_0 mir_1 mir_2 mir_3 w_EMPTY_ELEMENTDATA w_DEFAULTCAPACITY_EMPTY_ELEMENTDATA k_EMPTY_ELEMENTDATA k_DEFAULTCAPACITY_EMPTY_ELEMENTDATA) :
    Con l Z (⟨"java/util/ArrayList", "<init>", "()V"⟩ : MethodName) jdk_38_method_2_code 1 none ws ({ frames := 3, cells := 0, slots := 0, locals := 36 } : Room) #[(.ref a1)] h0 (fun v h L => v = none ∧ Fr n0 L ∧ Keep h0 h [a1] ∧ Exa Z h a1 "java/util/ArrayList" ∧ Fld Z h a1 "java/util/AbstractList" "modCount" "I" (.int 0) ∧ Fld Z h a1 "java/util/ArrayList" "elementData" "[Ljava/lang/Object;" (.ref w_DEFAULTCAPACITY_EMPTY_ELEMENTDATA) ∧ Fld Z h a1 "java/util/ArrayList" "size" "I" (.int 0)) := by
  refine own_body (plainFor_of_name pn_java_util_ArrayList) ?_
  intro p e s m below meth c s₁ hx hby hml hZ hown hnm hlk hret X0 e0
  have N0 := Fr.nil n0
  have K0 : Keep h0 h0 [a1] := Keep.refl _ _
  refine Go.st (T' := s₁) (f' := (mkF m 0 #[rv a1] [])) (fun _ k => castTop (by first | (simp [entryFrame, mkF, argsToLocals, Value.category]; done) | rfl) k) ?_
  have ⟨M_0, M_1, M_2, M_3, S_w_EMPTY_ELEMENTDATA, E_w_EMPTY_ELEMENTDATA, S_w_DEFAULTCAPACITY_EMPTY_ELEMENTDATA, E_w_DEFAULTCAPACITY_EMPTY_ELEMENTDATA, V_w_EMPTY_ELEMENTDATA, V_w_DEFAULTCAPACITY_EMPTY_ELEMENTDATA⟩ := WW
  have lt_w_EMPTY_ELEMENTDATA := E_w_EMPTY_ELEMENTDATA.lt
  have lt_w_DEFAULTCAPACITY_EMPTY_ELEMENTDATA := E_w_DEFAULTCAPACITY_EMPTY_ELEMENTDATA.lt
  have lt_a1 := E_a1.lt
  have ne_w_EMPTY_ELEMENTDATA_a1 : w_EMPTY_ELEMENTDATA ≠ a1 := O0.ne lt_w_EMPTY_ELEMENTDATA g_a1
  have ne_w_DEFAULTCAPACITY_EMPTY_ELEMENTDATA_a1 : w_DEFAULTCAPACITY_EMPTY_ELEMENTDATA ≠ a1 := O0.ne lt_w_DEFAULTCAPACITY_EMPTY_ELEMENTDATA g_a1
  refine Go.st (f' := (mkF m 1 #[rv a1] [(.ref a1)])) (fun _ k => XS.aloadN X0.here hx rfl (hb hby d1_0) rfl rfl k) ?_
  obtain ⟨_, _, ⟨T1, L1, kk1, nn1⟩, -, X1, ⟨Lc1, hQ1, lq1, yq1, zz1⟩, st1⟩ := X0.specialBack hx (y := (⟨"java/util/AbstractList", "<init>", "()V"⟩ : MethodName)) rfl hown (mvT hZ (hw _ (List.mem_of_getElem? (i := 11) rfl))) (mvT hZ (hw _ (List.mem_of_getElem? (i := 12) rfl))) (mvT hZ (hw _ (List.mem_of_getElem? (i := 16) rfl))) (by decide) (own_back (W := 0) (rmAB l Z a0 hw [] a1 h0 n0 O0 g_a1 E_a1 F_a1_modCount F_a1_elementData F_a1_size ) hZ (hw _ (List.mem_of_getElem? (i := 16) rfl)) (hw _ (List.mem_of_getElem? (i := 15) rfl)) (by decide) (by decide)) (g := (mkF m 1 #[rv a1] [(.ref a1)])) rfl (by rw [hml]; rfl) (Steps.refl _) (a := a1) (argsL := []) (rest := []) (lenOf pd___V rfl) rfl (by show 2 * 0 + _ ≤ _; exact Nat.le_of_eq rfl) (hb hby d1_1) (fun _ _ => ⟨rfl, e0, (by decide : 0 + 0 ≤ _), (by decide : 0 + 0 ≤ _)⟩)
  dsimp only [Pt.U, Pt.locs, Pt.cells, Pt.slots] at X1 lq1 yq1 zz1 st1 hQ1
  subst lq1 yq1 zz1
  obtain ⟨rfl, Nq1, kq1, eq1, fq1_0, fq1_1, fq1_2⟩ := hQ1
  have N1 := Fr.app N0 Nq1
  have O1 : Old Z n0 T1.heap := O0.keep kq1 (allS g_a1 all0)
  have K1 : Keep h0 T1.heap [a1] := K0.trans kq1 (allS (Or.inl (List.mem_of_getElem? (i := 0) rfl)) all0)
  refine Go.tr (f' := (mkF m 4 #[rv a1] [])) st1 ?_
  refine Go.st (f' := (mkF m 5 #[rv a1] [(.ref a1)])) (fun _ k => XS.aloadN X1.here hx rfl (hb hby d1_4) rfl rfl k) ?_
  obtain ⟨T2, X2, e2, st2⟩ := getS2 X1 hx hZ hown (host := "") (Or.inl (hw _ (List.mem_of_getElem? (i := 28) rfl))) Via.refl rfl (S_w_DEFAULTCAPACITY_EMPTY_ELEMENTDATA.ext O1.2) (g := (mkF m 5 #[rv a1] [(.ref a1)])) rfl (hb hby d1_5)
  refine Go.st (f' := (mkF m 8 #[rv a1] [(.ref w_DEFAULTCAPACITY_EMPTY_ELEMENTDATA), (.ref a1)])) (fun _ k => st2 _ k) ?_
  obtain ⟨T3, h3, X3, e3, W3, st3⟩ := putF X2 hx hZ hown (host := "") (Or.inl (hw _ (List.mem_of_getElem? (i := 29) rfl))) Via.refl e2 fq1_1 eq1 (Or.inl (hw _ (List.mem_of_getElem? (i := 30) rfl))) (hw _ (List.mem_of_getElem? (i := 6) rfl)) (ty := (.array (.object "java/lang/Object"))) (by decide) rfl rfl (g := (mkF m 8 #[rv a1] [(.ref w_DEFAULTCAPACITY_EMPTY_ELEMENTDATA), (.ref a1)])) rfl rfl (hb hby d1_8)
  have N3 := Fr.snoc X3 N1 g_a1
  have O3 : Old Z n0 h3 := O1.wr W3 g_a1
  have K3 : Keep h0 h3 [a1] := K1.wr W3 (Or.inl (List.mem_of_getElem? (i := 0) rfl))
  have Fw3 := fq1_1.same W3
  refine Go.st (f' := (mkF m 11 #[rv a1] [])) (fun _ k => st3 _ k) ?_
  refine Go.ret0 X3 hlk hx hret (hb hby d1_11) e3 ?_ (by decide) (by decide)
  have ft4 := (eq1.wr W3)
  have ft5 := (fq1_0.other W3 (Or.inr (slot_ne (Or.inl (hw _ (List.mem_of_getElem? (i := 27) rfl))) (Or.inl (hw _ (List.mem_of_getElem? (i := 30) rfl))) (by decide) (t := .int) (t' := (.array (.object "java/lang/Object"))) (by decide) (by decide))))
  have ft6 := (fq1_2.other W3 (Or.inr (slot_ne (Or.inl (hw _ (List.mem_of_getElem? (i := 72) rfl))) (Or.inl (hw _ (List.mem_of_getElem? (i := 30) rfl))) (by decide) (t := .int) (t' := (.array (.object "java/lang/Object"))) (by decide) (by decide))))
  exact ⟨rfl, N3, K3, ft4, ft5, Fw3, ft6⟩
theorem pn_java_util_ArrayList_Itr : plainName "java/util/ArrayList$Itr" = true := by first | (simp [plainName, overriddenIn]; done) | decide +kernel
theorem d7_0 : decode jdk_49_method_1_code 0 = .ok (.aload_n 0, 1) := by decide +kernel
theorem d7_1 : decode jdk_49_method_1_code 1 = .ok (.aload_n 1, 1) := by decide +kernel
theorem d7_2 : decode jdk_49_method_1_code 2 = .ok (.putfield 1, 3) := by decide +kernel
theorem d7_5 : decode jdk_49_method_1_code 5 = .ok (.aload_n 0, 1) := by decide +kernel
theorem d7_6 : decode jdk_49_method_1_code 6 = .ok (.invokespecial 7, 3) := by decide +kernel
theorem d7_9 : decode jdk_49_method_1_code 9 = .ok (.aload_n 0, 1) := by decide +kernel
theorem d7_10 : decode jdk_49_method_1_code 10 = .ok (.iconst (-1), 1) := by decide +kernel
theorem d7_11 : decode jdk_49_method_1_code 11 = .ok (.putfield 13, 3) := by decide +kernel
theorem d7_14 : decode jdk_49_method_1_code 14 = .ok (.aload_n 0, 1) := by decide +kernel
theorem d7_15 : decode jdk_49_method_1_code 15 = .ok (.aload_n 0, 1) := by decide +kernel
theorem d7_16 : decode jdk_49_method_1_code 16 = .ok (.getfield 1, 3) := by decide +kernel
theorem d7_19 : decode jdk_49_method_1_code 19 = .ok (.getfield 17, 3) := by decide +kernel
theorem d7_22 : decode jdk_49_method_1_code 22 = .ok (.putfield 22, 3) := by decide +kernel
theorem d7_25 : decode jdk_49_method_1_code 25 = .ok (.return_, 1) := by decide +kernel
set_option maxRecDepth 65536 in
set_option maxHeartbeats 40000000 in
theorem rmIi (l : Launch) (Z : State) (a0 : Array Value) (hw : ∀ d ∈ tables_1, d.before a0 Z = true) (ws : List Jvm.Cond) (a1 : Addr) (a2 : Addr) (h0 : Heap) (n0 : Nat) (O0 : Old Z n0 h0) (g_a1 : n0 ≤ a1) (E_a1 : Exa Z h0 a1 "java/util/ArrayList$Itr") (F_a1_this_0 : Fld Z h0 a1 "java/util/ArrayList$Itr" "this$0" "Ljava/util/ArrayList;" .null) (F_a1_lastRet : Fld Z h0 a1 "java/util/ArrayList$Itr" "lastRet" "I" (.int 0)) (F_a1_expectedModCount : Fld Z h0 a1 "java/util/ArrayList$Itr" "expectedModCount" "I" (.int 0)) (F_a1_cursor : Fld Z h0 a1 "java/util/ArrayList$Itr" "cursor" "I" (.int 0)) (ne12 : a1 ≠ a2) (E_a2 : Exa Z h0 a2 "java/util/ArrayList") (F_a2_modCount : Fld Z h0 a2 "java/util/AbstractList" "modCount" "I" (.int 0)) (F_a2_elementData : Fld Z h0 a2 "java/util/ArrayList" "elementData" "[Ljava/lang/Object;" (.ref w_DEFAULTCAPACITY_EMPTY_ELEMENTDATA)) (F_a2_size : Fld Z h0 a2 "java/util/ArrayList" "size" "I" (.int 0)) :
    Con l Z (⟨"java/util/ArrayList$Itr", "<init>", "(Ljava/util/ArrayList;)V"⟩ : MethodName) jdk_49_method_1_code 2 none ws ({ frames := 1, cells := 0, slots := 0, locals := 12 } : Room) #[(.ref a1), (.ref a2)] h0 (fun v h L => v = none ∧ Fr n0 L ∧ Keep h0 h [a1] ∧ Exa Z h a1 "java/util/ArrayList$Itr" ∧ Fld Z h a1 "java/util/ArrayList$Itr" "this$0" "Ljava/util/ArrayList;" (.ref a2) ∧ Fld Z h a1 "java/util/ArrayList$Itr" "lastRet" "I" (.int (-1)) ∧ Fld Z h a1 "java/util/ArrayList$Itr" "expectedModCount" "I" (.int 0) ∧ Fld Z h a1 "java/util/ArrayList$Itr" "cursor" "I" (.int 0)) := by
  refine own_body (plainFor_of_name pn_java_util_ArrayList_Itr) ?_
  intro p e s m below meth c s₁ hx hby hml hZ hown hnm hlk hret X0 e0
  have N0 := Fr.nil n0
  have K0 : Keep h0 h0 [a1] := Keep.refl _ _
  refine Go.st (T' := s₁) (f' := (mkF m 0 #[rv a1, rv a2] [])) (fun _ k => castTop (by first | (simp [entryFrame, mkF, argsToLocals, Value.category]; done) | rfl) k) ?_
  have lt_a2 := E_a2.lt
  have lt_a1 := E_a1.lt
  refine Go.st (f' := (mkF m 1 #[rv a1, rv a2] [(.ref a1)])) (fun _ k => XS.aloadN X0.here hx rfl (hb hby d7_0) rfl rfl k) ?_
  refine Go.st (f' := (mkF m 2 #[rv a1, rv a2] [(.ref a2), (.ref a1)])) (fun _ k => XS.aloadN X0.here hx rfl (hb hby d7_1) rfl rfl k) ?_
  obtain ⟨T1, h1, X1, e1, W1, st1⟩ := putF X0 hx hZ hown (host := "") (Or.inl (hw _ (List.mem_of_getElem? (i := 51) rfl))) Via.refl e0 F_a1_this_0 E_a1 (Or.inr ⟨(hw _ (List.mem_of_getElem? (i := 52) rfl)), rfl, hnm⟩) (hw _ (List.mem_of_getElem? (i := 45) rfl)) (ty := (.object "java/util/ArrayList")) (by decide) rfl rfl (g := (mkF m 2 #[rv a1, rv a2] [(.ref a2), (.ref a1)])) rfl rfl (hb hby d7_2)
  have N1 := Fr.snoc X1 N0 g_a1
  have O1 : Old Z n0 h1 := O0.wr W1 g_a1
  have K1 : Keep h0 h1 [a1] := K0.wr W1 (Or.inl (List.mem_of_getElem? (i := 0) rfl))
  have Fw1 := F_a1_this_0.same W1
  refine Go.st (f' := (mkF m 5 #[rv a1, rv a2] [])) (fun _ k => st1 _ k) ?_
  refine Go.st (f' := (mkF m 6 #[rv a1, rv a2] [(.ref a1)])) (fun _ k => XS.aloadN X1.here hx rfl (hb hby d7_5) rfl rfl k) ?_
  obtain ⟨T2, X2, e2, st2⟩ := initO X1 hx hZ hown (hw _ (List.mem_of_getElem? (i := 53) rfl)) (hw _ (List.mem_of_getElem? (i := 24) rfl)) (hw _ (List.mem_of_getElem? (i := 25) rfl)) e1 (g := (mkF m 6 #[rv a1, rv a2] [(.ref a1)])) rfl (by rw [hml]; rfl) rfl (hb hby d7_6) (by decide) (W := 0) (by show 2 * 0 + _ ≤ _; exact Nat.le_of_eq rfl) (by decide)
  refine Go.st (f' := (mkF m 9 #[rv a1, rv a2] [])) (fun _ k => st2 _ k) ?_
  refine Go.st (f' := (mkF m 10 #[rv a1, rv a2] [(.ref a1)])) (fun _ k => XS.aloadN X2.here hx rfl (hb hby d7_9) rfl rfl k) ?_
  refine Go.st (f' := (mkF m 11 #[rv a1, rv a2] [(.int (-1)), (.ref a1)])) (fun _ k => XS.iconst X2.here hx rfl (hb hby d7_10) k) ?_
  have ft3 := (E_a1.wr W1)
  have ft4 := (F_a1_lastRet.other W1 (Or.inr (slot_ne (Or.inl (hw _ (List.mem_of_getElem? (i := 55) rfl))) (Or.inr (hw _ (List.mem_of_getElem? (i := 52) rfl))) (by decide) (t := .int) (t' := (.object "java/util/ArrayList")) (by decide) (by decide))))
  obtain ⟨T5, h5, X5, e5, W5, st5⟩ := putF X2 hx hZ hown (host := "") (Or.inl (hw _ (List.mem_of_getElem? (i := 54) rfl))) Via.refl e2 ft4 ft3 (Or.inl (hw _ (List.mem_of_getElem? (i := 55) rfl))) (hw _ (List.mem_of_getElem? (i := 45) rfl)) (ty := .int) (by decide) rfl rfl (g := (mkF m 11 #[rv a1, rv a2] [(.int (-1)), (.ref a1)])) rfl rfl (hb hby d7_11)
  have N5 := Fr.snoc X5 N1 g_a1
  have O5 : Old Z n0 h5 := O1.wr W5 g_a1
  have K5 : Keep h0 h5 [a1] := K1.wr W5 (Or.inl (List.mem_of_getElem? (i := 0) rfl))
  have Fw5 := ft4.same W5
  refine Go.st (f' := (mkF m 14 #[rv a1, rv a2] [])) (fun _ k => st5 _ k) ?_
  refine Go.st (f' := (mkF m 15 #[rv a1, rv a2] [(.ref a1)])) (fun _ k => XS.aloadN X5.here hx rfl (hb hby d7_14) rfl rfl k) ?_
  refine Go.st (f' := (mkF m 16 #[rv a1, rv a2] [(.ref a1), (.ref a1)])) (fun _ k => XS.aloadN X5.here hx rfl (hb hby d7_15) rfl rfl k) ?_
  have ft6 := (Fw1.other W5 (Or.inr (slot_ne (Or.inr (hw _ (List.mem_of_getElem? (i := 52) rfl))) (Or.inl (hw _ (List.mem_of_getElem? (i := 55) rfl))) (by decide) (t := (.object "java/util/ArrayList")) (t' := .int) (by decide) (by decide))))
  obtain ⟨T7, X7, e7, st7⟩ := getF X5 hx hZ hown (host := "") (Or.inl (hw _ (List.mem_of_getElem? (i := 51) rfl))) Via.refl e5 ft6 (g := (mkF m 16 #[rv a1, rv a2] [(.ref a1), (.ref a1)])) rfl rfl (hb hby d7_16)
  refine Go.st (f' := (mkF m 19 #[rv a1, rv a2] [(.ref a2), (.ref a1)])) (fun _ k => st7 _ k) ?_
  have ft8 := ((F_a2_modCount.other W1 (Or.inl (Ne.symm ne12))).other W5 (Or.inl (Ne.symm ne12)))
  obtain ⟨T9, X9, e9, st9⟩ := getF X7 hx hZ hown (host := "") (Or.inl (hw _ (List.mem_of_getElem? (i := 56) rfl))) (Via.of (hw _ (List.mem_of_getElem? (i := 57) rfl))) e7 ft8 (g := (mkF m 19 #[rv a1, rv a2] [(.ref a2), (.ref a1)])) rfl rfl (hb hby d7_19)
  refine Go.st (f' := (mkF m 22 #[rv a1, rv a2] [(.int 0), (.ref a1)])) (fun _ k => st9 _ k) ?_
  have ft10 := (ft3.wr W5)
  have ft11 := ((F_a1_expectedModCount.other W1 (Or.inr (slot_ne (Or.inl (hw _ (List.mem_of_getElem? (i := 59) rfl))) (Or.inr (hw _ (List.mem_of_getElem? (i := 52) rfl))) (by decide) (t := .int) (t' := (.object "java/util/ArrayList")) (by decide) (by decide)))).other W5 (Or.inr (slot_ne (Or.inl (hw _ (List.mem_of_getElem? (i := 59) rfl))) (Or.inl (hw _ (List.mem_of_getElem? (i := 55) rfl))) (by decide) (t := .int) (t' := .int) (by decide) (by decide))))
  obtain ⟨T12, h12, X12, e12, W12, st12⟩ := putF X9 hx hZ hown (host := "") (Or.inl (hw _ (List.mem_of_getElem? (i := 58) rfl))) Via.refl e9 ft11 ft10 (Or.inl (hw _ (List.mem_of_getElem? (i := 59) rfl))) (hw _ (List.mem_of_getElem? (i := 45) rfl)) (ty := .int) (by decide) rfl rfl (g := (mkF m 22 #[rv a1, rv a2] [(.int 0), (.ref a1)])) rfl rfl (hb hby d7_22)
  have N12 := Fr.snoc X12 N5 g_a1
  have O12 : Old Z n0 h12 := O5.wr W12 g_a1
  have K12 : Keep h0 h12 [a1] := K5.wr W12 (Or.inl (List.mem_of_getElem? (i := 0) rfl))
  have Fw12 := ft11.same W12
  refine Go.st (f' := (mkF m 25 #[rv a1, rv a2] [])) (fun _ k => st12 _ k) ?_
  refine Go.ret0 X12 hlk hx hret (hb hby d7_25) e12 ?_ (by decide) (by decide)
  have ft13 := (ft10.wr W12)
  have ft14 := (ft6.other W12 (Or.inr (slot_ne (Or.inr (hw _ (List.mem_of_getElem? (i := 52) rfl))) (Or.inl (hw _ (List.mem_of_getElem? (i := 59) rfl))) (by decide) (t := (.object "java/util/ArrayList")) (t' := .int) (by decide) (by decide))))
  have ft15 := (Fw5.other W12 (Or.inr (slot_ne (Or.inl (hw _ (List.mem_of_getElem? (i := 55) rfl))) (Or.inl (hw _ (List.mem_of_getElem? (i := 59) rfl))) (by decide) (t := .int) (t' := .int) (by decide) (by decide))))
  have ft16 := (((F_a1_cursor.other W1 (Or.inr (slot_ne (Or.inl (hw _ (List.mem_of_getElem? (i := 70) rfl))) (Or.inr (hw _ (List.mem_of_getElem? (i := 52) rfl))) (by decide) (t := .int) (t' := (.object "java/util/ArrayList")) (by decide) (by decide)))).other W5 (Or.inr (slot_ne (Or.inl (hw _ (List.mem_of_getElem? (i := 70) rfl))) (Or.inl (hw _ (List.mem_of_getElem? (i := 55) rfl))) (by decide) (t := .int) (t' := .int) (by decide) (by decide)))).other W12 (Or.inr (slot_ne (Or.inl (hw _ (List.mem_of_getElem? (i := 70) rfl))) (Or.inl (hw _ (List.mem_of_getElem? (i := 59) rfl))) (by decide) (t := .int) (t' := .int) (by decide) (by decide))))
  exact ⟨rfl, N12, K12, ft13, ft14, ft15, Fw12, ft16⟩
theorem d6_0 : decode jdk_38_method_55_code 0 = .ok (.new 267, 3) := by decide +kernel
theorem d6_3 : decode jdk_38_method_55_code 3 = .ok (.dup, 1) := by decide +kernel
theorem d6_4 : decode jdk_38_method_55_code 4 = .ok (.aload_n 0, 1) := by decide +kernel
theorem d6_5 : decode jdk_38_method_55_code 5 = .ok (.invokespecial 269, 3) := by decide +kernel
theorem pd__Ljava_util_ArrayList__V : parseMethodDescriptor "(Ljava/util/ArrayList;)V" = some ⟨[(.object "java/util/ArrayList")], none⟩ := by decide +kernel
theorem d6_8 : decode jdk_38_method_55_code 8 = .ok (.areturn, 1) := by decide +kernel
set_option maxRecDepth 65536 in
set_option maxHeartbeats 40000000 in
theorem rmIt (l : Launch) (Z : State) (a0 : Array Value) (hw : ∀ d ∈ tables_1, d.before a0 Z = true) (ws : List Jvm.Cond) (a2 : Addr) (h0 : Heap) (n0 : Nat) (O0 : Old Z n0 h0) (E_a2 : Exa Z h0 a2 "java/util/ArrayList") (F_a2_modCount : Fld Z h0 a2 "java/util/AbstractList" "modCount" "I" (.int 0)) (F_a2_elementData : Fld Z h0 a2 "java/util/ArrayList" "elementData" "[Ljava/lang/Object;" (.ref w_DEFAULTCAPACITY_EMPTY_ELEMENTDATA)) (F_a2_size : Fld Z h0 a2 "java/util/ArrayList" "size" "I" (.int 0)) :
    Con l Z (⟨"java/util/ArrayList", "iterator", "()Ljava/util/Iterator;"⟩ : MethodName) jdk_38_method_55_code 1 (some (.object "java/util/Iterator")) ws ({ frames := 2, cells := 1, slots := 4, locals := 26 } : Room) #[(.ref a2)] h0 (fun v h L => ∃ b : Addr, v = some (.ref b) ∧ Fr n0 L ∧ h0.size ≤ b ∧ Keep h0 h [] ∧ Exa Z h b "java/util/ArrayList$Itr" ∧ Fld Z h b "java/util/ArrayList$Itr" "this$0" "Ljava/util/ArrayList;" (.ref a2) ∧ Fld Z h b "java/util/ArrayList$Itr" "cursor" "I" (.int 0)) := by
  refine own_body (plainFor_of_name pn_java_util_ArrayList) ?_
  intro p e s m below meth c s₁ hx hby hml hZ hown hnm hlk hret X0 e0
  have N0 := Fr.nil n0
  have K0 : Keep h0 h0 [] := Keep.refl _ _
  refine Go.st (T' := s₁) (f' := (mkF m 0 #[rv a2] [])) (fun _ k => castTop (by first | (simp [entryFrame, mkF, argsToLocals, Value.category]; done) | rfl) k) ?_
  have lt_a2 := E_a2.lt
  obtain ⟨T1, h1, X1, e1, E1, A1, D1, -, st1⟩ := newO X0 hx hZ hown (hw _ (List.mem_of_getElem? (i := 44) rfl)) (hw _ (List.mem_of_getElem? (i := 45) rfl)) (hw _ (List.mem_of_getElem? (i := 46) rfl)) e0 (g := (mkF m 0 #[rv a2] [])) rfl (hb hby d6_0) (by decide) (by decide)
  obtain ⟨b1, g1⟩ : ∃ z, z = h0.size := ⟨_, rfl⟩
  rw [← g1] at A1 D1 st1
  have ne_a2_b1 : a2 ≠ b1 := Nat.ne_of_lt (Nat.lt_of_lt_of_eq lt_a2 g1.symm)
  have g_b1 : n0 ≤ b1 := Nat.le_trans (O0.1 ▸ O0.2.1) (Nat.le_of_eq g1.symm)
  have O1 : Old Z n0 h1 := O0.ext E1
  have sz_b1 : h0.size ≤ b1 := Nat.le_trans K0.1 (Nat.le_of_eq g1.symm)
  have K1 : Keep h0 h1 [] := K0.ext E1
  have lt_b1 := A1.lt
  have F_this_0_b1 : Fld Z h1 b1 "java/util/ArrayList$Itr" "this$0" "Ljava/util/ArrayList;" .null := D1 (Or.inr (hw _ (List.mem_of_getElem? (i := 52) rfl))) (ty := (.object "java/util/ArrayList")) (by decide)
  have F_lastRet_b1 : Fld Z h1 b1 "java/util/ArrayList$Itr" "lastRet" "I" (.int (0 : Int32)) := D1 (Or.inl (hw _ (List.mem_of_getElem? (i := 55) rfl))) (ty := .int) (by decide)
  have F_expectedModCount_b1 : Fld Z h1 b1 "java/util/ArrayList$Itr" "expectedModCount" "I" (.int (0 : Int32)) := D1 (Or.inl (hw _ (List.mem_of_getElem? (i := 59) rfl))) (ty := .int) (by decide)
  have F_cursor_b1 : Fld Z h1 b1 "java/util/ArrayList$Itr" "cursor" "I" (.int (0 : Int32)) := D1 (Or.inl (hw _ (List.mem_of_getElem? (i := 70) rfl))) (ty := .int) (by decide)
  refine Go.st (f' := (mkF m 3 #[rv a2] [(.ref b1)])) (fun _ k => st1 _ k) ?_
  refine Go.st (f' := (mkF m 4 #[rv a2] [(.ref b1), (.ref b1)])) (fun _ k => XS.dup X1.here hx rfl (hb hby d6_3) rfl rfl k) ?_
  refine Go.st (f' := (mkF m 5 #[rv a2] [(.ref a2), (.ref b1), (.ref b1)])) (fun _ k => XS.aloadN X1.here hx rfl (hb hby d6_4) rfl rfl k) ?_
  have ft3 := (E_a2.ext E1)
  have ft4 := (F_a2_modCount.ext E1)
  have ft5 := (F_a2_elementData.ext E1)
  have ft6 := (F_a2_size.ext E1)
  obtain ⟨_, _, ⟨T2, L2, kk2, nn2⟩, -, X2, ⟨Lc2, hQ2, lq2, yq2, zz2⟩, st2⟩ := X1.specialBack hx (y := (⟨"java/util/ArrayList$Itr", "<init>", "(Ljava/util/ArrayList;)V"⟩ : MethodName)) rfl hown (mvT hZ (hw _ (List.mem_of_getElem? (i := 47) rfl))) (mvT hZ (hw _ (List.mem_of_getElem? (i := 48) rfl))) (mvT hZ (hw _ (List.mem_of_getElem? (i := 50) rfl))) (by decide) (own_back (W := 1) (rmIi l Z a0 hw [] b1 a2 h1 n0 O1 g_b1 A1 F_this_0_b1 F_lastRet_b1 F_expectedModCount_b1 F_cursor_b1 (Ne.symm ne_a2_b1) ft3 ft4 ft5 ft6) hZ (hw _ (List.mem_of_getElem? (i := 50) rfl)) (hw _ (List.mem_of_getElem? (i := 46) rfl)) (by decide) (by decide)) (g := (mkF m 5 #[rv a2] [(.ref a2), (.ref b1), (.ref b1)])) rfl (by rw [hml]; rfl) (Steps.refl _) (a := b1) (argsL := [(.ref a2)]) (rest := [(.ref b1)]) (lenOf pd__Ljava_util_ArrayList__V rfl) rfl (by show 2 * 0 + _ ≤ _; exact Nat.le_of_eq rfl) (hb hby d6_5) (fun _ _ => ⟨rfl, e1, (by decide : 1 + 0 ≤ _), (by decide : 4 + 0 ≤ _)⟩)
  dsimp only [Pt.U, Pt.locs, Pt.cells, Pt.slots] at X2 lq2 yq2 zz2 st2 hQ2
  subst lq2 yq2 zz2
  obtain ⟨rfl, Nq2, kq2, eq2, fq2_0, fq2_1, fq2_2, fq2_3⟩ := hQ2
  have N2 := Fr.app N0 Nq2
  have O2 : Old Z n0 T2.heap := O1.keep kq2 (allS g_b1 all0)
  have K2 : Keep h0 T2.heap [] := K1.trans kq2 (allS (Or.inr sz_b1) all0)
  refine Go.tr (f' := (mkF m 8 #[rv a2] [(.ref b1)])) st2 ?_
  refine Go.retV X2 hlk hx (t := (.object "java/util/Iterator")) hret rfl (Or.inr (Or.inr (Or.inr (Or.inr ⟨rfl, rfl, rfl⟩)))) (hb hby d6_8) rfl ?_ (by decide) (by decide)
  exact ⟨b1, rfl, N2, sz_b1, K2, eq2, fq2_0, fq2_3⟩
theorem d8_0 : decode jdk_49_method_2_code 0 = .ok (.aload_n 0, 1) := by decide +kernel
theorem d8_1 : decode jdk_49_method_2_code 1 = .ok (.getfield 25, 3) := by decide +kernel
theorem d8_4 : decode jdk_49_method_2_code 4 = .ok (.aload_n 0, 1) := by decide +kernel
theorem d8_5 : decode jdk_49_method_2_code 5 = .ok (.getfield 1, 3) := by decide +kernel
theorem d8_8 : decode jdk_49_method_2_code 8 = .ok (.getfield 28, 3) := by decide +kernel
theorem d8_11 : decode jdk_49_method_2_code 11 = .ok (.if_icmp .eq 7, 3) := by decide +kernel
theorem d8_18 : decode jdk_49_method_2_code 18 = .ok (.iconst 0, 1) := by decide +kernel
theorem d8_19 : decode jdk_49_method_2_code 19 = .ok (.ireturn, 1) := by decide +kernel
set_option maxRecDepth 65536 in
set_option maxHeartbeats 40000000 in
theorem rmHn (l : Launch) (Z : State) (a0 : Array Value) (hw : ∀ d ∈ tables_1, d.before a0 Z = true) (ws : List Jvm.Cond) (a1 : Addr) (a2 : Addr) (h0 : Heap) (n0 : Nat) (O0 : Old Z n0 h0) (E_a1 : Exa Z h0 a1 "java/util/ArrayList$Itr") (F_a1_this_0 : Fld Z h0 a1 "java/util/ArrayList$Itr" "this$0" "Ljava/util/ArrayList;" (.ref a2)) (F_a1_cursor : Fld Z h0 a1 "java/util/ArrayList$Itr" "cursor" "I" (.int 0)) (E_a2 : Exa Z h0 a2 "java/util/ArrayList") (F_a2_modCount : Fld Z h0 a2 "java/util/AbstractList" "modCount" "I" (.int 0)) (F_a2_elementData : Fld Z h0 a2 "java/util/ArrayList" "elementData" "[Ljava/lang/Object;" (.ref w_DEFAULTCAPACITY_EMPTY_ELEMENTDATA)) (F_a2_size : Fld Z h0 a2 "java/util/ArrayList" "size" "I" (.int 0)) :
    Con l Z (⟨"java/util/ArrayList$Itr", "hasNext", "()Z"⟩ : MethodName) jdk_49_method_2_code 1 (some .boolean) ws ({ frames := 0, cells := 0, slots := 0, locals := 0 } : Room) #[(.ref a1)] h0 (fun v h L => v = some (.int 0) ∧ Fr n0 L ∧ h = h0) := by
  refine own_body (plainFor_of_name pn_java_util_ArrayList_Itr) ?_
  intro p e s m below meth c s₁ hx hby hml hZ hown hnm hlk hret X0 e0
  have N0 := Fr.nil n0
  refine Go.st (T' := s₁) (f' := (mkF m 0 #[rv a1] [])) (fun _ k => castTop (by first | (simp [entryFrame, mkF, argsToLocals, Value.category]; done) | rfl) k) ?_
  have lt_a1 := E_a1.lt
  have lt_a2 := E_a2.lt
  refine Go.st (f' := (mkF m 1 #[rv a1] [(.ref a1)])) (fun _ k => XS.aloadN X0.here hx rfl (hb hby d8_0) rfl rfl k) ?_
  obtain ⟨T1, X1, e1, st1⟩ := getF X0 hx hZ hown (host := "") (Or.inl (hw _ (List.mem_of_getElem? (i := 69) rfl))) Via.refl e0 F_a1_cursor (g := (mkF m 1 #[rv a1] [(.ref a1)])) rfl rfl (hb hby d8_1)
  refine Go.st (f' := (mkF m 4 #[rv a1] [(.int 0)])) (fun _ k => st1 _ k) ?_
  refine Go.st (f' := (mkF m 5 #[rv a1] [(.ref a1), (.int 0)])) (fun _ k => XS.aloadN X1.here hx rfl (hb hby d8_4) rfl rfl k) ?_
  obtain ⟨T2, X2, e2, st2⟩ := getF X1 hx hZ hown (host := "") (Or.inl (hw _ (List.mem_of_getElem? (i := 51) rfl))) Via.refl e1 F_a1_this_0 (g := (mkF m 5 #[rv a1] [(.ref a1), (.int 0)])) rfl rfl (hb hby d8_5)
  refine Go.st (f' := (mkF m 8 #[rv a1] [(.ref a2), (.int 0)])) (fun _ k => st2 _ k) ?_
  obtain ⟨T3, X3, e3, st3⟩ := getF X2 hx hZ hown (Or.inr (hw _ (List.mem_of_getElem? (i := 71) rfl))) Via.refl e2 F_a2_size (g := (mkF m 8 #[rv a1] [(.ref a2), (.int 0)])) rfl rfl (hb hby d8_8)
  refine Go.st (f' := (mkF m 11 #[rv a1] [(.int 0), (.int 0)])) (fun _ k => st3 _ k) ?_
  refine Go.st (f' := (mkF m 18 #[rv a1] [])) (fun _ k => XS.icmpYes X3.here hx rfl (pc0 := 11) (pc' := 18) rfl (hb hby d8_11) rfl (by decide) (by decide) (by decide) k) ?_
  refine Go.st (f' := (mkF m 19 #[rv a1] [(.int 0)])) (fun _ k => XS.iconst X3.here hx rfl (hb hby d8_18) k) ?_
  refine Go.retB X3 hlk hx (t := .boolean) hret (by simp) (hb hby d8_19) e3 ?_ (by decide) (by decide)
  exact ⟨rfl, N0, rfl⟩
theorem d18_0 : decode jdk_38_method_8_code 0 = .ok (.aload_n 0, 1) := by decide +kernel
theorem d18_1 : decode jdk_38_method_8_code 1 = .ok (.getfield 48, 3) := by decide +kernel
theorem d18_4 : decode jdk_38_method_8_code 4 = .ok (.ireturn, 1) := by decide +kernel
set_option maxRecDepth 65536 in
set_option maxHeartbeats 40000000 in
theorem rmSz (l : Launch) (Z : State) (a0 : Array Value) (hw : ∀ d ∈ tables_1, d.before a0 Z = true) (ws : List Jvm.Cond) (a2 : Addr) (h0 : Heap) (n0 : Nat) (O0 : Old Z n0 h0) (E_a2 : Exa Z h0 a2 "java/util/ArrayList") (F_a2_modCount : Fld Z h0 a2 "java/util/AbstractList" "modCount" "I" (.int 0)) (F_a2_elementData : Fld Z h0 a2 "java/util/ArrayList" "elementData" "[Ljava/lang/Object;" (.ref w_DEFAULTCAPACITY_EMPTY_ELEMENTDATA)) (F_a2_size : Fld Z h0 a2 "java/util/ArrayList" "size" "I" (.int 0)) :
    Con l Z (⟨"java/util/ArrayList", "size", "()I"⟩ : MethodName) jdk_38_method_8_code 1 (some .int) ws ({ frames := 0, cells := 0, slots := 0, locals := 0 } : Room) #[(.ref a2)] h0 (fun v h L => v = some (.int 0) ∧ Fr n0 L ∧ h = h0) := by
  refine own_body (plainFor_of_name pn_java_util_ArrayList) ?_
  intro p e s m below meth c s₁ hx hby hml hZ hown hnm hlk hret X0 e0
  have N0 := Fr.nil n0
  refine Go.st (T' := s₁) (f' := (mkF m 0 #[rv a2] [])) (fun _ k => castTop (by first | (simp [entryFrame, mkF, argsToLocals, Value.category]; done) | rfl) k) ?_
  have lt_a2 := E_a2.lt
  refine Go.st (f' := (mkF m 1 #[rv a2] [(.ref a2)])) (fun _ k => XS.aloadN X0.here hx rfl (hb hby d18_0) rfl rfl k) ?_
  obtain ⟨T1, X1, e1, st1⟩ := getF X0 hx hZ hown (host := "") (Or.inl (hw _ (List.mem_of_getElem? (i := 92) rfl))) Via.refl e0 F_a2_size (g := (mkF m 1 #[rv a2] [(.ref a2)])) rfl rfl (hb hby d18_1)
  refine Go.st (f' := (mkF m 4 #[rv a2] [(.int 0)])) (fun _ k => st1 _ k) ?_
  refine Go.retV X1 hlk hx (t := .int) hret rfl (Or.inl ⟨rfl, Or.inl rfl, _, rfl⟩) (hb hby d18_4) e1 ?_ (by decide) (by decide)
  exact ⟨rfl, N0, rfl⟩
theorem d13_0 : decode jdk_29_method_69_code 0 = .ok (.iload_n 0, 1) := by decide +kernel
theorem d13_1 : decode jdk_29_method_69_code 1 = .ok (.iload_n 1, 1) := by decide +kernel
theorem d13_2 : decode jdk_29_method_69_code 2 = .ok (.if_icmp .gt 7, 3) := by decide +kernel
theorem d13_5 : decode jdk_29_method_69_code 5 = .ok (.iload_n 0, 1) := by decide +kernel
theorem d13_6 : decode jdk_29_method_69_code 6 = .ok (.goto 4, 3) := by decide +kernel
theorem d13_10 : decode jdk_29_method_69_code 10 = .ok (.ireturn, 1) := by decide +kernel
set_option maxRecDepth 65536 in
set_option maxHeartbeats 40000000 in
theorem rmMn (l : Launch) (Z : State) (a0 : Array Value) (hw : ∀ d ∈ tables_1, d.before a0 Z = true) (ws : List Jvm.Cond)  (h0 : Heap) (n0 : Nat) (O0 : Old Z n0 h0)  :
    Con l Z (⟨"java/lang/Math", "min", "(II)I"⟩ : MethodName) jdk_29_method_69_code 2 (some .int) ws ({ frames := 0, cells := 0, slots := 0, locals := 0 } : Room) #[(.int 0), (.int 0)] h0 (fun v h L => v = some (.int 0) ∧ Fr n0 L ∧ h = h0) := by
  refine own_body (Jvm.Free.JP.mathPlain rfl (by decide +kernel)) ?_
  intro p e s m below meth c s₁ hx hby hml hZ hown hnm hlk hret X0 e0
  have N0 := Fr.nil n0
  refine Go.st (T' := s₁) (f' := (mkF m 0 #[iv 0, iv 0] [])) (fun _ k => castTop (by first | (simp [entryFrame, mkF, argsToLocals, Value.category]; done) | rfl) k) ?_
  refine Go.st (f' := (mkF m 1 #[iv 0, iv 0] [(.int 0)])) (fun _ k => XS.iloadN X0.here hx rfl (hb hby d13_0) rfl k) ?_
  refine Go.st (f' := (mkF m 2 #[iv 0, iv 0] [(.int 0), (.int 0)])) (fun _ k => XS.iloadN X0.here hx rfl (hb hby d13_1) rfl k) ?_
  refine Go.st (f' := (mkF m 5 #[iv 0, iv 0] [])) (fun _ k => XS.icmpNo X0.here hx rfl (hb hby d13_2) rfl (by decide) k) ?_
  refine Go.st (f' := (mkF m 6 #[iv 0, iv 0] [(.int 0)])) (fun _ k => XS.iloadN X0.here hx rfl (hb hby d13_5) rfl k) ?_
  refine Go.st (f' := (mkF m 10 #[iv 0, iv 0] [(.int 0)])) (fun _ k => XS.goto X0.here hx rfl (pc0 := 6) (pc' := 10) rfl (hb hby d13_6) (by decide) (by decide) k) ?_
  refine Go.retV X0 hlk hx (t := .int) hret rfl (Or.inl ⟨rfl, Or.inl rfl, _, rfl⟩) (hb hby d13_10) e0 ?_ (by decide) (by decide)
  exact ⟨rfl, N0, rfl⟩
theorem pn_java_util_Arrays : plainName "java/util/Arrays" = true := by first | (simp [plainName, overriddenIn]; done) | decide +kernel
theorem d12_0 : decode jdk_65_method_120_code 0 = .ok (.aload_n 2, 1) := by decide +kernel
theorem d12_1 : decode jdk_65_method_120_code 1 = .ok (.ldc 110, 2) := by decide +kernel
theorem d12_3 : decode jdk_65_method_120_code 3 = .ok (.if_acmp .ne 10, 3) := by decide +kernel
theorem d12_6 : decode jdk_65_method_120_code 6 = .ok (.iload_n 1, 1) := by decide +kernel
theorem d12_7 : decode jdk_65_method_120_code 7 = .ok (.anewarray 2, 3) := by decide +kernel
theorem d12_10 : decode jdk_65_method_120_code 10 = .ok (.goto 14, 3) := by decide +kernel
theorem d12_24 : decode jdk_65_method_120_code 24 = .ok (.astore_n 3, 1) := by decide +kernel
theorem d12_25 : decode jdk_65_method_120_code 25 = .ok (.aload_n 0, 1) := by decide +kernel
theorem d12_26 : decode jdk_65_method_120_code 26 = .ok (.iconst 0, 1) := by decide +kernel
theorem d12_27 : decode jdk_65_method_120_code 27 = .ok (.aload_n 3, 1) := by decide +kernel
theorem d12_28 : decode jdk_65_method_120_code 28 = .ok (.iconst 0, 1) := by decide +kernel
theorem d12_29 : decode jdk_65_method_120_code 29 = .ok (.aload_n 0, 1) := by decide +kernel
theorem d12_30 : decode jdk_65_method_120_code 30 = .ok (.arraylength, 1) := by decide +kernel
theorem d12_31 : decode jdk_65_method_120_code 31 = .ok (.iload_n 1, 1) := by decide +kernel
theorem d12_32 : decode jdk_65_method_120_code 32 = .ok (.invokestatic 304, 3) := by decide +kernel
theorem pd__II_I : parseMethodDescriptor "(II)I" = some ⟨[.int, .int], some .int⟩ := by decide +kernel
theorem d12_35 : decode jdk_65_method_120_code 35 = .ok (.invokestatic 150, 3) := by decide +kernel
theorem d12_38 : decode jdk_65_method_120_code 38 = .ok (.aload_n 3, 1) := by decide +kernel
theorem d12_39 : decode jdk_65_method_120_code 39 = .ok (.areturn, 1) := by decide +kernel
set_option maxRecDepth 65536 in
set_option maxHeartbeats 40000000 in
theorem rmC3 (l : Launch) (Z : State) (a0 : Array Value) (hw : ∀ d ∈ tables_1, d.before a0 Z = true) (ws : List Jvm.Cond) (mir_0 : Addr) (mir_1 : Addr) (mir_2 : Addr) (mir_3 : Addr) (w_EMPTY_ELEMENTDATA : Addr) (w_DEFAULTCAPACITY_EMPTY_ELEMENTDATA : Addr) (k_EMPTY_ELEMENTDATA : ClassId) (k_DEFAULTCAPACITY_EMPTY_ELEMENTDATA : ClassId) (h0 : Heap) (n0 : Nat) (O0 : Old Z n0 h0) (WW : World1 Z mir_0 mir_1 mir_2 mir_3 w_EMPTY_ELEMENTDATA w_DEFAULTCAPACITY_EMPTY_ELEMENTDATA k_EMPTY_ELEMENTDATA k_DEFAULTCAPACITY_EMPTY_ELEMENTDATA) :
    Con l Z (⟨"java/util/Arrays", "copyOf", "([Ljava/lang/Object;ILjava/lang/Class;)[Ljava/lang/Object;"⟩ : MethodName) jdk_65_method_120_code 4 (some (.array (.object "java/lang/Object"))) ws ({ frames := 1, cells := 1, slots := 0, locals := 20 } : Room) #[(.ref w_DEFAULTCAPACITY_EMPTY_ELEMENTDATA), (.int 0), (.ref mir_0)] h0 (fun v h L => ∃ (b : Addr) (kb : ClassId), v = some (.ref b) ∧ Fr n0 L ∧ h0.size ≤ b ∧ Keep h0 h [] ∧ Exa Z h b "[Ljava/lang/Object;" ∧ Arv Z h b kb (.object "java/lang/Object") (0 : Int32) [] .null) := by
  refine own_body (plainFor_of_name pn_java_util_Arrays) ?_
  intro p e s m below meth c s₁ hx hby hml hZ hown hnm hlk hret X0 e0
  have N0 := Fr.nil n0
  have K0 : Keep h0 h0 [] := Keep.refl _ _
  refine Go.st (T' := s₁) (f' := (mkF m 0 #[rv w_DEFAULTCAPACITY_EMPTY_ELEMENTDATA, iv 0, rv mir_0, .unset] [])) (fun _ k => castTop (by first | (simp [entryFrame, mkF, argsToLocals, Value.category]; done) | rfl) k) ?_
  have ⟨M_0, M_1, M_2, M_3, S_w_EMPTY_ELEMENTDATA, E_w_EMPTY_ELEMENTDATA, S_w_DEFAULTCAPACITY_EMPTY_ELEMENTDATA, E_w_DEFAULTCAPACITY_EMPTY_ELEMENTDATA, V_w_EMPTY_ELEMENTDATA, V_w_DEFAULTCAPACITY_EMPTY_ELEMENTDATA⟩ := WW
  have lt_w_EMPTY_ELEMENTDATA := E_w_EMPTY_ELEMENTDATA.lt
  have lt_w_DEFAULTCAPACITY_EMPTY_ELEMENTDATA := E_w_DEFAULTCAPACITY_EMPTY_ELEMENTDATA.lt
  refine Go.st (f' := (mkF m 1 #[rv w_DEFAULTCAPACITY_EMPTY_ELEMENTDATA, iv 0, rv mir_0, .unset] [(.ref mir_0)])) (fun _ k => XS.aloadN X0.here hx rfl (hb hby d12_0) rfl rfl k) ?_
  obtain ⟨T1, X1, e1, st1⟩ := own_ldcM X0 hx hZ hown (hw _ (List.mem_of_getElem? (i := 106) rfl)) e0 M_0 (g := (mkF m 1 #[rv w_DEFAULTCAPACITY_EMPTY_ELEMENTDATA, iv 0, rv mir_0, .unset] [(.ref mir_0)])) rfl (hb hby d12_1)
  refine Go.st (f' := (mkF m 3 #[rv w_DEFAULTCAPACITY_EMPTY_ELEMENTDATA, iv 0, rv mir_0, .unset] [(.ref mir_0), (.ref mir_0)])) (fun _ k => st1 _ k) ?_
  refine Go.st (f' := (mkF m 6 #[rv w_DEFAULTCAPACITY_EMPTY_ELEMENTDATA, iv 0, rv mir_0, .unset] [])) (fun _ k => Jvm.RoadKit.acmp (g := (mkF m 3 #[rv w_DEFAULTCAPACITY_EMPTY_ELEMENTDATA, iv 0, rv mir_0, .unset] [(.ref mir_0), (.ref mir_0)])) X1 hx rfl rfl rfl (pc0 := 3) (pc' := 6) (same := true) rfl (hb hby d12_3) rfl (decide_eq_true rfl) (by decide) (by decide) k) ?_
  refine Go.st (f' := (mkF m 7 #[rv w_DEFAULTCAPACITY_EMPTY_ELEMENTDATA, iv 0, rv mir_0, .unset] [(.int 0)])) (fun _ k => XS.iloadN X1.here hx rfl (hb hby d12_6) rfl k) ?_
  obtain ⟨T2, h2, kc2, X2, e2, E2, A2, Ex2, Ov2, st2⟩ := newRE X1 hx hZ hown (hw _ (List.mem_of_getElem? (i := 107) rfl)) (hw _ (List.mem_of_getElem? (i := 108) rfl)) e1 (g := (mkF m 7 #[rv w_DEFAULTCAPACITY_EMPTY_ELEMENTDATA, iv 0, rv mir_0, .unset] [(.int 0)])) rfl (hb hby d12_7) rfl (by decide) (cap := 0) (by decide) (by decide) (by decide) (by decide) (ad := "[Ljava/lang/Object;") (by decide +kernel)
  obtain ⟨b2, g2⟩ : ∃ z, z = h0.size := ⟨_, rfl⟩
  rw [← g2] at A2 Ex2 st2
  have ne_w_EMPTY_ELEMENTDATA_b2 : w_EMPTY_ELEMENTDATA ≠ b2 := Nat.ne_of_lt (Nat.lt_of_lt_of_le lt_w_EMPTY_ELEMENTDATA (Nat.le_trans O0.2.1 (Nat.le_of_eq g2.symm)))
  have ne_w_DEFAULTCAPACITY_EMPTY_ELEMENTDATA_b2 : w_DEFAULTCAPACITY_EMPTY_ELEMENTDATA ≠ b2 := Nat.ne_of_lt (Nat.lt_of_lt_of_le lt_w_DEFAULTCAPACITY_EMPTY_ELEMENTDATA (Nat.le_trans O0.2.1 (Nat.le_of_eq g2.symm)))
  have g_b2 : n0 ≤ b2 := Nat.le_trans (O0.1 ▸ O0.2.1) (Nat.le_of_eq g2.symm)
  have O2 : Old Z n0 h2 := O0.ext E2
  have sz_b2 : h0.size ≤ b2 := Nat.le_trans K0.1 (Nat.le_of_eq g2.symm)
  have K2 : Keep h0 h2 [] := K0.ext E2
  have V_b2 : Arv Z h2 b2 kc2 (.object "java/lang/Object") (0 : Int32) [] .null := Arv.new A2 (by decide)
  have lt_b2 := V_b2.lt
  refine Go.st (f' := (mkF m 10 #[rv w_DEFAULTCAPACITY_EMPTY_ELEMENTDATA, iv 0, rv mir_0, .unset] [(.ref b2)])) (fun _ k => st2 _ k) ?_
  refine Go.st (f' := (mkF m 24 #[rv w_DEFAULTCAPACITY_EMPTY_ELEMENTDATA, iv 0, rv mir_0, .unset] [(.ref b2)])) (fun _ k => XS.goto X2.here hx rfl (pc0 := 10) (pc' := 24) rfl (hb hby d12_10) (by decide) (by decide) k) ?_
  refine Go.st (f' := (mkF m 25 #[rv w_DEFAULTCAPACITY_EMPTY_ELEMENTDATA, iv 0, rv mir_0, rv b2] [])) (fun _ k => XS.astoreN X2.here hx rfl (hb hby d12_24) rfl rfl (l' := #[rv w_DEFAULTCAPACITY_EMPTY_ELEMENTDATA, iv 0, rv mir_0, rv b2]) rfl k) ?_
  refine Go.st (f' := (mkF m 26 #[rv w_DEFAULTCAPACITY_EMPTY_ELEMENTDATA, iv 0, rv mir_0, rv b2] [(.ref w_DEFAULTCAPACITY_EMPTY_ELEMENTDATA)])) (fun _ k => XS.aloadN X2.here hx rfl (hb hby d12_25) rfl rfl k) ?_
  refine Go.st (f' := (mkF m 27 #[rv w_DEFAULTCAPACITY_EMPTY_ELEMENTDATA, iv 0, rv mir_0, rv b2] [(.int 0), (.ref w_DEFAULTCAPACITY_EMPTY_ELEMENTDATA)])) (fun _ k => XS.iconst X2.here hx rfl (hb hby d12_26) k) ?_
  refine Go.st (f' := (mkF m 28 #[rv w_DEFAULTCAPACITY_EMPTY_ELEMENTDATA, iv 0, rv mir_0, rv b2] [(.ref b2), (.int 0), (.ref w_DEFAULTCAPACITY_EMPTY_ELEMENTDATA)])) (fun _ k => XS.aloadN X2.here hx rfl (hb hby d12_27) rfl rfl k) ?_
  refine Go.st (f' := (mkF m 29 #[rv w_DEFAULTCAPACITY_EMPTY_ELEMENTDATA, iv 0, rv mir_0, rv b2] [(.int 0), (.ref b2), (.int 0), (.ref w_DEFAULTCAPACITY_EMPTY_ELEMENTDATA)])) (fun _ k => XS.iconst X2.here hx rfl (hb hby d12_28) k) ?_
  refine Go.st (f' := (mkF m 30 #[rv w_DEFAULTCAPACITY_EMPTY_ELEMENTDATA, iv 0, rv mir_0, rv b2] [(.ref w_DEFAULTCAPACITY_EMPTY_ELEMENTDATA), (.int 0), (.ref b2), (.int 0), (.ref w_DEFAULTCAPACITY_EMPTY_ELEMENTDATA)])) (fun _ k => XS.aloadN X2.here hx rfl (hb hby d12_29) rfl rfl k) ?_
  obtain ⟨cl3, Ar3, -, S3, Nx3, -, -⟩ := id (V_w_DEFAULTCAPACITY_EMPTY_ELEMENTDATA.ext O2.2)
  refine Go.st (T' := T2) (f' := (mkF m 31 #[rv w_DEFAULTCAPACITY_EMPTY_ELEMENTDATA, iv 0, rv mir_0, rv b2] [(.int 0), (.int 0), (.ref b2), (.int 0), (.ref w_DEFAULTCAPACITY_EMPTY_ELEMENTDATA)])) (fun _ k => X2.arraylength hx (by rw [e2]; exact Ar3.1) (State.isArrayOf_alike hZ.alike Ar3.2.1) (g := (mkF m 30 #[rv w_DEFAULTCAPACITY_EMPTY_ELEMENTDATA, iv 0, rv mir_0, rv b2] [(.ref w_DEFAULTCAPACITY_EMPTY_ELEMENTDATA), (.int 0), (.ref b2), (.int 0), (.ref w_DEFAULTCAPACITY_EMPTY_ELEMENTDATA)])) rfl rfl (hb hby d12_30) _ (by rw [len_of S3 Nx3]; exact k)) ?_
  refine Go.st (f' := (mkF m 32 #[rv w_DEFAULTCAPACITY_EMPTY_ELEMENTDATA, iv 0, rv mir_0, rv b2] [(.int 0), (.int 0), (.int 0), (.ref b2), (.int 0), (.ref w_DEFAULTCAPACITY_EMPTY_ELEMENTDATA)])) (fun _ k => XS.iloadN X2.here hx rfl (hb hby d12_31) rfl k) ?_
  obtain ⟨_, _, ⟨T4, L4, kk4, nn4⟩, -, X4, ⟨Lc4, hQ4, lq4, yq4, zz4⟩, st4⟩ := Jvm.LawKit.callS X2 hx (y := (⟨"java/lang/Math", "min", "(II)I"⟩ : MethodName)) hown (mvT hZ (hw _ (List.mem_of_getElem? (i := 109) rfl))) (mvT hZ (hw _ (List.mem_of_getElem? (i := 110) rfl))) (mvT hZ (hw _ (List.mem_of_getElem? (i := 111) rfl))) (mvT hZ (hw _ (List.mem_of_getElem? (i := 112) rfl))) (by decide) (own_back (W := 4) (rmMn l Z a0 hw [] h2 n0 O2) hZ (hw _ (List.mem_of_getElem? (i := 112) rfl)) (hw _ (List.mem_of_getElem? (i := 111) rfl)) (by decide) (by decide)) (g := (mkF m 32 #[rv w_DEFAULTCAPACITY_EMPTY_ELEMENTDATA, iv 0, rv mir_0, rv b2] [(.int 0), (.int 0), (.int 0), (.ref b2), (.int 0), (.ref w_DEFAULTCAPACITY_EMPTY_ELEMENTDATA)])) rfl (by rw [hml]; rfl) (argsL := [(.int (0 : Int32)), (.int (0 : Int32))]) (rest := [(.int (0 : Int32)), (.ref b2), (.int (0 : Int32)), (.ref w_DEFAULTCAPACITY_EMPTY_ELEMENTDATA)]) (lenOf pd__II_I rfl) rfl (by show 2 * 0 + _ ≤ _; exact Nat.le_of_eq rfl) (hb hby d12_32) (fun _ _ => ⟨rfl, e2, (by decide : 1 + 0 ≤ _), (by decide : 0 + 0 ≤ _)⟩)
  dsimp only [Pt.U, Pt.locs, Pt.cells, Pt.slots] at X4 lq4 yq4 zz4 st4 hQ4
  subst lq4 yq4 zz4
  obtain ⟨rfl, Nq4, kq4⟩ := hQ4
  have N4 := Fr.app N0 Nq4
  refine Go.st (f' := (mkF m 35 #[rv w_DEFAULTCAPACITY_EMPTY_ELEMENTDATA, iv 0, rv mir_0, rv b2] [(.int 0), (.int 0), (.ref b2), (.int 0), (.ref w_DEFAULTCAPACITY_EMPTY_ELEMENTDATA)])) (fun _ k => st4 _ k) ?_
  obtain ⟨T6, h6, L6, X6, e6, N6, kq6, vq6, st6⟩ := cpA X4 hx hZ hown (hw _ (List.mem_of_getElem? (i := 113) rfl)) (hw _ (List.mem_of_getElem? (i := 116) rfl)) (hw _ (List.mem_of_getElem? (i := 114) rfl)) (hw _ (List.mem_of_getElem? (i := 115) rfl)) kq4 (V_w_DEFAULTCAPACITY_EMPTY_ELEMENTDATA.ext O2.2) V_b2 (us := []) (Or.inr ⟨rfl, rfl, trivial⟩) (by decide) (by decide) (by decide) (by decide) (by decide) rfl (by decide) N4 g_b2 (g := (mkF m 35 #[rv w_DEFAULTCAPACITY_EMPTY_ELEMENTDATA, iv 0, rv mir_0, rv b2] [(.int 0), (.int 0), (.ref b2), (.int 0), (.ref w_DEFAULTCAPACITY_EMPTY_ELEMENTDATA)])) rfl (by rw [hml]; rfl) rfl (hb hby d12_35) (by decide) (W := 0) (by show 2 * 0 + _ ≤ _; exact Nat.le_of_eq rfl) (by decide)
  have O6 : Old Z n0 h6 := O2.keep kq6 (allS g_b2 all0)
  have K6 : Keep h0 h6 [] := K2.trans kq6 (allS (Or.inr sz_b2) all0)
  refine Go.st (f' := (mkF m 38 #[rv w_DEFAULTCAPACITY_EMPTY_ELEMENTDATA, iv 0, rv mir_0, rv b2] [])) (fun _ k => st6 _ k) ?_
  refine Go.st (f' := (mkF m 39 #[rv w_DEFAULTCAPACITY_EMPTY_ELEMENTDATA, iv 0, rv mir_0, rv b2] [(.ref b2)])) (fun _ k => XS.aloadN X6.here hx rfl (hb hby d12_38) rfl rfl k) ?_
  refine Go.retV X6 hlk hx (t := (.array (.object "java/lang/Object"))) hret rfl (Or.inr (Or.inr (Or.inr (Or.inr ⟨rfl, rfl, rfl⟩)))) (hb hby d12_39) e6 ?_ (by decide) (by decide)
  have ft7 := (Ex2.keep kq6)
  exact ⟨b2, kc2, rfl, N6, sz_b2, K6, ft7, vq6⟩
theorem d11_0 : decode jdk_65_method_119_code 0 = .ok (.aload_n 0, 1) := by decide +kernel
theorem d11_1 : decode jdk_65_method_119_code 1 = .ok (.iload_n 1, 1) := by decide +kernel
theorem d11_2 : decode jdk_65_method_119_code 2 = .ok (.aload_n 0, 1) := by decide +kernel
theorem d11_3 : decode jdk_65_method_119_code 3 = .ok (.invokevirtual 86, 3) := by decide +kernel
theorem d11_6 : decode jdk_65_method_119_code 6 = .ok (.invokestatic 300, 3) := by decide +kernel
theorem pd___Ljava_lang_Object_ILjava_lang_Class___Ljava_lang_Object_ : parseMethodDescriptor "([Ljava/lang/Object;ILjava/lang/Class;)[Ljava/lang/Object;" = some ⟨[(.array (.object "java/lang/Object")), .int, (.object "java/lang/Class")], some (.array (.object "java/lang/Object"))⟩ := by decide +kernel
theorem d11_9 : decode jdk_65_method_119_code 9 = .ok (.areturn, 1) := by decide +kernel
set_option maxRecDepth 65536 in
set_option maxHeartbeats 40000000 in
theorem rmC2 (l : Launch) (Z : State) (a0 : Array Value) (hw : ∀ d ∈ tables_1, d.before a0 Z = true) (ws : List Jvm.Cond) (mir_0 : Addr) (mir_1 : Addr) (mir_2 : Addr) (mir_3 : Addr) (w_EMPTY_ELEMENTDATA : Addr) (w_DEFAULTCAPACITY_EMPTY_ELEMENTDATA : Addr) (k_EMPTY_ELEMENTDATA : ClassId) (k_DEFAULTCAPACITY_EMPTY_ELEMENTDATA : ClassId) (h0 : Heap) (n0 : Nat) (O0 : Old Z n0 h0) (WW : World1 Z mir_0 mir_1 mir_2 mir_3 w_EMPTY_ELEMENTDATA w_DEFAULTCAPACITY_EMPTY_ELEMENTDATA k_EMPTY_ELEMENTDATA k_DEFAULTCAPACITY_EMPTY_ELEMENTDATA) :
    Con l Z (⟨"java/util/Arrays", "copyOf", "([Ljava/lang/Object;I)[Ljava/lang/Object;"⟩ : MethodName) jdk_65_method_119_code 2 (some (.array (.object "java/lang/Object"))) ws ({ frames := 2, cells := 1, slots := 0, locals := 35 } : Room) #[(.ref w_DEFAULTCAPACITY_EMPTY_ELEMENTDATA), (.int 0)] h0 (fun v h L => ∃ (b : Addr) (kb : ClassId), v = some (.ref b) ∧ Fr n0 L ∧ h0.size ≤ b ∧ Keep h0 h [] ∧ Exa Z h b "[Ljava/lang/Object;" ∧ Arv Z h b kb (.object "java/lang/Object") (0 : Int32) [] .null) := by
  refine own_body (plainFor_of_name pn_java_util_Arrays) ?_
  intro p e s m below meth c s₁ hx hby hml hZ hown hnm hlk hret X0 e0
  have N0 := Fr.nil n0
  have K0 : Keep h0 h0 [] := Keep.refl _ _
  refine Go.st (T' := s₁) (f' := (mkF m 0 #[rv w_DEFAULTCAPACITY_EMPTY_ELEMENTDATA, iv 0] [])) (fun _ k => castTop (by first | (simp [entryFrame, mkF, argsToLocals, Value.category]; done) | rfl) k) ?_
  have ⟨M_0, M_1, M_2, M_3, S_w_EMPTY_ELEMENTDATA, E_w_EMPTY_ELEMENTDATA, S_w_DEFAULTCAPACITY_EMPTY_ELEMENTDATA, E_w_DEFAULTCAPACITY_EMPTY_ELEMENTDATA, V_w_EMPTY_ELEMENTDATA, V_w_DEFAULTCAPACITY_EMPTY_ELEMENTDATA⟩ := WW
  have lt_w_EMPTY_ELEMENTDATA := E_w_EMPTY_ELEMENTDATA.lt
  have lt_w_DEFAULTCAPACITY_EMPTY_ELEMENTDATA := E_w_DEFAULTCAPACITY_EMPTY_ELEMENTDATA.lt
  refine Go.st (f' := (mkF m 1 #[rv w_DEFAULTCAPACITY_EMPTY_ELEMENTDATA, iv 0] [(.ref w_DEFAULTCAPACITY_EMPTY_ELEMENTDATA)])) (fun _ k => XS.aloadN X0.here hx rfl (hb hby d11_0) rfl rfl k) ?_
  refine Go.st (f' := (mkF m 2 #[rv w_DEFAULTCAPACITY_EMPTY_ELEMENTDATA, iv 0] [(.int 0), (.ref w_DEFAULTCAPACITY_EMPTY_ELEMENTDATA)])) (fun _ k => XS.iloadN X0.here hx rfl (hb hby d11_1) rfl k) ?_
  refine Go.st (f' := (mkF m 3 #[rv w_DEFAULTCAPACITY_EMPTY_ELEMENTDATA, iv 0] [(.ref w_DEFAULTCAPACITY_EMPTY_ELEMENTDATA), (.int 0), (.ref w_DEFAULTCAPACITY_EMPTY_ELEMENTDATA)])) (fun _ k => XS.aloadN X0.here hx rfl (hb hby d11_2) rfl rfl k) ?_
  obtain ⟨T1, X1, e1, st1⟩ := own_gcV X0 hx hZ hown (hw _ (List.mem_of_getElem? (i := 97) rfl)) (hw _ (List.mem_of_getElem? (i := 98) rfl)) (hw _ (List.mem_of_getElem? (i := 100) rfl)) (hw _ (List.mem_of_getElem? (i := 99) rfl)) (hw _ (List.mem_of_getElem? (i := 101) rfl)) e0 (E_w_DEFAULTCAPACITY_EMPTY_ELEMENTDATA.ext O0.2) M_0 (g := (mkF m 3 #[rv w_DEFAULTCAPACITY_EMPTY_ELEMENTDATA, iv 0] [(.ref w_DEFAULTCAPACITY_EMPTY_ELEMENTDATA), (.int 0), (.ref w_DEFAULTCAPACITY_EMPTY_ELEMENTDATA)])) rfl (by rw [hml]; rfl) rfl (hb hby d11_3) (by decide) (by show 2 * 0 + 2 + _ ≤ _; decide)
  refine Go.st (f' := (mkF m 6 #[rv w_DEFAULTCAPACITY_EMPTY_ELEMENTDATA, iv 0] [(.ref mir_0), (.int 0), (.ref w_DEFAULTCAPACITY_EMPTY_ELEMENTDATA)])) (fun _ k => st1 _ k) ?_
  obtain ⟨_, _, ⟨T2, L2, kk2, nn2⟩, -, X2, ⟨Lc2, hQ2, lq2, yq2, zz2⟩, st2⟩ := Jvm.LawKit.callS X1 hx (y := (⟨"java/util/Arrays", "copyOf", "([Ljava/lang/Object;ILjava/lang/Class;)[Ljava/lang/Object;"⟩ : MethodName)) hown (mvT hZ (hw _ (List.mem_of_getElem? (i := 103) rfl))) (mvT hZ (hw _ (List.mem_of_getElem? (i := 104) rfl))) (mvT hZ (hw _ (List.mem_of_getElem? (i := 95) rfl))) (mvT hZ (hw _ (List.mem_of_getElem? (i := 105) rfl))) (by decide) (own_back (W := 0) (rmC3 l Z a0 hw [] mir_0 mir_1 mir_2 mir_3 w_EMPTY_ELEMENTDATA w_DEFAULTCAPACITY_EMPTY_ELEMENTDATA k_EMPTY_ELEMENTDATA k_DEFAULTCAPACITY_EMPTY_ELEMENTDATA h0 n0 O0 WW) hZ (hw _ (List.mem_of_getElem? (i := 105) rfl)) (hw _ (List.mem_of_getElem? (i := 95) rfl)) (by decide) (by decide)) (g := (mkF m 6 #[rv w_DEFAULTCAPACITY_EMPTY_ELEMENTDATA, iv 0] [(.ref mir_0), (.int 0), (.ref w_DEFAULTCAPACITY_EMPTY_ELEMENTDATA)])) rfl (by rw [hml]; rfl) (argsL := [(.ref w_DEFAULTCAPACITY_EMPTY_ELEMENTDATA), (.int (0 : Int32)), (.ref mir_0)]) (rest := []) (lenOf pd___Ljava_lang_Object_ILjava_lang_Class___Ljava_lang_Object_ rfl) rfl (by show 2 * 0 + _ ≤ _; exact Nat.le_of_eq rfl) (hb hby d11_6) (fun _ _ => ⟨rfl, e1, (by decide : 0 + 1 ≤ _), (by decide : 0 + 0 ≤ _)⟩)
  dsimp only [Pt.U, Pt.locs, Pt.cells, Pt.slots] at X2 lq2 yq2 zz2 st2 hQ2
  subst lq2 yq2 zz2
  obtain ⟨b2, kb2, rfl, Nq2, zq2, kq2, eq2, vq2⟩ := hQ2
  have N2 := Fr.app N0 Nq2
  have ne_w_EMPTY_ELEMENTDATA_b2 : w_EMPTY_ELEMENTDATA ≠ b2 := Nat.ne_of_lt (Nat.lt_of_lt_of_le lt_w_EMPTY_ELEMENTDATA (Nat.le_trans O0.2.1 zq2))
  have ne_w_DEFAULTCAPACITY_EMPTY_ELEMENTDATA_b2 : w_DEFAULTCAPACITY_EMPTY_ELEMENTDATA ≠ b2 := Nat.ne_of_lt (Nat.lt_of_lt_of_le lt_w_DEFAULTCAPACITY_EMPTY_ELEMENTDATA (Nat.le_trans O0.2.1 zq2))
  have g_b2 : n0 ≤ b2 := Nat.le_trans (O0.1 ▸ O0.2.1) zq2
  have sz_b2 : h0.size ≤ b2 := Nat.le_trans K0.1 zq2
  have O2 : Old Z n0 T2.heap := O0.keep kq2 all0
  have K2 : Keep h0 T2.heap [] := K0.trans kq2 all0
  have lt_b2 := eq2.lt
  refine Go.st (f' := (mkF m 9 #[rv w_DEFAULTCAPACITY_EMPTY_ELEMENTDATA, iv 0] [(.ref b2)])) (fun _ k => st2 _ k) ?_
  refine Go.retV X2 hlk hx (t := (.array (.object "java/lang/Object"))) hret rfl (Or.inr (Or.inr (Or.inr (Or.inr ⟨rfl, rfl, rfl⟩)))) (hb hby d11_9) rfl ?_ (by decide) (by decide)
  exact ⟨b2, kb2, rfl, N2, sz_b2, K2, eq2, vq2⟩
theorem d10_0 : decode jdk_38_method_16_code 0 = .ok (.aload_n 0, 1) := by decide +kernel
theorem d10_1 : decode jdk_38_method_16_code 1 = .ok (.getfield 9, 3) := by decide +kernel
theorem d10_4 : decode jdk_38_method_16_code 4 = .ok (.aload_n 0, 1) := by decide +kernel
theorem d10_5 : decode jdk_38_method_16_code 5 = .ok (.getfield 48, 3) := by decide +kernel
theorem d10_8 : decode jdk_38_method_16_code 8 = .ok (.invokestatic 66, 3) := by decide +kernel
theorem pd___Ljava_lang_Object_I__Ljava_lang_Object_ : parseMethodDescriptor "([Ljava/lang/Object;I)[Ljava/lang/Object;" = some ⟨[(.array (.object "java/lang/Object")), .int], some (.array (.object "java/lang/Object"))⟩ := by decide +kernel
theorem d10_11 : decode jdk_38_method_16_code 11 = .ok (.areturn, 1) := by decide +kernel
set_option maxRecDepth 65536 in
set_option maxHeartbeats 40000000 in
theorem rmTa (l : Launch) (Z : State) (a0 : Array Value) (hw : ∀ d ∈ tables_1, d.before a0 Z = true) (ws : List Jvm.Cond) (a2 : Addr) (mir_0 : Addr) (mir_1 : Addr) (mir_2 : Addr) (mir_3 : Addr) (w_EMPTY_ELEMENTDATA : Addr) (w_DEFAULTCAPACITY_EMPTY_ELEMENTDATA : Addr) (k_EMPTY_ELEMENTDATA : ClassId) (k_DEFAULTCAPACITY_EMPTY_ELEMENTDATA : ClassId) (h0 : Heap) (n0 : Nat) (O0 : Old Z n0 h0) (E_a2 : Exa Z h0 a2 "java/util/ArrayList") (F_a2_modCount : Fld Z h0 a2 "java/util/AbstractList" "modCount" "I" (.int 0)) (F_a2_elementData : Fld Z h0 a2 "java/util/ArrayList" "elementData" "[Ljava/lang/Object;" (.ref w_DEFAULTCAPACITY_EMPTY_ELEMENTDATA)) (F_a2_size : Fld Z h0 a2 "java/util/ArrayList" "size" "I" (.int 0)) (WW : World1 Z mir_0 mir_1 mir_2 mir_3 w_EMPTY_ELEMENTDATA w_DEFAULTCAPACITY_EMPTY_ELEMENTDATA k_EMPTY_ELEMENTDATA k_DEFAULTCAPACITY_EMPTY_ELEMENTDATA) :
    Con l Z (⟨"java/util/ArrayList", "toArray", "()[Ljava/lang/Object;"⟩ : MethodName) jdk_38_method_16_code 1 (some (.array (.object "java/lang/Object"))) ws ({ frames := 3, cells := 1, slots := 0, locals := 48 } : Room) #[(.ref a2)] h0 (fun v h L => ∃ (b : Addr) (kb : ClassId), v = some (.ref b) ∧ Fr n0 L ∧ h0.size ≤ b ∧ Keep h0 h [] ∧ Exa Z h b "[Ljava/lang/Object;" ∧ Arv Z h b kb (.object "java/lang/Object") (0 : Int32) [] .null) := by
  refine own_body (plainFor_of_name pn_java_util_ArrayList) ?_
  intro p e s m below meth c s₁ hx hby hml hZ hown hnm hlk hret X0 e0
  have N0 := Fr.nil n0
  have K0 : Keep h0 h0 [] := Keep.refl _ _
  refine Go.st (T' := s₁) (f' := (mkF m 0 #[rv a2] [])) (fun _ k => castTop (by first | (simp [entryFrame, mkF, argsToLocals, Value.category]; done) | rfl) k) ?_
  have ⟨M_0, M_1, M_2, M_3, S_w_EMPTY_ELEMENTDATA, E_w_EMPTY_ELEMENTDATA, S_w_DEFAULTCAPACITY_EMPTY_ELEMENTDATA, E_w_DEFAULTCAPACITY_EMPTY_ELEMENTDATA, V_w_EMPTY_ELEMENTDATA, V_w_DEFAULTCAPACITY_EMPTY_ELEMENTDATA⟩ := WW
  have lt_w_EMPTY_ELEMENTDATA := E_w_EMPTY_ELEMENTDATA.lt
  have lt_w_DEFAULTCAPACITY_EMPTY_ELEMENTDATA := E_w_DEFAULTCAPACITY_EMPTY_ELEMENTDATA.lt
  have lt_a2 := E_a2.lt
  refine Go.st (f' := (mkF m 1 #[rv a2] [(.ref a2)])) (fun _ k => XS.aloadN X0.here hx rfl (hb hby d10_0) rfl rfl k) ?_
  obtain ⟨T1, X1, e1, st1⟩ := getF X0 hx hZ hown (host := "") (Or.inl (hw _ (List.mem_of_getElem? (i := 29) rfl))) Via.refl e0 F_a2_elementData (g := (mkF m 1 #[rv a2] [(.ref a2)])) rfl rfl (hb hby d10_1)
  refine Go.st (f' := (mkF m 4 #[rv a2] [(.ref w_DEFAULTCAPACITY_EMPTY_ELEMENTDATA)])) (fun _ k => st1 _ k) ?_
  refine Go.st (f' := (mkF m 5 #[rv a2] [(.ref a2), (.ref w_DEFAULTCAPACITY_EMPTY_ELEMENTDATA)])) (fun _ k => XS.aloadN X1.here hx rfl (hb hby d10_4) rfl rfl k) ?_
  obtain ⟨T2, X2, e2, st2⟩ := getF X1 hx hZ hown (host := "") (Or.inl (hw _ (List.mem_of_getElem? (i := 92) rfl))) Via.refl e1 F_a2_size (g := (mkF m 5 #[rv a2] [(.ref a2), (.ref w_DEFAULTCAPACITY_EMPTY_ELEMENTDATA)])) rfl rfl (hb hby d10_5)
  refine Go.st (f' := (mkF m 8 #[rv a2] [(.int 0), (.ref w_DEFAULTCAPACITY_EMPTY_ELEMENTDATA)])) (fun _ k => st2 _ k) ?_
  obtain ⟨_, _, ⟨T3, L3, kk3, nn3⟩, -, X3, ⟨Lc3, hQ3, lq3, yq3, zz3⟩, st3⟩ := Jvm.LawKit.callS X2 hx (y := (⟨"java/util/Arrays", "copyOf", "([Ljava/lang/Object;I)[Ljava/lang/Object;"⟩ : MethodName)) hown (mvT hZ (hw _ (List.mem_of_getElem? (i := 93) rfl))) (mvT hZ (hw _ (List.mem_of_getElem? (i := 94) rfl))) (mvT hZ (hw _ (List.mem_of_getElem? (i := 95) rfl))) (mvT hZ (hw _ (List.mem_of_getElem? (i := 96) rfl))) (by decide) (own_back (W := 0) (rmC2 l Z a0 hw [] mir_0 mir_1 mir_2 mir_3 w_EMPTY_ELEMENTDATA w_DEFAULTCAPACITY_EMPTY_ELEMENTDATA k_EMPTY_ELEMENTDATA k_DEFAULTCAPACITY_EMPTY_ELEMENTDATA h0 n0 O0 WW) hZ (hw _ (List.mem_of_getElem? (i := 96) rfl)) (hw _ (List.mem_of_getElem? (i := 95) rfl)) (by decide) (by decide)) (g := (mkF m 8 #[rv a2] [(.int 0), (.ref w_DEFAULTCAPACITY_EMPTY_ELEMENTDATA)])) rfl (by rw [hml]; rfl) (argsL := [(.ref w_DEFAULTCAPACITY_EMPTY_ELEMENTDATA), (.int (0 : Int32))]) (rest := []) (lenOf pd___Ljava_lang_Object_I__Ljava_lang_Object_ rfl) rfl (by show 2 * 0 + _ ≤ _; exact Nat.le_of_eq rfl) (hb hby d10_8) (fun _ _ => ⟨rfl, e2, (by decide : 0 + 1 ≤ _), (by decide : 0 + 0 ≤ _)⟩)
  dsimp only [Pt.U, Pt.locs, Pt.cells, Pt.slots] at X3 lq3 yq3 zz3 st3 hQ3
  subst lq3 yq3 zz3
  obtain ⟨b3, kb3, rfl, Nq3, zq3, kq3, eq3, vq3⟩ := hQ3
  have N3 := Fr.app N0 Nq3
  have ne_a2_b3 : a2 ≠ b3 := Nat.ne_of_lt (Nat.lt_of_lt_of_le lt_a2 zq3)
  have ne_w_EMPTY_ELEMENTDATA_b3 : w_EMPTY_ELEMENTDATA ≠ b3 := Nat.ne_of_lt (Nat.lt_of_lt_of_le lt_w_EMPTY_ELEMENTDATA (Nat.le_trans O0.2.1 zq3))
  have ne_w_DEFAULTCAPACITY_EMPTY_ELEMENTDATA_b3 : w_DEFAULTCAPACITY_EMPTY_ELEMENTDATA ≠ b3 := Nat.ne_of_lt (Nat.lt_of_lt_of_le lt_w_DEFAULTCAPACITY_EMPTY_ELEMENTDATA (Nat.le_trans O0.2.1 zq3))
  have g_b3 : n0 ≤ b3 := Nat.le_trans (O0.1 ▸ O0.2.1) zq3
  have sz_b3 : h0.size ≤ b3 := Nat.le_trans K0.1 zq3
  have O3 : Old Z n0 T3.heap := O0.keep kq3 all0
  have K3 : Keep h0 T3.heap [] := K0.trans kq3 all0
  have lt_b3 := eq3.lt
  refine Go.st (f' := (mkF m 11 #[rv a2] [(.ref b3)])) (fun _ k => st3 _ k) ?_
  refine Go.retV X3 hlk hx (t := (.array (.object "java/lang/Object"))) hret rfl (Or.inr (Or.inr (Or.inr (Or.inr ⟨rfl, rfl, rfl⟩)))) (hb hby d10_11) rfl ?_ (by decide) (by decide)
  exact ⟨b3, kb3, rfl, N3, sz_b3, K3, eq3, vq3⟩
theorem d9_0 : decode jdk_38_method_3_code 0 = .ok (.aload_n 0, 1) := by decide +kernel
theorem d9_1 : decode jdk_38_method_3_code 1 = .ok (.invokespecial 1, 3) := by decide +kernel
theorem d9_4 : decode jdk_38_method_3_code 4 = .ok (.aload_n 1, 1) := by decide +kernel
theorem d9_5 : decode jdk_38_method_3_code 5 = .ok (.invokeinterface 42 1, 5) := by decide +kernel
theorem pd____Ljava_lang_Object_ : parseMethodDescriptor "()[Ljava/lang/Object;" = some ⟨[], some (.array (.object "java/lang/Object"))⟩ := by decide +kernel
theorem d9_10 : decode jdk_38_method_3_code 10 = .ok (.astore_n 2, 1) := by decide +kernel
theorem d9_11 : decode jdk_38_method_3_code 11 = .ok (.aload_n 0, 1) := by decide +kernel
theorem d9_12 : decode jdk_38_method_3_code 12 = .ok (.aload_n 2, 1) := by decide +kernel
theorem d9_13 : decode jdk_38_method_3_code 13 = .ok (.arraylength, 1) := by decide +kernel
theorem d9_14 : decode jdk_38_method_3_code 14 = .ok (.dup_x1, 1) := by decide +kernel
theorem d9_15 : decode jdk_38_method_3_code 15 = .ok (.putfield 48, 3) := by decide +kernel
theorem d9_18 : decode jdk_38_method_3_code 18 = .ok (.ifCond .eq 39, 3) := by decide +kernel
theorem d9_57 : decode jdk_38_method_3_code 57 = .ok (.aload_n 0, 1) := by decide +kernel
theorem d9_58 : decode jdk_38_method_3_code 58 = .ok (.getstatic 15, 3) := by decide +kernel
theorem d9_61 : decode jdk_38_method_3_code 61 = .ok (.putfield 9, 3) := by decide +kernel
theorem d9_64 : decode jdk_38_method_3_code 64 = .ok (.return_, 1) := by decide +kernel
set_option maxRecDepth 65536 in
set_option maxHeartbeats 40000000 in
theorem rmCo (l : Launch) (Z : State) (a0 : Array Value) (hw : ∀ d ∈ tables_1, d.before a0 Z = true) (ws : List Jvm.Cond) (a1 : Addr) (a2 : Addr) (mir_0 : Addr) (mir_1 : Addr) (mir_2 : Addr) (mir_3 : Addr) (w_EMPTY_ELEMENTDATA : Addr) (w_DEFAULTCAPACITY_EMPTY_ELEMENTDATA : Addr) (k_EMPTY_ELEMENTDATA : ClassId) (k_DEFAULTCAPACITY_EMPTY_ELEMENTDATA : ClassId) (h0 : Heap) (n0 : Nat) (O0 : Old Z n0 h0) (g_a1 : n0 ≤ a1) (E_a1 : Exa Z h0 a1 "java/util/ArrayList") (F_a1_modCount : Fld Z h0 a1 "java/util/AbstractList" "modCount" "I" (.int 0)) (F_a1_elementData : Fld Z h0 a1 "java/util/ArrayList" "elementData" "[Ljava/lang/Object;" .null) (F_a1_size : Fld Z h0 a1 "java/util/ArrayList" "size" "I" (.int 0)) (ne12 : a1 ≠ a2) (E_a2 : Exa Z h0 a2 "java/util/ArrayList") (F_a2_modCount : Fld Z h0 a2 "java/util/AbstractList" "modCount" "I" (.int 0)) (F_a2_elementData : Fld Z h0 a2 "java/util/ArrayList" "elementData" "[Ljava/lang/Object;" (.ref w_DEFAULTCAPACITY_EMPTY_ELEMENTDATA)) (F_a2_size : Fld Z h0 a2 "java/util/ArrayList" "size" "I" (.int 0)) (WW : World1 Z mir_0 mir_1 mir_2 mir_3 w_EMPTY_ELEMENTDATA w_DEFAULTCAPACITY_EMPTY_ELEMENTDATA k_EMPTY_ELEMENTDATA k_DEFAULTCAPACITY_EMPTY_ELEMENTDATA) :
    Con l Z (⟨"java/util/ArrayList", "<init>", "(Ljava/util/Collection;)V"⟩ : MethodName) jdk_38_method_3_code 3 none ws ({ frames := 4, cells := 1, slots := 0, locals := 60 } : Room) #[(.ref a1), (.ref a2)] h0 (fun v h L => v = none ∧ Fr n0 L ∧ Keep h0 h [a1] ∧ Exa Z h a1 "java/util/ArrayList" ∧ Fld Z h a1 "java/util/AbstractList" "modCount" "I" (.int 0) ∧ Fld Z h a1 "java/util/ArrayList" "elementData" "[Ljava/lang/Object;" (.ref w_EMPTY_ELEMENTDATA) ∧ Fld Z h a1 "java/util/ArrayList" "size" "I" (.int 0)) := by
  refine own_body (plainFor_of_name pn_java_util_ArrayList) ?_
  intro p e s m below meth c s₁ hx hby hml hZ hown hnm hlk hret X0 e0
  have N0 := Fr.nil n0
  have K0 : Keep h0 h0 [a1] := Keep.refl _ _
  refine Go.st (T' := s₁) (f' := (mkF m 0 #[rv a1, rv a2, .unset] [])) (fun _ k => castTop (by first | (simp [entryFrame, mkF, argsToLocals, Value.category]; done) | rfl) k) ?_
  have ⟨M_0, M_1, M_2, M_3, S_w_EMPTY_ELEMENTDATA, E_w_EMPTY_ELEMENTDATA, S_w_DEFAULTCAPACITY_EMPTY_ELEMENTDATA, E_w_DEFAULTCAPACITY_EMPTY_ELEMENTDATA, V_w_EMPTY_ELEMENTDATA, V_w_DEFAULTCAPACITY_EMPTY_ELEMENTDATA⟩ := WW
  have lt_w_EMPTY_ELEMENTDATA := E_w_EMPTY_ELEMENTDATA.lt
  have lt_w_DEFAULTCAPACITY_EMPTY_ELEMENTDATA := E_w_DEFAULTCAPACITY_EMPTY_ELEMENTDATA.lt
  have lt_a2 := E_a2.lt
  have lt_a1 := E_a1.lt
  have ne_w_EMPTY_ELEMENTDATA_a1 : w_EMPTY_ELEMENTDATA ≠ a1 := O0.ne lt_w_EMPTY_ELEMENTDATA g_a1
  have ne_w_DEFAULTCAPACITY_EMPTY_ELEMENTDATA_a1 : w_DEFAULTCAPACITY_EMPTY_ELEMENTDATA ≠ a1 := O0.ne lt_w_DEFAULTCAPACITY_EMPTY_ELEMENTDATA g_a1
  refine Go.st (f' := (mkF m 1 #[rv a1, rv a2, .unset] [(.ref a1)])) (fun _ k => XS.aloadN X0.here hx rfl (hb hby d9_0) rfl rfl k) ?_
  obtain ⟨_, _, ⟨T1, L1, kk1, nn1⟩, -, X1, ⟨Lc1, hQ1, lq1, yq1, zz1⟩, st1⟩ := X0.specialBack hx (y := (⟨"java/util/AbstractList", "<init>", "()V"⟩ : MethodName)) rfl hown (mvT hZ (hw _ (List.mem_of_getElem? (i := 11) rfl))) (mvT hZ (hw _ (List.mem_of_getElem? (i := 12) rfl))) (mvT hZ (hw _ (List.mem_of_getElem? (i := 16) rfl))) (by decide) (own_back (W := 0) (rmAB l Z a0 hw [] a1 h0 n0 O0 g_a1 E_a1 F_a1_modCount F_a1_elementData F_a1_size ) hZ (hw _ (List.mem_of_getElem? (i := 16) rfl)) (hw _ (List.mem_of_getElem? (i := 15) rfl)) (by decide) (by decide)) (g := (mkF m 1 #[rv a1, rv a2, .unset] [(.ref a1)])) rfl (by rw [hml]; rfl) (Steps.refl _) (a := a1) (argsL := []) (rest := []) (lenOf pd___V rfl) rfl (by show 2 * 0 + _ ≤ _; exact Nat.le_of_eq rfl) (hb hby d9_1) (fun _ _ => ⟨rfl, e0, (by decide : 0 + 0 ≤ _), (by decide : 0 + 0 ≤ _)⟩)
  dsimp only [Pt.U, Pt.locs, Pt.cells, Pt.slots] at X1 lq1 yq1 zz1 st1 hQ1
  subst lq1 yq1 zz1
  obtain ⟨rfl, Nq1, kq1, eq1, fq1_0, fq1_1, fq1_2⟩ := hQ1
  have N1 := Fr.app N0 Nq1
  have O1 : Old Z n0 T1.heap := O0.keep kq1 (allS g_a1 all0)
  have K1 : Keep h0 T1.heap [a1] := K0.trans kq1 (allS (Or.inl (List.mem_of_getElem? (i := 0) rfl)) all0)
  refine Go.tr (f' := (mkF m 4 #[rv a1, rv a2, .unset] [])) st1 ?_
  refine Go.st (f' := (mkF m 5 #[rv a1, rv a2, .unset] [(.ref a2)])) (fun _ k => XS.aloadN X1.here hx rfl (hb hby d9_4) rfl rfl k) ?_
  have ft3 := (E_a2.keep kq1)
  have ft4 := (F_a2_modCount.keep kq1 (ninS (Ne.symm ne12) nin0))
  have ft5 := (F_a2_elementData.keep kq1 (ninS (Ne.symm ne12) nin0))
  have ft6 := (F_a2_size.keep kq1 (ninS (Ne.symm ne12) nin0))
  obtain ⟨cq2, kq2, q2a, q2b, q2c⟩ := isOf hZ rfl ft3
  obtain ⟨_, _, ⟨T2, L2, kk2, nn2⟩, -, X2, ⟨Lc2, hQ2, lq2, yq2, zz2⟩, st2⟩ := X1.interfaceBack hx (xi := (⟨"java/util/Collection", "toArray", "()[Ljava/lang/Object;"⟩ : MethodName)) (y := (⟨"java/util/ArrayList", "toArray", "()[Ljava/lang/Object;"⟩ : MethodName)) hown (mvT hZ (hw _ (List.mem_of_getElem? (i := 83) rfl))) (mvT hZ (hw _ (List.mem_of_getElem? (i := 84) rfl))) (mvT hZ (hw _ (List.mem_of_getElem? (i := 85) rfl))) (mvT hZ (hw _ (List.mem_of_getElem? (i := 86) rfl))) (mvT hZ (hw _ (List.mem_of_getElem? (i := 87) rfl))) (mvT hZ (hw _ (List.mem_of_getElem? (i := 88) rfl))) (mvT hZ (hw _ (List.mem_of_getElem? (i := 89) rfl))) (mvT hZ (hw _ (List.mem_of_getElem? (i := 90) rfl))) (by decide) (own_back (W := 0) (rmTa l Z a0 hw [] a2 mir_0 mir_1 mir_2 mir_3 w_EMPTY_ELEMENTDATA w_DEFAULTCAPACITY_EMPTY_ELEMENTDATA k_EMPTY_ELEMENTDATA k_DEFAULTCAPACITY_EMPTY_ELEMENTDATA T1.heap n0 O1 ft3 ft4 ft5 ft6 WW) hZ (hw _ (List.mem_of_getElem? (i := 91) rfl)) (hw _ (List.mem_of_getElem? (i := 7) rfl)) (by decide) (by decide)) q2a q2b q2c (g := (mkF m 5 #[rv a1, rv a2, .unset] [(.ref a2)])) rfl (by rw [hml]; rfl) (Steps.refl _) (argsL := []) (rest := []) (lenOf pd____Ljava_lang_Object_ rfl) rfl (by show 2 * 0 + _ ≤ _; exact Nat.le_of_eq rfl) (hb hby d9_5) (fun _ _ => ⟨rfl, rfl, (by decide : 0 + 1 ≤ _), (by decide : 0 + 0 ≤ _)⟩)
  dsimp only [Pt.U, Pt.locs, Pt.cells, Pt.slots] at X2 lq2 yq2 zz2 st2 hQ2
  subst lq2 yq2 zz2
  obtain ⟨b2, kb2, rfl, Nq2, zq2, kq2, eq2, vq2⟩ := hQ2
  have N2 := Fr.app N1 Nq2
  have ft7 := (Nat.lt_of_lt_of_le lt_a2 kq1.1)
  have ne_a2_b2 : a2 ≠ b2 := Nat.ne_of_lt (Nat.lt_of_lt_of_le ft7 zq2)
  have ft8 := (Nat.lt_of_lt_of_le lt_a1 kq1.1)
  have ne_a1_b2 : a1 ≠ b2 := Nat.ne_of_lt (Nat.lt_of_lt_of_le ft8 zq2)
  have ne_w_EMPTY_ELEMENTDATA_b2 : w_EMPTY_ELEMENTDATA ≠ b2 := Nat.ne_of_lt (Nat.lt_of_lt_of_le lt_w_EMPTY_ELEMENTDATA (Nat.le_trans O1.2.1 zq2))
  have ne_w_DEFAULTCAPACITY_EMPTY_ELEMENTDATA_b2 : w_DEFAULTCAPACITY_EMPTY_ELEMENTDATA ≠ b2 := Nat.ne_of_lt (Nat.lt_of_lt_of_le lt_w_DEFAULTCAPACITY_EMPTY_ELEMENTDATA (Nat.le_trans O1.2.1 zq2))
  have g_b2 : n0 ≤ b2 := Nat.le_trans (O1.1 ▸ O1.2.1) zq2
  have sz_b2 : h0.size ≤ b2 := Nat.le_trans K1.1 zq2
  have O2 : Old Z n0 T2.heap := O1.keep kq2 all0
  have K2 : Keep h0 T2.heap [a1] := K1.trans kq2 all0
  have lt_b2 := eq2.lt
  refine Go.tr (f' := (mkF m 10 #[rv a1, rv a2, .unset] [(.ref b2)])) st2 ?_
  refine Go.st (f' := (mkF m 11 #[rv a1, rv a2, rv b2] [])) (fun _ k => XS.astoreN X2.here hx rfl (hb hby d9_10) rfl rfl (l' := #[rv a1, rv a2, rv b2]) rfl k) ?_
  refine Go.st (f' := (mkF m 12 #[rv a1, rv a2, rv b2] [(.ref a1)])) (fun _ k => XS.aloadN X2.here hx rfl (hb hby d9_11) rfl rfl k) ?_
  refine Go.st (f' := (mkF m 13 #[rv a1, rv a2, rv b2] [(.ref b2), (.ref a1)])) (fun _ k => XS.aloadN X2.here hx rfl (hb hby d9_12) rfl rfl k) ?_
  obtain ⟨cl9, Ar9, -, S9, Nx9, -, -⟩ := id vq2
  refine Go.st (T' := T2) (f' := (mkF m 14 #[rv a1, rv a2, rv b2] [(.int 0), (.ref a1)])) (fun _ k => X2.arraylength hx Ar9.1 (State.isArrayOf_alike hZ.alike Ar9.2.1) (g := (mkF m 13 #[rv a1, rv a2, rv b2] [(.ref b2), (.ref a1)])) rfl rfl (hb hby d9_13) _ (by rw [len_of S9 Nx9]; exact k)) ?_
  refine Go.st (f' := (mkF m 15 #[rv a1, rv a2, rv b2] [(.int 0), (.ref a1), (.int 0)])) (fun _ k => XS.dupX1 X2.here hx rfl (hb hby d9_14) rfl rfl rfl k) ?_
  have ft10 := (eq1.keep kq2)
  have ft11 := (fq1_2.keep kq2 nin0)
  obtain ⟨T12, h12, X12, e12, W12, st12⟩ := putF X2 hx hZ hown (host := "") (Or.inl (hw _ (List.mem_of_getElem? (i := 92) rfl))) Via.refl rfl ft11 ft10 (Or.inl (hw _ (List.mem_of_getElem? (i := 72) rfl))) (hw _ (List.mem_of_getElem? (i := 6) rfl)) (ty := .int) (by decide) rfl rfl (g := (mkF m 15 #[rv a1, rv a2, rv b2] [(.int 0), (.ref a1), (.int 0)])) rfl rfl (hb hby d9_15)
  have N12 := Fr.snoc X12 N2 g_a1
  have O12 : Old Z n0 h12 := O2.wr W12 g_a1
  have K12 : Keep h0 h12 [a1] := K2.wr W12 (Or.inl (List.mem_of_getElem? (i := 0) rfl))
  have Fw12 := ft11.same W12
  refine Go.st (f' := (mkF m 18 #[rv a1, rv a2, rv b2] [(.int 0)])) (fun _ k => st12 _ k) ?_
  refine Go.st (f' := (mkF m 57 #[rv a1, rv a2, rv b2] [])) (fun _ k => XS.ifYes X12.here hx rfl (pc0 := 18) (pc' := 57) rfl (hb hby d9_18) rfl (by decide) (by decide) (by decide) k) ?_
  refine Go.st (f' := (mkF m 58 #[rv a1, rv a2, rv b2] [(.ref a1)])) (fun _ k => XS.aloadN X12.here hx rfl (hb hby d9_57) rfl rfl k) ?_
  obtain ⟨T13, X13, e13, st13⟩ := getS2 X12 hx hZ hown (host := "") (Or.inl (hw _ (List.mem_of_getElem? (i := 117) rfl))) Via.refl e12 (S_w_EMPTY_ELEMENTDATA.ext O12.2) (g := (mkF m 58 #[rv a1, rv a2, rv b2] [(.ref a1)])) rfl (hb hby d9_58)
  refine Go.st (f' := (mkF m 61 #[rv a1, rv a2, rv b2] [(.ref w_EMPTY_ELEMENTDATA), (.ref a1)])) (fun _ k => st13 _ k) ?_
  have ft14 := (ft10.wr W12)
  have ft15 := ((fq1_1.keep kq2 nin0).other W12 (Or.inr (slot_ne (Or.inl (hw _ (List.mem_of_getElem? (i := 30) rfl))) (Or.inl (hw _ (List.mem_of_getElem? (i := 72) rfl))) (by decide) (t := (.array (.object "java/lang/Object"))) (t' := .int) (by decide) (by decide))))
  obtain ⟨T16, h16, X16, e16, W16, st16⟩ := putF X13 hx hZ hown (host := "") (Or.inl (hw _ (List.mem_of_getElem? (i := 29) rfl))) Via.refl e13 ft15 ft14 (Or.inl (hw _ (List.mem_of_getElem? (i := 30) rfl))) (hw _ (List.mem_of_getElem? (i := 6) rfl)) (ty := (.array (.object "java/lang/Object"))) (by decide) rfl rfl (g := (mkF m 61 #[rv a1, rv a2, rv b2] [(.ref w_EMPTY_ELEMENTDATA), (.ref a1)])) rfl rfl (hb hby d9_61)
  have N16 := Fr.snoc X16 N12 g_a1
  have O16 : Old Z n0 h16 := O12.wr W16 g_a1
  have K16 : Keep h0 h16 [a1] := K12.wr W16 (Or.inl (List.mem_of_getElem? (i := 0) rfl))
  have Fw16 := ft15.same W16
  refine Go.st (f' := (mkF m 64 #[rv a1, rv a2, rv b2] [])) (fun _ k => st16 _ k) ?_
  refine Go.ret0 X16 hlk hx hret (hb hby d9_64) e16 ?_ (by decide) (by decide)
  have ft17 := (ft14.wr W16)
  have ft18 := (((fq1_0.keep kq2 nin0).other W12 (Or.inr (slot_ne (Or.inl (hw _ (List.mem_of_getElem? (i := 27) rfl))) (Or.inl (hw _ (List.mem_of_getElem? (i := 72) rfl))) (by decide) (t := .int) (t' := .int) (by decide) (by decide)))).other W16 (Or.inr (slot_ne (Or.inl (hw _ (List.mem_of_getElem? (i := 27) rfl))) (Or.inl (hw _ (List.mem_of_getElem? (i := 30) rfl))) (by decide) (t := .int) (t' := (.array (.object "java/lang/Object"))) (by decide) (by decide))))
  have ft19 := (Fw12.other W16 (Or.inr (slot_ne (Or.inl (hw _ (List.mem_of_getElem? (i := 72) rfl))) (Or.inl (hw _ (List.mem_of_getElem? (i := 30) rfl))) (by decide) (t := .int) (t' := (.array (.object "java/lang/Object"))) (by decide) (by decide))))
  exact ⟨rfl, N16, K16, ft17, ft18, Fw16, ft19⟩
theorem pn_java_util_Collections_UnmodifiableCollection : plainName "java/util/Collections$UnmodifiableCollection" = true := by first | (simp [plainName, overriddenIn]; done) | decide +kernel
theorem d17_0 : decode jdk_119_method_1_code 0 = .ok (.aload_n 0, 1) := by decide +kernel
theorem d17_1 : decode jdk_119_method_1_code 1 = .ok (.invokespecial 1, 3) := by decide +kernel
theorem d17_4 : decode jdk_119_method_1_code 4 = .ok (.aload_n 1, 1) := by decide +kernel
theorem d17_5 : decode jdk_119_method_1_code 5 = .ok (.ifnonnull 11, 3) := by decide +kernel
theorem d17_16 : decode jdk_119_method_1_code 16 = .ok (.aload_n 0, 1) := by decide +kernel
theorem d17_17 : decode jdk_119_method_1_code 17 = .ok (.aload_n 1, 1) := by decide +kernel
theorem d17_18 : decode jdk_119_method_1_code 18 = .ok (.putfield 10, 3) := by decide +kernel
theorem d17_21 : decode jdk_119_method_1_code 21 = .ok (.return_, 1) := by decide +kernel
set_option maxRecDepth 65536 in
set_option maxHeartbeats 40000000 in
theorem rmUC (l : Launch) (Z : State) (a0 : Array Value) (hw : ∀ d ∈ tables_1, d.before a0 Z = true) (ws : List Jvm.Cond) (a1 : Addr) (f1 : Addr) (h0 : Heap) (n0 : Nat) (O0 : Old Z n0 h0) (g_a1 : n0 ≤ a1) (E_a1 : Exa Z h0 a1 "java/util/Collections$UnmodifiableRandomAccessList") (F_a1_c : Fld Z h0 a1 "java/util/Collections$UnmodifiableCollection" "c" "Ljava/util/Collection;" .null) (F_a1_list : Fld Z h0 a1 "java/util/Collections$UnmodifiableList" "list" "Ljava/util/List;" .null) :
    Con l Z (⟨"java/util/Collections$UnmodifiableCollection", "<init>", "(Ljava/util/Collection;)V"⟩ : MethodName) jdk_119_method_1_code 2 none ws ({ frames := 1, cells := 0, slots := 0, locals := 12 } : Room) #[(.ref a1), (.ref f1)] h0 (fun v h L => v = none ∧ Fr n0 L ∧ Keep h0 h [a1] ∧ Exa Z h a1 "java/util/Collections$UnmodifiableRandomAccessList" ∧ Fld Z h a1 "java/util/Collections$UnmodifiableCollection" "c" "Ljava/util/Collection;" (.ref f1) ∧ Fld Z h a1 "java/util/Collections$UnmodifiableList" "list" "Ljava/util/List;" .null) := by
  refine own_body (plainFor_of_name pn_java_util_Collections_UnmodifiableCollection) ?_
  intro p e s m below meth c s₁ hx hby hml hZ hown hnm hlk hret X0 e0
  have N0 := Fr.nil n0
  have K0 : Keep h0 h0 [a1] := Keep.refl _ _
  refine Go.st (T' := s₁) (f' := (mkF m 0 #[rv a1, rv f1] [])) (fun _ k => castTop (by first | (simp [entryFrame, mkF, argsToLocals, Value.category]; done) | rfl) k) ?_
  have lt_a1 := E_a1.lt
  refine Go.st (f' := (mkF m 1 #[rv a1, rv f1] [(.ref a1)])) (fun _ k => XS.aloadN X0.here hx rfl (hb hby d17_0) rfl rfl k) ?_
  obtain ⟨T1, X1, e1, st1⟩ := initO X0 hx hZ hown (hw _ (List.mem_of_getElem? (i := 152) rfl)) (hw _ (List.mem_of_getElem? (i := 24) rfl)) (hw _ (List.mem_of_getElem? (i := 25) rfl)) e0 (g := (mkF m 1 #[rv a1, rv f1] [(.ref a1)])) rfl (by rw [hml]; rfl) rfl (hb hby d17_1) (by decide) (W := 0) (by show 2 * 0 + _ ≤ _; exact Nat.le_of_eq rfl) (by decide)
  refine Go.st (f' := (mkF m 4 #[rv a1, rv f1] [])) (fun _ k => st1 _ k) ?_
  refine Go.st (f' := (mkF m 5 #[rv a1, rv f1] [(.ref f1)])) (fun _ k => XS.aloadN X1.here hx rfl (hb hby d17_4) rfl rfl k) ?_
  refine Go.st (f' := (mkF m 16 #[rv a1, rv f1] [])) (fun _ k => XS.ifnonnullYes X1.here hx rfl (pc0 := 5) (pc' := 16) rfl (hb hby d17_5) rfl (by decide) (by decide) k) ?_
  refine Go.st (f' := (mkF m 17 #[rv a1, rv f1] [(.ref a1)])) (fun _ k => XS.aloadN X1.here hx rfl (hb hby d17_16) rfl rfl k) ?_
  refine Go.st (f' := (mkF m 18 #[rv a1, rv f1] [(.ref f1), (.ref a1)])) (fun _ k => XS.aloadN X1.here hx rfl (hb hby d17_17) rfl rfl k) ?_
  obtain ⟨T2, h2, X2, e2, W2, st2⟩ := putF X1 hx hZ hown (host := "") (Or.inl (hw _ (List.mem_of_getElem? (i := 153) rfl))) Via.refl e1 F_a1_c E_a1 (Or.inr ⟨(hw _ (List.mem_of_getElem? (i := 154) rfl)), rfl, hnm⟩) (hw _ (List.mem_of_getElem? (i := 135) rfl)) (ty := (.object "java/util/Collection")) (by decide) rfl rfl (g := (mkF m 18 #[rv a1, rv f1] [(.ref f1), (.ref a1)])) rfl rfl (hb hby d17_18)
  have N2 := Fr.snoc X2 N0 g_a1
  have O2 : Old Z n0 h2 := O0.wr W2 g_a1
  have K2 : Keep h0 h2 [a1] := K0.wr W2 (Or.inl (List.mem_of_getElem? (i := 0) rfl))
  have Fw2 := F_a1_c.same W2
  refine Go.st (f' := (mkF m 21 #[rv a1, rv f1] [])) (fun _ k => st2 _ k) ?_
  refine Go.ret0 X2 hlk hx hret (hb hby d17_21) e2 ?_ (by decide) (by decide)
  have ft3 := (E_a1.wr W2)
  have ft4 := (F_a1_list.other W2 (Or.inr (slot_ne (Or.inr (hw _ (List.mem_of_getElem? (i := 156) rfl))) (Or.inr (hw _ (List.mem_of_getElem? (i := 154) rfl))) (by decide) (t := (.object "java/util/List")) (t' := (.object "java/util/Collection")) (by decide) (by decide))))
  exact ⟨rfl, N2, K2, ft3, Fw2, ft4⟩
theorem pn_java_util_Collections_UnmodifiableList : plainName "java/util/Collections$UnmodifiableList" = true := by first | (simp [plainName, overriddenIn]; done) | decide +kernel
theorem d16_0 : decode jdk_120_method_1_code 0 = .ok (.aload_n 0, 1) := by decide +kernel
theorem d16_1 : decode jdk_120_method_1_code 1 = .ok (.aload_n 1, 1) := by decide +kernel
theorem d16_2 : decode jdk_120_method_1_code 2 = .ok (.invokespecial 1, 3) := by decide +kernel
theorem pd__Ljava_util_Collection__V : parseMethodDescriptor "(Ljava/util/Collection;)V" = some ⟨[(.object "java/util/Collection")], none⟩ := by decide +kernel
theorem d16_5 : decode jdk_120_method_1_code 5 = .ok (.aload_n 0, 1) := by decide +kernel
theorem d16_6 : decode jdk_120_method_1_code 6 = .ok (.aload_n 1, 1) := by decide +kernel
theorem d16_7 : decode jdk_120_method_1_code 7 = .ok (.putfield 7, 3) := by decide +kernel
theorem d16_10 : decode jdk_120_method_1_code 10 = .ok (.return_, 1) := by decide +kernel
set_option maxRecDepth 65536 in
set_option maxHeartbeats 40000000 in
theorem rmUL (l : Launch) (Z : State) (a0 : Array Value) (hw : ∀ d ∈ tables_1, d.before a0 Z = true) (ws : List Jvm.Cond) (a1 : Addr) (f1 : Addr) (h0 : Heap) (n0 : Nat) (O0 : Old Z n0 h0) (g_a1 : n0 ≤ a1) (E_a1 : Exa Z h0 a1 "java/util/Collections$UnmodifiableRandomAccessList") (F_a1_c : Fld Z h0 a1 "java/util/Collections$UnmodifiableCollection" "c" "Ljava/util/Collection;" .null) (F_a1_list : Fld Z h0 a1 "java/util/Collections$UnmodifiableList" "list" "Ljava/util/List;" .null) :
    Con l Z (⟨"java/util/Collections$UnmodifiableList", "<init>", "(Ljava/util/List;)V"⟩ : MethodName) jdk_120_method_1_code 2 none ws ({ frames := 2, cells := 0, slots := 0, locals := 25 } : Room) #[(.ref a1), (.ref f1)] h0 (fun v h L => v = none ∧ Fr n0 L ∧ Keep h0 h [a1] ∧ Exa Z h a1 "java/util/Collections$UnmodifiableRandomAccessList" ∧ Fld Z h a1 "java/util/Collections$UnmodifiableCollection" "c" "Ljava/util/Collection;" (.ref f1) ∧ Fld Z h a1 "java/util/Collections$UnmodifiableList" "list" "Ljava/util/List;" (.ref f1)) := by
  refine own_body (plainFor_of_name pn_java_util_Collections_UnmodifiableList) ?_
  intro p e s m below meth c s₁ hx hby hml hZ hown hnm hlk hret X0 e0
  have N0 := Fr.nil n0
  have K0 : Keep h0 h0 [a1] := Keep.refl _ _
  refine Go.st (T' := s₁) (f' := (mkF m 0 #[rv a1, rv f1] [])) (fun _ k => castTop (by first | (simp [entryFrame, mkF, argsToLocals, Value.category]; done) | rfl) k) ?_
  have lt_a1 := E_a1.lt
  refine Go.st (f' := (mkF m 1 #[rv a1, rv f1] [(.ref a1)])) (fun _ k => XS.aloadN X0.here hx rfl (hb hby d16_0) rfl rfl k) ?_
  refine Go.st (f' := (mkF m 2 #[rv a1, rv f1] [(.ref f1), (.ref a1)])) (fun _ k => XS.aloadN X0.here hx rfl (hb hby d16_1) rfl rfl k) ?_
  obtain ⟨_, _, ⟨T1, L1, kk1, nn1⟩, -, X1, ⟨Lc1, hQ1, lq1, yq1, zz1⟩, st1⟩ := X0.specialBack hx (y := (⟨"java/util/Collections$UnmodifiableCollection", "<init>", "(Ljava/util/Collection;)V"⟩ : MethodName)) rfl hown (mvT hZ (hw _ (List.mem_of_getElem? (i := 146) rfl))) (mvT hZ (hw _ (List.mem_of_getElem? (i := 147) rfl))) (mvT hZ (hw _ (List.mem_of_getElem? (i := 151) rfl))) (by decide) (own_back (W := 0) (rmUC l Z a0 hw [] a1 f1 h0 n0 O0 g_a1 E_a1 F_a1_c F_a1_list ) hZ (hw _ (List.mem_of_getElem? (i := 151) rfl)) (hw _ (List.mem_of_getElem? (i := 150) rfl)) (by decide) (by decide)) (g := (mkF m 2 #[rv a1, rv f1] [(.ref f1), (.ref a1)])) rfl (by rw [hml]; rfl) (Steps.refl _) (a := a1) (argsL := [(.ref f1)]) (rest := []) (lenOf pd__Ljava_util_Collection__V rfl) rfl (by show 2 * 0 + _ ≤ _; exact Nat.le_of_eq rfl) (hb hby d16_2) (fun _ _ => ⟨rfl, e0, (by decide : 0 + 0 ≤ _), (by decide : 0 + 0 ≤ _)⟩)
  dsimp only [Pt.U, Pt.locs, Pt.cells, Pt.slots] at X1 lq1 yq1 zz1 st1 hQ1
  subst lq1 yq1 zz1
  obtain ⟨rfl, Nq1, kq1, eq1, fq1_0, fq1_1⟩ := hQ1
  have N1 := Fr.app N0 Nq1
  have O1 : Old Z n0 T1.heap := O0.keep kq1 (allS g_a1 all0)
  have K1 : Keep h0 T1.heap [a1] := K0.trans kq1 (allS (Or.inl (List.mem_of_getElem? (i := 0) rfl)) all0)
  refine Go.tr (f' := (mkF m 5 #[rv a1, rv f1] [])) st1 ?_
  refine Go.st (f' := (mkF m 6 #[rv a1, rv f1] [(.ref a1)])) (fun _ k => XS.aloadN X1.here hx rfl (hb hby d16_5) rfl rfl k) ?_
  refine Go.st (f' := (mkF m 7 #[rv a1, rv f1] [(.ref f1), (.ref a1)])) (fun _ k => XS.aloadN X1.here hx rfl (hb hby d16_6) rfl rfl k) ?_
  obtain ⟨T2, h2, X2, e2, W2, st2⟩ := putF X1 hx hZ hown (host := "") (Or.inl (hw _ (List.mem_of_getElem? (i := 155) rfl))) Via.refl rfl fq1_1 eq1 (Or.inr ⟨(hw _ (List.mem_of_getElem? (i := 156) rfl)), rfl, hnm⟩) (hw _ (List.mem_of_getElem? (i := 135) rfl)) (ty := (.object "java/util/List")) (by decide) rfl rfl (g := (mkF m 7 #[rv a1, rv f1] [(.ref f1), (.ref a1)])) rfl rfl (hb hby d16_7)
  have N2 := Fr.snoc X2 N1 g_a1
  have O2 : Old Z n0 h2 := O1.wr W2 g_a1
  have K2 : Keep h0 h2 [a1] := K1.wr W2 (Or.inl (List.mem_of_getElem? (i := 0) rfl))
  have Fw2 := fq1_1.same W2
  refine Go.st (f' := (mkF m 10 #[rv a1, rv f1] [])) (fun _ k => st2 _ k) ?_
  refine Go.ret0 X2 hlk hx hret (hb hby d16_10) e2 ?_ (by decide) (by decide)
  have ft3 := (eq1.wr W2)
  have ft4 := (fq1_0.other W2 (Or.inr (slot_ne (Or.inr (hw _ (List.mem_of_getElem? (i := 154) rfl))) (Or.inr (hw _ (List.mem_of_getElem? (i := 156) rfl))) (by decide) (t := (.object "java/util/Collection")) (t' := (.object "java/util/List")) (by decide) (by decide))))
  exact ⟨rfl, N2, K2, ft3, ft4, Fw2⟩
theorem pn_java_util_Collections_UnmodifiableRandomAccessList : plainName "java/util/Collections$UnmodifiableRandomAccessList" = true := by first | (simp [plainName, overriddenIn]; done) | decide +kernel
theorem d15_0 : decode jdk_121_method_1_code 0 = .ok (.aload_n 0, 1) := by decide +kernel
theorem d15_1 : decode jdk_121_method_1_code 1 = .ok (.aload_n 1, 1) := by decide +kernel
theorem d15_2 : decode jdk_121_method_1_code 2 = .ok (.invokespecial 1, 3) := by decide +kernel
theorem pd__Ljava_util_List__V : parseMethodDescriptor "(Ljava/util/List;)V" = some ⟨[(.object "java/util/List")], none⟩ := by decide +kernel
theorem d15_5 : decode jdk_121_method_1_code 5 = .ok (.return_, 1) := by decide +kernel
set_option maxRecDepth 65536 in
set_option maxHeartbeats 40000000 in
theorem rmUR (l : Launch) (Z : State) (a0 : Array Value) (hw : ∀ d ∈ tables_1, d.before a0 Z = true) (ws : List Jvm.Cond) (a1 : Addr) (f1 : Addr) (h0 : Heap) (n0 : Nat) (O0 : Old Z n0 h0) (g_a1 : n0 ≤ a1) (E_a1 : Exa Z h0 a1 "java/util/Collections$UnmodifiableRandomAccessList") (F_a1_c : Fld Z h0 a1 "java/util/Collections$UnmodifiableCollection" "c" "Ljava/util/Collection;" .null) (F_a1_list : Fld Z h0 a1 "java/util/Collections$UnmodifiableList" "list" "Ljava/util/List;" .null) :
    Con l Z (⟨"java/util/Collections$UnmodifiableRandomAccessList", "<init>", "(Ljava/util/List;)V"⟩ : MethodName) jdk_121_method_1_code 2 none ws ({ frames := 3, cells := 0, slots := 0, locals := 38 } : Room) #[(.ref a1), (.ref f1)] h0 (fun v h L => v = none ∧ Fr n0 L ∧ Keep h0 h [a1] ∧ Exa Z h a1 "java/util/Collections$UnmodifiableRandomAccessList" ∧ Fld Z h a1 "java/util/Collections$UnmodifiableCollection" "c" "Ljava/util/Collection;" (.ref f1) ∧ Fld Z h a1 "java/util/Collections$UnmodifiableList" "list" "Ljava/util/List;" (.ref f1)) := by
  refine own_body (plainFor_of_name pn_java_util_Collections_UnmodifiableRandomAccessList) ?_
  intro p e s m below meth c s₁ hx hby hml hZ hown hnm hlk hret X0 e0
  have N0 := Fr.nil n0
  have K0 : Keep h0 h0 [a1] := Keep.refl _ _
  refine Go.st (T' := s₁) (f' := (mkF m 0 #[rv a1, rv f1] [])) (fun _ k => castTop (by first | (simp [entryFrame, mkF, argsToLocals, Value.category]; done) | rfl) k) ?_
  have lt_a1 := E_a1.lt
  refine Go.st (f' := (mkF m 1 #[rv a1, rv f1] [(.ref a1)])) (fun _ k => XS.aloadN X0.here hx rfl (hb hby d15_0) rfl rfl k) ?_
  refine Go.st (f' := (mkF m 2 #[rv a1, rv f1] [(.ref f1), (.ref a1)])) (fun _ k => XS.aloadN X0.here hx rfl (hb hby d15_1) rfl rfl k) ?_
  obtain ⟨_, _, ⟨T1, L1, kk1, nn1⟩, -, X1, ⟨Lc1, hQ1, lq1, yq1, zz1⟩, st1⟩ := X0.specialBack hx (y := (⟨"java/util/Collections$UnmodifiableList", "<init>", "(Ljava/util/List;)V"⟩ : MethodName)) rfl hown (mvT hZ (hw _ (List.mem_of_getElem? (i := 140) rfl))) (mvT hZ (hw _ (List.mem_of_getElem? (i := 141) rfl))) (mvT hZ (hw _ (List.mem_of_getElem? (i := 145) rfl))) (by decide) (own_back (W := 0) (rmUL l Z a0 hw [] a1 f1 h0 n0 O0 g_a1 E_a1 F_a1_c F_a1_list ) hZ (hw _ (List.mem_of_getElem? (i := 145) rfl)) (hw _ (List.mem_of_getElem? (i := 144) rfl)) (by decide) (by decide)) (g := (mkF m 2 #[rv a1, rv f1] [(.ref f1), (.ref a1)])) rfl (by rw [hml]; rfl) (Steps.refl _) (a := a1) (argsL := [(.ref f1)]) (rest := []) (lenOf pd__Ljava_util_List__V rfl) rfl (by show 2 * 0 + _ ≤ _; exact Nat.le_of_eq rfl) (hb hby d15_2) (fun _ _ => ⟨rfl, e0, (by decide : 0 + 0 ≤ _), (by decide : 0 + 0 ≤ _)⟩)
  dsimp only [Pt.U, Pt.locs, Pt.cells, Pt.slots] at X1 lq1 yq1 zz1 st1 hQ1
  subst lq1 yq1 zz1
  obtain ⟨rfl, Nq1, kq1, eq1, fq1_0, fq1_1⟩ := hQ1
  have N1 := Fr.app N0 Nq1
  have O1 : Old Z n0 T1.heap := O0.keep kq1 (allS g_a1 all0)
  have K1 : Keep h0 T1.heap [a1] := K0.trans kq1 (allS (Or.inl (List.mem_of_getElem? (i := 0) rfl)) all0)
  refine Go.tr (f' := (mkF m 5 #[rv a1, rv f1] [])) st1 ?_
  refine Go.ret0 X1 hlk hx hret (hb hby d15_5) rfl ?_ (by decide) (by decide)
  exact ⟨rfl, N1, K1, eq1, fq1_0, fq1_1⟩
theorem pn_java_util_Collections : plainName "java/util/Collections" = true := by first | (simp [plainName, overriddenIn]; done) | decide +kernel
theorem d14_0 : decode jdk_79_method_35_code 0 = .ok (.aload_n 0, 1) := by decide +kernel
theorem d14_1 : decode jdk_79_method_35_code 1 = .ok (.invokeinterface 211 1, 5) := by decide +kernel
theorem d14_6 : decode jdk_79_method_35_code 6 = .ok (.ldc 212, 2) := by decide +kernel
theorem d14_8 : decode jdk_79_method_35_code 8 = .ok (.if_acmp .eq 14, 3) := by decide +kernel
theorem d14_11 : decode jdk_79_method_35_code 11 = .ok (.aload_n 0, 1) := by decide +kernel
theorem d14_12 : decode jdk_79_method_35_code 12 = .ok (.invokeinterface 214 1, 5) := by decide +kernel
theorem d14_17 : decode jdk_79_method_35_code 17 = .ok (.ldc 215, 2) := by decide +kernel
theorem d14_19 : decode jdk_79_method_35_code 19 = .ok (.if_acmp .ne 5, 3) := by decide +kernel
theorem d14_24 : decode jdk_79_method_35_code 24 = .ok (.aload_n 0, 1) := by decide +kernel
theorem d14_25 : decode jdk_79_method_35_code 25 = .ok (.instanceof 13, 3) := by decide +kernel
theorem d14_28 : decode jdk_79_method_35_code 28 = .ok (.ifCond .eq 14, 3) := by decide +kernel
theorem d14_31 : decode jdk_79_method_35_code 31 = .ok (.new 215, 3) := by decide +kernel
theorem d14_34 : decode jdk_79_method_35_code 34 = .ok (.dup, 1) := by decide +kernel
theorem d14_35 : decode jdk_79_method_35_code 35 = .ok (.aload_n 0, 1) := by decide +kernel
theorem d14_36 : decode jdk_79_method_35_code 36 = .ok (.invokespecial 217, 3) := by decide +kernel
theorem d14_39 : decode jdk_79_method_35_code 39 = .ok (.goto 11, 3) := by decide +kernel
theorem d14_50 : decode jdk_79_method_35_code 50 = .ok (.areturn, 1) := by decide +kernel
set_option maxRecDepth 65536 in
set_option maxHeartbeats 40000000 in
theorem rmUm (l : Launch) (Z : State) (a0 : Array Value) (hw : ∀ d ∈ tables_1, d.before a0 Z = true) (ws : List Jvm.Cond) (a2 : Addr) (mir_0 : Addr) (mir_1 : Addr) (mir_2 : Addr) (mir_3 : Addr) (w_EMPTY_ELEMENTDATA : Addr) (w_DEFAULTCAPACITY_EMPTY_ELEMENTDATA : Addr) (k_EMPTY_ELEMENTDATA : ClassId) (k_DEFAULTCAPACITY_EMPTY_ELEMENTDATA : ClassId) (h0 : Heap) (n0 : Nat) (O0 : Old Z n0 h0) (E_a2 : Exa Z h0 a2 "java/util/ArrayList") (F_a2_modCount : Fld Z h0 a2 "java/util/AbstractList" "modCount" "I" (.int 0)) (F_a2_elementData : Fld Z h0 a2 "java/util/ArrayList" "elementData" "[Ljava/lang/Object;" (.ref w_EMPTY_ELEMENTDATA)) (F_a2_size : Fld Z h0 a2 "java/util/ArrayList" "size" "I" (.int 0)) (WW : World1 Z mir_0 mir_1 mir_2 mir_3 w_EMPTY_ELEMENTDATA w_DEFAULTCAPACITY_EMPTY_ELEMENTDATA k_EMPTY_ELEMENTDATA k_DEFAULTCAPACITY_EMPTY_ELEMENTDATA) :
    Con l Z (⟨"java/util/Collections", "unmodifiableList", "(Ljava/util/List;)Ljava/util/List;"⟩ : MethodName) jdk_79_method_35_code 1 (some (.object "java/util/List")) ws ({ frames := 4, cells := 1, slots := 2, locals := 52 } : Room) #[(.ref a2)] h0 (fun v h L => ∃ b : Addr, v = some (.ref b) ∧ Fr n0 L ∧ h0.size ≤ b ∧ Keep h0 h []) := by
  refine own_body (plainFor_of_name pn_java_util_Collections) ?_
  intro p e s m below meth c s₁ hx hby hml hZ hown hnm hlk hret X0 e0
  have N0 := Fr.nil n0
  have K0 : Keep h0 h0 [] := Keep.refl _ _
  refine Go.st (T' := s₁) (f' := (mkF m 0 #[rv a2] [])) (fun _ k => castTop (by first | (simp [entryFrame, mkF, argsToLocals, Value.category]; done) | rfl) k) ?_
  have ⟨M_0, M_1, M_2, M_3, S_w_EMPTY_ELEMENTDATA, E_w_EMPTY_ELEMENTDATA, S_w_DEFAULTCAPACITY_EMPTY_ELEMENTDATA, E_w_DEFAULTCAPACITY_EMPTY_ELEMENTDATA, V_w_EMPTY_ELEMENTDATA, V_w_DEFAULTCAPACITY_EMPTY_ELEMENTDATA⟩ := WW
  have lt_w_EMPTY_ELEMENTDATA := E_w_EMPTY_ELEMENTDATA.lt
  have lt_w_DEFAULTCAPACITY_EMPTY_ELEMENTDATA := E_w_DEFAULTCAPACITY_EMPTY_ELEMENTDATA.lt
  have lt_a2 := E_a2.lt
  refine Go.st (f' := (mkF m 1 #[rv a2] [(.ref a2)])) (fun _ k => XS.aloadN X0.here hx rfl (hb hby d14_0) rfl rfl k) ?_
  obtain ⟨T1, X1, e1, st1⟩ := own_gcI X0 hx hZ hown (xi := (⟨"java/util/List", "getClass", "()Ljava/lang/Class;"⟩ : MethodName)) (hw _ (List.mem_of_getElem? (i := 122) rfl)) (hw _ (List.mem_of_getElem? (i := 98) rfl)) (hw _ (List.mem_of_getElem? (i := 123) rfl)) (hw _ (List.mem_of_getElem? (i := 124) rfl)) (hw _ (List.mem_of_getElem? (i := 99) rfl)) (hw _ (List.mem_of_getElem? (i := 125) rfl)) (hw _ (List.mem_of_getElem? (i := 126) rfl)) (hw _ (List.mem_of_getElem? (i := 42) rfl)) (hw _ (List.mem_of_getElem? (i := 101) rfl)) (by decide) (by decide) rfl rfl e0 E_a2 M_1 (g := (mkF m 1 #[rv a2] [(.ref a2)])) rfl (by rw [hml]; rfl) rfl (hb hby d14_1) (by decide) (by show 2 * 0 + 0 + _ ≤ _; decide)
  refine Go.st (f' := (mkF m 6 #[rv a2] [(.ref mir_1)])) (fun _ k => st1 _ k) ?_
  obtain ⟨T2, X2, e2, st2⟩ := own_ldcM X1 hx hZ hown (hw _ (List.mem_of_getElem? (i := 128) rfl)) e1 M_2 (g := (mkF m 6 #[rv a2] [(.ref mir_1)])) rfl (hb hby d14_6)
  refine Go.st (f' := (mkF m 8 #[rv a2] [(.ref mir_2), (.ref mir_1)])) (fun _ k => st2 _ k) ?_
  refine Go.st (f' := (mkF m 11 #[rv a2] [])) (fun _ k => Jvm.RoadKit.acmp (g := (mkF m 8 #[rv a2] [(.ref mir_2), (.ref mir_1)])) X2 hx rfl rfl rfl (pc0 := 8) (pc' := 11) (same := false) rfl (hb hby d14_8) rfl (decide_eq_false fun q => (Mir.ne M_1 M_2 (by decide)) (Value.ref.inj q)) (by decide) (by decide) k) ?_
  refine Go.st (f' := (mkF m 12 #[rv a2] [(.ref a2)])) (fun _ k => XS.aloadN X2.here hx rfl (hb hby d14_11) rfl rfl k) ?_
  obtain ⟨T3, X3, e3, st3⟩ := own_gcI X2 hx hZ hown (xi := (⟨"java/util/List", "getClass", "()Ljava/lang/Class;"⟩ : MethodName)) (hw _ (List.mem_of_getElem? (i := 130) rfl)) (hw _ (List.mem_of_getElem? (i := 98) rfl)) (hw _ (List.mem_of_getElem? (i := 123) rfl)) (hw _ (List.mem_of_getElem? (i := 124) rfl)) (hw _ (List.mem_of_getElem? (i := 99) rfl)) (hw _ (List.mem_of_getElem? (i := 125) rfl)) (hw _ (List.mem_of_getElem? (i := 126) rfl)) (hw _ (List.mem_of_getElem? (i := 42) rfl)) (hw _ (List.mem_of_getElem? (i := 101) rfl)) (by decide) (by decide) rfl rfl e2 E_a2 M_1 (g := (mkF m 12 #[rv a2] [(.ref a2)])) rfl (by rw [hml]; rfl) rfl (hb hby d14_12) (by decide) (by show 2 * 0 + 0 + _ ≤ _; decide)
  refine Go.st (f' := (mkF m 17 #[rv a2] [(.ref mir_1)])) (fun _ k => st3 _ k) ?_
  obtain ⟨T4, X4, e4, st4⟩ := own_ldcM X3 hx hZ hown (hw _ (List.mem_of_getElem? (i := 131) rfl)) e3 M_3 (g := (mkF m 17 #[rv a2] [(.ref mir_1)])) rfl (hb hby d14_17)
  refine Go.st (f' := (mkF m 19 #[rv a2] [(.ref mir_3), (.ref mir_1)])) (fun _ k => st4 _ k) ?_
  refine Go.st (f' := (mkF m 24 #[rv a2] [])) (fun _ k => Jvm.RoadKit.acmp (g := (mkF m 19 #[rv a2] [(.ref mir_3), (.ref mir_1)])) X4 hx rfl rfl rfl (pc0 := 19) (pc' := 24) (same := false) rfl (hb hby d14_19) rfl (decide_eq_false fun q => (Mir.ne M_1 M_3 (by decide)) (Value.ref.inj q)) (by decide) (by decide) k) ?_
  refine Go.st (f' := (mkF m 25 #[rv a2] [(.ref a2)])) (fun _ k => XS.aloadN X4.here hx rfl (hb hby d14_24) rfl rfl k) ?_
  obtain ⟨T5, X5, e5, st5⟩ := instY X4 hx hZ hown (hw _ (List.mem_of_getElem? (i := 133) rfl)) e4 (Ins.of_exa E_a2 (hw _ (List.mem_of_getElem? (i := 134) rfl))) (g := (mkF m 25 #[rv a2] [(.ref a2)])) rfl rfl (hb hby d14_25)
  refine Go.st (f' := (mkF m 28 #[rv a2] [(.int 1)])) (fun _ k => st5 _ k) ?_
  refine Go.st (f' := (mkF m 31 #[rv a2] [])) (fun _ k => XS.ifNo X5.here hx rfl (hb hby d14_28) rfl (by decide) k) ?_
  obtain ⟨T6, h6, X6, e6, E6, A6, D6, -, st6⟩ := newO X5 hx hZ hown (hw _ (List.mem_of_getElem? (i := 131) rfl)) (hw _ (List.mem_of_getElem? (i := 135) rfl)) (hw _ (List.mem_of_getElem? (i := 136) rfl)) e5 (g := (mkF m 31 #[rv a2] [])) rfl (hb hby d14_31) (by decide) (by decide)
  obtain ⟨b6, g6⟩ : ∃ z, z = h0.size := ⟨_, rfl⟩
  rw [← g6] at A6 D6 st6
  have ne_a2_b6 : a2 ≠ b6 := Nat.ne_of_lt (Nat.lt_of_lt_of_eq lt_a2 g6.symm)
  have ne_w_EMPTY_ELEMENTDATA_b6 : w_EMPTY_ELEMENTDATA ≠ b6 := Nat.ne_of_lt (Nat.lt_of_lt_of_le lt_w_EMPTY_ELEMENTDATA (Nat.le_trans O0.2.1 (Nat.le_of_eq g6.symm)))
  have ne_w_DEFAULTCAPACITY_EMPTY_ELEMENTDATA_b6 : w_DEFAULTCAPACITY_EMPTY_ELEMENTDATA ≠ b6 := Nat.ne_of_lt (Nat.lt_of_lt_of_le lt_w_DEFAULTCAPACITY_EMPTY_ELEMENTDATA (Nat.le_trans O0.2.1 (Nat.le_of_eq g6.symm)))
  have g_b6 : n0 ≤ b6 := Nat.le_trans (O0.1 ▸ O0.2.1) (Nat.le_of_eq g6.symm)
  have O6 : Old Z n0 h6 := O0.ext E6
  have sz_b6 : h0.size ≤ b6 := Nat.le_trans K0.1 (Nat.le_of_eq g6.symm)
  have K6 : Keep h0 h6 [] := K0.ext E6
  have lt_b6 := A6.lt
  have F_c_b6 : Fld Z h6 b6 "java/util/Collections$UnmodifiableCollection" "c" "Ljava/util/Collection;" .null := D6 (Or.inr (hw _ (List.mem_of_getElem? (i := 154) rfl))) (ty := (.object "java/util/Collection")) (by decide)
  have F_list_b6 : Fld Z h6 b6 "java/util/Collections$UnmodifiableList" "list" "Ljava/util/List;" .null := D6 (Or.inr (hw _ (List.mem_of_getElem? (i := 156) rfl))) (ty := (.object "java/util/List")) (by decide)
  refine Go.st (f' := (mkF m 34 #[rv a2] [(.ref b6)])) (fun _ k => st6 _ k) ?_
  refine Go.st (f' := (mkF m 35 #[rv a2] [(.ref b6), (.ref b6)])) (fun _ k => XS.dup X6.here hx rfl (hb hby d14_34) rfl rfl k) ?_
  refine Go.st (f' := (mkF m 36 #[rv a2] [(.ref a2), (.ref b6), (.ref b6)])) (fun _ k => XS.aloadN X6.here hx rfl (hb hby d14_35) rfl rfl k) ?_
  obtain ⟨_, _, ⟨T7, L7, kk7, nn7⟩, -, X7, ⟨Lc7, hQ7, lq7, yq7, zz7⟩, st7⟩ := X6.specialBack hx (y := (⟨"java/util/Collections$UnmodifiableRandomAccessList", "<init>", "(Ljava/util/List;)V"⟩ : MethodName)) rfl hown (mvT hZ (hw _ (List.mem_of_getElem? (i := 137) rfl))) (mvT hZ (hw _ (List.mem_of_getElem? (i := 138) rfl))) (mvT hZ (hw _ (List.mem_of_getElem? (i := 139) rfl))) (by decide) (own_back (W := 1) (rmUR l Z a0 hw [] b6 a2 h6 n0 O6 g_b6 A6 F_c_b6 F_list_b6 ) hZ (hw _ (List.mem_of_getElem? (i := 139) rfl)) (hw _ (List.mem_of_getElem? (i := 136) rfl)) (by decide) (by decide)) (g := (mkF m 36 #[rv a2] [(.ref a2), (.ref b6), (.ref b6)])) rfl (by rw [hml]; rfl) (Steps.refl _) (a := b6) (argsL := [(.ref a2)]) (rest := [(.ref b6)]) (lenOf pd__Ljava_util_List__V rfl) rfl (by show 2 * 0 + _ ≤ _; exact Nat.le_of_eq rfl) (hb hby d14_36) (fun _ _ => ⟨rfl, e6, (by decide : 1 + 0 ≤ _), (by decide : 2 + 0 ≤ _)⟩)
  dsimp only [Pt.U, Pt.locs, Pt.cells, Pt.slots] at X7 lq7 yq7 zz7 st7 hQ7
  subst lq7 yq7 zz7
  obtain ⟨rfl, Nq7, kq7, eq7, fq7_0, fq7_1⟩ := hQ7
  have N7 := Fr.app N0 Nq7
  have O7 : Old Z n0 T7.heap := O6.keep kq7 (allS g_b6 all0)
  have K7 : Keep h0 T7.heap [] := K6.trans kq7 (allS (Or.inr sz_b6) all0)
  refine Go.tr (f' := (mkF m 39 #[rv a2] [(.ref b6)])) st7 ?_
  refine Go.st (f' := (mkF m 50 #[rv a2] [(.ref b6)])) (fun _ k => XS.goto X7.here hx rfl (pc0 := 39) (pc' := 50) rfl (hb hby d14_39) (by decide) (by decide) k) ?_
  refine Go.retV X7 hlk hx (t := (.object "java/util/List")) hret rfl (Or.inr (Or.inr (Or.inr (Or.inr ⟨rfl, rfl, rfl⟩)))) (hb hby d14_50) rfl ?_ (by decide) (by decide)
  exact ⟨b6, rfl, N7, sz_b6, K7⟩
theorem ar1 {q : Int32} (h : 1 ≤ q.toInt ∧ q.toInt ≤ 65536) : (q + 2).toInt = q.toInt + 2 ∧ (q + 1).toInt = q.toInt + 1 := by
  have a1 := c_iadd q 2
  have a2 := c_iadd q 1
  have r1 := rng32 (q + 2)
  have r2 := rng32 (q + 1)
  have e1 : (1 : Int32).toInt = 1 := by decide
  have e2 : (2 : Int32).toInt = 2 := by decide
  omega
theorem ar_neg {x : Int32} (h : 0 ≤ x.toInt) : ¬ x < 0 := by
  rw [Int32.lt_iff_toInt_lt]; have e0 : (0 : Int32).toInt = 0 := by decide
  omega
theorem ar_cap {x : Int32} {n : Nat} (h : x.toInt ≤ n) : x.toNatClampNeg ≤ n := by
  simp only [Int32.toNatClampNeg]; omega
theorem ar_lt {x y : Int32} (h : x.toInt < y.toInt) : x < y := by rw [Int32.lt_iff_toInt_lt]; exact h
theorem ar_sub {i : Int32} (h : 1 ≤ i.toInt) : (i - 1).toInt = i.toInt - 1 := by
  have a1 := c_isub i 1
  have r1 := rng32 (i - 1)
  have r2 := rng32 i
  have e1 : (1 : Int32).toInt = 1 := by decide
  omega
theorem ar_inc {i q : Int32} (h : i.toInt ≤ q.toInt + 1) (hb : q.toInt ≤ 65536) (h0 : 1 ≤ i.toInt) : (i + 1).toInt = i.toInt + 1 := by
  have a1 := c_iadd i 1
  have r1 := rng32 (i + 1)
  have e1 : (1 : Int32).toInt = 1 := by decide
  omega
theorem pn_com_example_kinetic_city_kineticcity_engine_Network : plainName "com/example/kinetic_city/kineticcity/engine/Network" = true := by first | (simp [plainName, overriddenIn]; done) | decide +kernel
theorem d5_0 : decode prog_17_method_1_code 0 = .ok (.aload_n 0, 1) := by decide +kernel
theorem d5_1 : decode prog_17_method_1_code 1 = .ok (.invokespecial 1, 3) := by decide +kernel
theorem d5_4 : decode prog_17_method_1_code 4 = .ok (.iload_n 2, 1) := by decide +kernel
theorem d5_5 : decode prog_17_method_1_code 5 = .ok (.iconst 1, 1) := by decide +kernel
theorem d5_6 : decode prog_17_method_1_code 6 = .ok (.if_icmp .lt 8, 3) := by decide +kernel
theorem d5_9 : decode prog_17_method_1_code 9 = .ok (.iload_n 2, 1) := by decide +kernel
theorem d5_10 : decode prog_17_method_1_code 10 = .ok (.iload_n 1, 1) := by decide +kernel
theorem d5_11 : decode prog_17_method_1_code 11 = .ok (.if_icmp .le 18, 3) := by decide +kernel
theorem d5_29 : decode prog_17_method_1_code 29 = .ok (.iload_n 3, 1) := by decide +kernel
theorem d5_30 : decode prog_17_method_1_code 30 = .ok (.iconst 1, 1) := by decide +kernel
theorem d5_31 : decode prog_17_method_1_code 31 = .ok (.if_icmp .lt 10, 3) := by decide +kernel
theorem d5_34 : decode prog_17_method_1_code 34 = .ok (.iload_n 3, 1) := by decide +kernel
theorem d5_35 : decode prog_17_method_1_code 35 = .ok (.iload_n 1, 1) := by decide +kernel
theorem d5_36 : decode prog_17_method_1_code 36 = .ok (.iconst 1, 1) := by decide +kernel
theorem d5_37 : decode prog_17_method_1_code 37 = .ok (.iadd, 1) := by decide +kernel
theorem d5_38 : decode prog_17_method_1_code 38 = .ok (.if_icmp .le 20, 3) := by decide +kernel
theorem d5_58 : decode prog_17_method_1_code 58 = .ok (.aload 4, 2) := by decide +kernel
theorem d5_60 : decode prog_17_method_1_code 60 = .ok (.invokeinterface 17 1, 5) := by decide +kernel
theorem pd___Ljava_util_Iterator_ : parseMethodDescriptor "()Ljava/util/Iterator;" = some ⟨[], some (.object "java/util/Iterator")⟩ := by decide +kernel
theorem d5_65 : decode prog_17_method_1_code 65 = .ok (.astore 5, 2) := by decide +kernel
theorem d5_67 : decode prog_17_method_1_code 67 = .ok (.aload 5, 2) := by decide +kernel
theorem d5_69 : decode prog_17_method_1_code 69 = .ok (.invokeinterface 23 1, 5) := by decide +kernel
theorem pd___Z : parseMethodDescriptor "()Z" = some ⟨[], some .boolean⟩ := by decide +kernel
theorem d5_74 : decode prog_17_method_1_code 74 = .ok (.ifCond .eq 36, 3) := by decide +kernel
theorem d5_110 : decode prog_17_method_1_code 110 = .ok (.aload_n 0, 1) := by decide +kernel
theorem d5_111 : decode prog_17_method_1_code 111 = .ok (.iload_n 1, 1) := by decide +kernel
theorem d5_112 : decode prog_17_method_1_code 112 = .ok (.putfield 48, 3) := by decide +kernel
theorem d5_115 : decode prog_17_method_1_code 115 = .ok (.aload_n 0, 1) := by decide +kernel
theorem d5_116 : decode prog_17_method_1_code 116 = .ok (.iload_n 2, 1) := by decide +kernel
theorem d5_117 : decode prog_17_method_1_code 117 = .ok (.putfield 52, 3) := by decide +kernel
theorem d5_120 : decode prog_17_method_1_code 120 = .ok (.aload_n 0, 1) := by decide +kernel
theorem d5_121 : decode prog_17_method_1_code 121 = .ok (.iload_n 3, 1) := by decide +kernel
theorem d5_122 : decode prog_17_method_1_code 122 = .ok (.putfield 55, 3) := by decide +kernel
theorem d5_125 : decode prog_17_method_1_code 125 = .ok (.aload_n 0, 1) := by decide +kernel
theorem d5_126 : decode prog_17_method_1_code 126 = .ok (.new 58, 3) := by decide +kernel
theorem d5_129 : decode prog_17_method_1_code 129 = .ok (.dup, 1) := by decide +kernel
theorem d5_130 : decode prog_17_method_1_code 130 = .ok (.aload 4, 2) := by decide +kernel
theorem d5_132 : decode prog_17_method_1_code 132 = .ok (.invokespecial 60, 3) := by decide +kernel
theorem d5_135 : decode prog_17_method_1_code 135 = .ok (.invokestatic 63, 3) := by decide +kernel
theorem pd__Ljava_util_List__Ljava_util_List_ : parseMethodDescriptor "(Ljava/util/List;)Ljava/util/List;" = some ⟨[(.object "java/util/List")], some (.object "java/util/List")⟩ := by decide +kernel
theorem d5_138 : decode prog_17_method_1_code 138 = .ok (.putfield 69, 3) := by decide +kernel
theorem d5_141 : decode prog_17_method_1_code 141 = .ok (.aload_n 0, 1) := by decide +kernel
theorem d5_142 : decode prog_17_method_1_code 142 = .ok (.aload 4, 2) := by decide +kernel
theorem d5_144 : decode prog_17_method_1_code 144 = .ok (.invokeinterface 73 1, 5) := by decide +kernel
theorem pd___I : parseMethodDescriptor "()I" = some ⟨[], some .int⟩ := by decide +kernel
theorem d5_149 : decode prog_17_method_1_code 149 = .ok (.newarray .int, 2) := by decide +kernel
theorem d5_151 : decode prog_17_method_1_code 151 = .ok (.putfield 76, 3) := by decide +kernel
theorem d5_154 : decode prog_17_method_1_code 154 = .ok (.iconst 0, 1) := by decide +kernel
theorem d5_155 : decode prog_17_method_1_code 155 = .ok (.istore 5, 2) := by decide +kernel
theorem d5_157 : decode prog_17_method_1_code 157 = .ok (.iload 5, 2) := by decide +kernel
theorem d5_159 : decode prog_17_method_1_code 159 = .ok (.aload 4, 2) := by decide +kernel
theorem d5_161 : decode prog_17_method_1_code 161 = .ok (.invokeinterface 73 1, 5) := by decide +kernel
theorem d5_166 : decode prog_17_method_1_code 166 = .ok (.if_icmp .ge 31, 3) := by decide +kernel
theorem d5_197 : decode prog_17_method_1_code 197 = .ok (.aload_n 0, 1) := by decide +kernel
theorem d5_198 : decode prog_17_method_1_code 198 = .ok (.iload_n 1, 1) := by decide +kernel
theorem d5_199 : decode prog_17_method_1_code 199 = .ok (.iconst 2, 1) := by decide +kernel
theorem d5_200 : decode prog_17_method_1_code 200 = .ok (.iadd, 1) := by decide +kernel
theorem d5_201 : decode prog_17_method_1_code 201 = .ok (.newarray .int, 2) := by decide +kernel
theorem d5_203 : decode prog_17_method_1_code 203 = .ok (.putfield 84, 3) := by decide +kernel
theorem d5_206 : decode prog_17_method_1_code 206 = .ok (.aload_n 0, 1) := by decide +kernel
theorem d5_207 : decode prog_17_method_1_code 207 = .ok (.getfield 76, 3) := by decide +kernel
theorem d5_210 : decode prog_17_method_1_code 210 = .ok (.astore 5, 2) := by decide +kernel
theorem d5_212 : decode prog_17_method_1_code 212 = .ok (.aload 5, 2) := by decide +kernel
theorem d5_214 : decode prog_17_method_1_code 214 = .ok (.arraylength, 1) := by decide +kernel
theorem d5_215 : decode prog_17_method_1_code 215 = .ok (.istore 6, 2) := by decide +kernel
theorem d5_217 : decode prog_17_method_1_code 217 = .ok (.iconst 0, 1) := by decide +kernel
theorem d5_218 : decode prog_17_method_1_code 218 = .ok (.istore 7, 2) := by decide +kernel
theorem d5_220 : decode prog_17_method_1_code 220 = .ok (.iload 7, 2) := by decide +kernel
theorem d5_222 : decode prog_17_method_1_code 222 = .ok (.iload 6, 2) := by decide +kernel
theorem d5_224 : decode prog_17_method_1_code 224 = .ok (.if_icmp .ge 29, 3) := by decide +kernel
theorem d5_253 : decode prog_17_method_1_code 253 = .ok (.iconst 1, 1) := by decide +kernel
theorem d5_254 : decode prog_17_method_1_code 254 = .ok (.istore 5, 2) := by decide +kernel
theorem d5_256 : decode prog_17_method_1_code 256 = .ok (.iload 5, 2) := by decide +kernel
theorem d5_258 : decode prog_17_method_1_code 258 = .ok (.iload_n 1, 1) := by decide +kernel
theorem d5_259 : decode prog_17_method_1_code 259 = .ok (.iconst 1, 1) := by decide +kernel
theorem d5_260 : decode prog_17_method_1_code 260 = .ok (.iadd, 1) := by decide +kernel
theorem d5_261 : decode prog_17_method_1_code 261 = .ok (.if_icmp .gt 28, 3) := by decide +kernel
theorem d5_289 : decode prog_17_method_1_code 289 = .ok (.aload_n 0, 1) := by decide +kernel
theorem d5_290 : decode prog_17_method_1_code 290 = .ok (.aload 4, 2) := by decide +kernel
theorem d5_292 : decode prog_17_method_1_code 292 = .ok (.invokeinterface 73 1, 5) := by decide +kernel
theorem d5_297 : decode prog_17_method_1_code 297 = .ok (.newarray .int, 2) := by decide +kernel
theorem d5_299 : decode prog_17_method_1_code 299 = .ok (.putfield 87, 3) := by decide +kernel
theorem d5_302 : decode prog_17_method_1_code 302 = .ok (.aload_n 0, 1) := by decide +kernel
theorem d5_303 : decode prog_17_method_1_code 303 = .ok (.aload 4, 2) := by decide +kernel
theorem d5_305 : decode prog_17_method_1_code 305 = .ok (.invokeinterface 73 1, 5) := by decide +kernel
theorem d5_310 : decode prog_17_method_1_code 310 = .ok (.newarray .int, 2) := by decide +kernel
theorem d5_312 : decode prog_17_method_1_code 312 = .ok (.putfield 90, 3) := by decide +kernel
theorem d5_315 : decode prog_17_method_1_code 315 = .ok (.iload_n 1, 1) := by decide +kernel
theorem d5_316 : decode prog_17_method_1_code 316 = .ok (.iconst 1, 1) := by decide +kernel
theorem d5_317 : decode prog_17_method_1_code 317 = .ok (.iadd, 1) := by decide +kernel
theorem d5_318 : decode prog_17_method_1_code 318 = .ok (.newarray .int, 2) := by decide +kernel
theorem d5_320 : decode prog_17_method_1_code 320 = .ok (.astore 5, 2) := by decide +kernel
theorem d5_322 : decode prog_17_method_1_code 322 = .ok (.iconst 0, 1) := by decide +kernel
theorem d5_323 : decode prog_17_method_1_code 323 = .ok (.istore 6, 2) := by decide +kernel
theorem d5_325 : decode prog_17_method_1_code 325 = .ok (.iload 6, 2) := by decide +kernel
theorem d5_327 : decode prog_17_method_1_code 327 = .ok (.aload 4, 2) := by decide +kernel
theorem d5_329 : decode prog_17_method_1_code 329 = .ok (.invokeinterface 73 1, 5) := by decide +kernel
theorem d5_334 : decode prog_17_method_1_code 334 = .ok (.if_icmp .ge 73, 3) := by decide +kernel
theorem d5_407 : decode prog_17_method_1_code 407 = .ok (.return_, 1) := by decide +kernel
theorem d5_264 : decode prog_17_method_1_code 264 = .ok (.aload_n 0, 1) := by decide +kernel
theorem d5_265 : decode prog_17_method_1_code 265 = .ok (.getfield 84, 3) := by decide +kernel
theorem d5_268 : decode prog_17_method_1_code 268 = .ok (.iload 5, 2) := by decide +kernel
theorem d5_270 : decode prog_17_method_1_code 270 = .ok (.dup2, 1) := by decide +kernel
theorem d5_271 : decode prog_17_method_1_code 271 = .ok (.iaload, 1) := by decide +kernel
theorem d5_272 : decode prog_17_method_1_code 272 = .ok (.aload_n 0, 1) := by decide +kernel
theorem d5_273 : decode prog_17_method_1_code 273 = .ok (.getfield 84, 3) := by decide +kernel
theorem d5_276 : decode prog_17_method_1_code 276 = .ok (.iload 5, 2) := by decide +kernel
theorem d5_278 : decode prog_17_method_1_code 278 = .ok (.iconst 1, 1) := by decide +kernel
theorem d5_279 : decode prog_17_method_1_code 279 = .ok (.isub, 1) := by decide +kernel
theorem d5_280 : decode prog_17_method_1_code 280 = .ok (.iaload, 1) := by decide +kernel
theorem d5_281 : decode prog_17_method_1_code 281 = .ok (.iadd, 1) := by decide +kernel
theorem d5_282 : decode prog_17_method_1_code 282 = .ok (.iastore, 1) := by decide +kernel
theorem d5_283 : decode prog_17_method_1_code 283 = .ok (.iinc 5 1, 3) := by decide +kernel
theorem d5_286 : decode prog_17_method_1_code 286 = .ok (.goto (-30), 3) := by decide +kernel
set_option maxRecDepth 65536 in
set_option maxHeartbeats 40000000 in
theorem rmN (l : Launch) (Z : State) (a0 : Array Value) (hw : ∀ d ∈ tables_1, d.before a0 Z = true) (ws : List Jvm.Cond) (a1 : Addr) (q1 : Int32) (q2 : Int32) (q3 : Int32) (a2 : Addr) (mir_0 : Addr) (mir_1 : Addr) (mir_2 : Addr) (mir_3 : Addr) (w_EMPTY_ELEMENTDATA : Addr) (w_DEFAULTCAPACITY_EMPTY_ELEMENTDATA : Addr) (k_EMPTY_ELEMENTDATA : ClassId) (k_DEFAULTCAPACITY_EMPTY_ELEMENTDATA : ClassId) (h0 : Heap) (n0 : Nat) (O0 : Old Z n0 h0) (hq1 : ¬ q2 < (1 : Int32)) (hq2 : ¬ q1 < q2) (hq3 : ¬ q3 < (1 : Int32)) (hq4 : ¬ (q1 + (1 : Int32)) < q3) (hB : 1 ≤ q1.toInt ∧ q1.toInt ≤ 65536) (g_a1 : n0 ≤ a1) (E_a1 : Exa Z h0 a1 "com/example/kinetic_city/kineticcity/engine/Network") (F_a1_nodeCount : Fld Z h0 a1 "com/example/kinetic_city/kineticcity/engine/Network" "nodeCount" "I" (.int 0)) (F_a1_zoneCount : Fld Z h0 a1 "com/example/kinetic_city/kineticcity/engine/Network" "zoneCount" "I" (.int 0)) (F_a1_firstThroughNode : Fld Z h0 a1 "com/example/kinetic_city/kineticcity/engine/Network" "firstThroughNode" "I" (.int 0)) (F_a1_links : Fld Z h0 a1 "com/example/kinetic_city/kineticcity/engine/Network" "links" "Ljava/util/List;" .null) (F_a1_initNodes : Fld Z h0 a1 "com/example/kinetic_city/kineticcity/engine/Network" "initNodes" "[I" .null) (F_a1_outgoingStart : Fld Z h0 a1 "com/example/kinetic_city/kineticcity/engine/Network" "outgoingStart" "[I" .null) (F_a1_outgoing : Fld Z h0 a1 "com/example/kinetic_city/kineticcity/engine/Network" "outgoing" "[I" .null) (F_a1_outgoingTermNodes : Fld Z h0 a1 "com/example/kinetic_city/kineticcity/engine/Network" "outgoingTermNodes" "[I" .null) (ne12 : a1 ≠ a2) (E_a2 : Exa Z h0 a2 "java/util/ArrayList") (F_a2_modCount : Fld Z h0 a2 "java/util/AbstractList" "modCount" "I" (.int 0)) (F_a2_elementData : Fld Z h0 a2 "java/util/ArrayList" "elementData" "[Ljava/lang/Object;" (.ref w_DEFAULTCAPACITY_EMPTY_ELEMENTDATA)) (F_a2_size : Fld Z h0 a2 "java/util/ArrayList" "size" "I" (.int 0)) (WW : World1 Z mir_0 mir_1 mir_2 mir_3 w_EMPTY_ELEMENTDATA w_DEFAULTCAPACITY_EMPTY_ELEMENTDATA k_EMPTY_ELEMENTDATA k_DEFAULTCAPACITY_EMPTY_ELEMENTDATA) :
    Con l Z (⟨"com/example/kinetic_city/kineticcity/engine/Network", "<init>", "(IIILjava/util/List;)V"⟩ : MethodName) prog_17_method_1_code 9 none ws ({ frames := 5, cells := 9, slots := 131084, locals := 76 } : Room) #[(.ref a1), (.int q1), (.int q2), (.int q3), (.ref a2)] h0 (fun v h L => v = none ∧ Fr n0 L ∧ Keep h0 h [a1] ∧ Exa Z h a1 "com/example/kinetic_city/kineticcity/engine/Network" ∧ Fld Z h a1 "com/example/kinetic_city/kineticcity/engine/Network" "zoneCount" "I" (.int q2)) := by
  refine own_body (plainFor_of_name pn_com_example_kinetic_city_kineticcity_engine_Network) ?_
  intro p e s m below meth c s₁ hx hby hml hZ hown hnm hlk hret X0 e0
  have N0 := Fr.nil n0
  have K0 : Keep h0 h0 [a1] := Keep.refl _ _
  refine Go.st (T' := s₁) (f' := (mkF m 0 #[rv a1, iv q1, iv q2, iv q3, rv a2, .unset, .unset, .unset, .unset] [])) (fun _ k => castTop (by first | (simp [entryFrame, mkF, argsToLocals, Value.category]; done) | rfl) k) ?_
  have ⟨M_0, M_1, M_2, M_3, S_w_EMPTY_ELEMENTDATA, E_w_EMPTY_ELEMENTDATA, S_w_DEFAULTCAPACITY_EMPTY_ELEMENTDATA, E_w_DEFAULTCAPACITY_EMPTY_ELEMENTDATA, V_w_EMPTY_ELEMENTDATA, V_w_DEFAULTCAPACITY_EMPTY_ELEMENTDATA⟩ := WW
  have lt_w_EMPTY_ELEMENTDATA := E_w_EMPTY_ELEMENTDATA.lt
  have lt_w_DEFAULTCAPACITY_EMPTY_ELEMENTDATA := E_w_DEFAULTCAPACITY_EMPTY_ELEMENTDATA.lt
  have lt_a2 := E_a2.lt
  have lt_a1 := E_a1.lt
  have ne_w_EMPTY_ELEMENTDATA_a1 : w_EMPTY_ELEMENTDATA ≠ a1 := O0.ne lt_w_EMPTY_ELEMENTDATA g_a1
  have ne_w_DEFAULTCAPACITY_EMPTY_ELEMENTDATA_a1 : w_DEFAULTCAPACITY_EMPTY_ELEMENTDATA ≠ a1 := O0.ne lt_w_DEFAULTCAPACITY_EMPTY_ELEMENTDATA g_a1
  refine Go.st (f' := (mkF m 1 #[rv a1, iv q1, iv q2, iv q3, rv a2, .unset, .unset, .unset, .unset] [(.ref a1)])) (fun _ k => XS.aloadN X0.here hx rfl (hb hby d5_0) rfl rfl k) ?_
  obtain ⟨T1, X1, e1, st1⟩ := initO X0 hx hZ hown (hw _ (List.mem_of_getElem? (i := 34) rfl)) (hw _ (List.mem_of_getElem? (i := 24) rfl)) (hw _ (List.mem_of_getElem? (i := 25) rfl)) e0 (g := (mkF m 1 #[rv a1, iv q1, iv q2, iv q3, rv a2, .unset, .unset, .unset, .unset] [(.ref a1)])) rfl (by rw [hml]; rfl) rfl (hb hby d5_1) (by decide) (W := 0) (by show 2 * 0 + _ ≤ _; exact Nat.le_of_eq rfl) (by decide)
  refine Go.st (f' := (mkF m 4 #[rv a1, iv q1, iv q2, iv q3, rv a2, .unset, .unset, .unset, .unset] [])) (fun _ k => st1 _ k) ?_
  refine Go.st (f' := (mkF m 5 #[rv a1, iv q1, iv q2, iv q3, rv a2, .unset, .unset, .unset, .unset] [(.int q2)])) (fun _ k => XS.iloadN X1.here hx rfl (hb hby d5_4) rfl k) ?_
  refine Go.st (f' := (mkF m 6 #[rv a1, iv q1, iv q2, iv q3, rv a2, .unset, .unset, .unset, .unset] [(.int 1), (.int q2)])) (fun _ k => XS.iconst X1.here hx rfl (hb hby d5_5) k) ?_
  refine Go.st (f' := (mkF m 9 #[rv a1, iv q1, iv q2, iv q3, rv a2, .unset, .unset, .unset, .unset] [])) (fun _ k => XS.icmpNo X1.here hx rfl (hb hby d5_6) rfl (flt hq1).1 k) ?_
  refine Go.st (f' := (mkF m 10 #[rv a1, iv q1, iv q2, iv q3, rv a2, .unset, .unset, .unset, .unset] [(.int q2)])) (fun _ k => XS.iloadN X1.here hx rfl (hb hby d5_9) rfl k) ?_
  refine Go.st (f' := (mkF m 11 #[rv a1, iv q1, iv q2, iv q3, rv a2, .unset, .unset, .unset, .unset] [(.int q1), (.int q2)])) (fun _ k => XS.iloadN X1.here hx rfl (hb hby d5_10) rfl k) ?_
  refine Go.st (f' := (mkF m 29 #[rv a1, iv q1, iv q2, iv q3, rv a2, .unset, .unset, .unset, .unset] [])) (fun _ k => XS.icmpYes X1.here hx rfl (pc0 := 11) (pc' := 29) rfl (hb hby d5_11) rfl (flt hq2).2.2.2 (by decide) (by decide) k) ?_
  refine Go.st (f' := (mkF m 30 #[rv a1, iv q1, iv q2, iv q3, rv a2, .unset, .unset, .unset, .unset] [(.int q3)])) (fun _ k => XS.iloadN X1.here hx rfl (hb hby d5_29) rfl k) ?_
  refine Go.st (f' := (mkF m 31 #[rv a1, iv q1, iv q2, iv q3, rv a2, .unset, .unset, .unset, .unset] [(.int 1), (.int q3)])) (fun _ k => XS.iconst X1.here hx rfl (hb hby d5_30) k) ?_
  refine Go.st (f' := (mkF m 34 #[rv a1, iv q1, iv q2, iv q3, rv a2, .unset, .unset, .unset, .unset] [])) (fun _ k => XS.icmpNo X1.here hx rfl (hb hby d5_31) rfl (flt hq3).1 k) ?_
  refine Go.st (f' := (mkF m 35 #[rv a1, iv q1, iv q2, iv q3, rv a2, .unset, .unset, .unset, .unset] [(.int q3)])) (fun _ k => XS.iloadN X1.here hx rfl (hb hby d5_34) rfl k) ?_
  refine Go.st (f' := (mkF m 36 #[rv a1, iv q1, iv q2, iv q3, rv a2, .unset, .unset, .unset, .unset] [(.int q1), (.int q3)])) (fun _ k => XS.iloadN X1.here hx rfl (hb hby d5_35) rfl k) ?_
  refine Go.st (f' := (mkF m 37 #[rv a1, iv q1, iv q2, iv q3, rv a2, .unset, .unset, .unset, .unset] [(.int 1), (.int q1), (.int q3)])) (fun _ k => XS.iconst X1.here hx rfl (hb hby d5_36) k) ?_
  refine Go.st (f' := (mkF m 38 #[rv a1, iv q1, iv q2, iv q3, rv a2, .unset, .unset, .unset, .unset] [(.int (q1 + (1 : Int32))), (.int q3)])) (fun _ k => XS.iadd X1.here hx rfl (hb hby d5_37) rfl k) ?_
  refine Go.st (f' := (mkF m 58 #[rv a1, iv q1, iv q2, iv q3, rv a2, .unset, .unset, .unset, .unset] [])) (fun _ k => XS.icmpYes X1.here hx rfl (pc0 := 38) (pc' := 58) rfl (hb hby d5_38) rfl (flt hq4).2.2.2 (by decide) (by decide) k) ?_
  refine Go.st (f' := (mkF m 60 #[rv a1, iv q1, iv q2, iv q3, rv a2, .unset, .unset, .unset, .unset] [(.ref a2)])) (fun _ k => XS.aload X1.here hx rfl (hb hby d5_58) rfl rfl k) ?_
  obtain ⟨cq2, kq2, q2a, q2b, q2c⟩ := isOf hZ e1 E_a2
  obtain ⟨_, _, ⟨T2, L2, kk2, nn2⟩, -, X2, ⟨Lc2, hQ2, lq2, yq2, zz2⟩, st2⟩ := X1.interfaceBack hx (xi := (⟨"java/util/List", "iterator", "()Ljava/util/Iterator;"⟩ : MethodName)) (y := (⟨"java/util/ArrayList", "iterator", "()Ljava/util/Iterator;"⟩ : MethodName)) hown (mvT hZ (hw _ (List.mem_of_getElem? (i := 35) rfl))) (mvT hZ (hw _ (List.mem_of_getElem? (i := 36) rfl))) (mvT hZ (hw _ (List.mem_of_getElem? (i := 37) rfl))) (mvT hZ (hw _ (List.mem_of_getElem? (i := 38) rfl))) (mvT hZ (hw _ (List.mem_of_getElem? (i := 39) rfl))) (mvT hZ (hw _ (List.mem_of_getElem? (i := 40) rfl))) (mvT hZ (hw _ (List.mem_of_getElem? (i := 41) rfl))) (mvT hZ (hw _ (List.mem_of_getElem? (i := 42) rfl))) (by decide) (own_back (W := 0) (rmIt l Z a0 hw [] a2 h0 n0 O0 E_a2 F_a2_modCount F_a2_elementData F_a2_size) hZ (hw _ (List.mem_of_getElem? (i := 43) rfl)) (hw _ (List.mem_of_getElem? (i := 7) rfl)) (by decide) (by decide)) q2a q2b q2c (g := (mkF m 60 #[rv a1, iv q1, iv q2, iv q3, rv a2, .unset, .unset, .unset, .unset] [(.ref a2)])) rfl (by rw [hml]; rfl) (Steps.refl _) (argsL := []) (rest := []) (lenOf pd___Ljava_util_Iterator_ rfl) rfl (by show 2 * 0 + _ ≤ _; exact Nat.le_of_eq rfl) (hb hby d5_60) (fun _ _ => ⟨rfl, e1, (by decide : 0 + 1 ≤ _), (by decide : 0 + 4 ≤ _)⟩)
  dsimp only [Pt.U, Pt.locs, Pt.cells, Pt.slots] at X2 lq2 yq2 zz2 st2 hQ2
  subst lq2 yq2 zz2
  obtain ⟨b2, rfl, Nq2, zq2, kq2, eq2, fq2, cq2⟩ := hQ2
  have N2 := Fr.app N0 Nq2
  have ne_a2_b2 : a2 ≠ b2 := Nat.ne_of_lt (Nat.lt_of_lt_of_le lt_a2 zq2)
  have ne_a1_b2 : a1 ≠ b2 := Nat.ne_of_lt (Nat.lt_of_lt_of_le lt_a1 zq2)
  have ne_w_EMPTY_ELEMENTDATA_b2 : w_EMPTY_ELEMENTDATA ≠ b2 := Nat.ne_of_lt (Nat.lt_of_lt_of_le lt_w_EMPTY_ELEMENTDATA (Nat.le_trans O0.2.1 zq2))
  have ne_w_DEFAULTCAPACITY_EMPTY_ELEMENTDATA_b2 : w_DEFAULTCAPACITY_EMPTY_ELEMENTDATA ≠ b2 := Nat.ne_of_lt (Nat.lt_of_lt_of_le lt_w_DEFAULTCAPACITY_EMPTY_ELEMENTDATA (Nat.le_trans O0.2.1 zq2))
  have g_b2 : n0 ≤ b2 := Nat.le_trans (O0.1 ▸ O0.2.1) zq2
  have sz_b2 : h0.size ≤ b2 := Nat.le_trans K0.1 zq2
  have O2 : Old Z n0 T2.heap := O0.keep kq2 all0
  have K2 : Keep h0 T2.heap [a1] := K0.trans kq2 all0
  have lt_b2 := eq2.lt
  refine Go.tr (f' := (mkF m 65 #[rv a1, iv q1, iv q2, iv q3, rv a2, .unset, .unset, .unset, .unset] [(.ref b2)])) st2 ?_
  refine Go.st (f' := (mkF m 67 #[rv a1, iv q1, iv q2, iv q3, rv a2, rv b2, .unset, .unset, .unset] [])) (fun _ k => XS.astore X2.here hx rfl (hb hby d5_65) rfl rfl (l' := #[rv a1, iv q1, iv q2, iv q3, rv a2, rv b2, .unset, .unset, .unset]) rfl k) ?_
  refine Go.st (f' := (mkF m 69 #[rv a1, iv q1, iv q2, iv q3, rv a2, rv b2, .unset, .unset, .unset] [(.ref b2)])) (fun _ k => XS.aload X2.here hx rfl (hb hby d5_67) rfl rfl k) ?_
  have ft4 := (E_a2.keep kq2)
  have ft5 := (F_a2_modCount.keep kq2 nin0)
  have ft6 := (F_a2_elementData.keep kq2 nin0)
  have ft7 := (F_a2_size.keep kq2 nin0)
  obtain ⟨cq3, kq3, q3a, q3b, q3c⟩ := isOf hZ rfl eq2
  obtain ⟨_, _, ⟨T3, L3, kk3, nn3⟩, -, X3, ⟨Lc3, hQ3, lq3, yq3, zz3⟩, st3⟩ := X2.interfaceBack hx (xi := (⟨"java/util/Iterator", "hasNext", "()Z"⟩ : MethodName)) (y := (⟨"java/util/ArrayList$Itr", "hasNext", "()Z"⟩ : MethodName)) hown (mvT hZ (hw _ (List.mem_of_getElem? (i := 60) rfl))) (mvT hZ (hw _ (List.mem_of_getElem? (i := 61) rfl))) (mvT hZ (hw _ (List.mem_of_getElem? (i := 62) rfl))) (mvT hZ (hw _ (List.mem_of_getElem? (i := 63) rfl))) (mvT hZ (hw _ (List.mem_of_getElem? (i := 64) rfl))) (mvT hZ (hw _ (List.mem_of_getElem? (i := 65) rfl))) (mvT hZ (hw _ (List.mem_of_getElem? (i := 66) rfl))) (mvT hZ (hw _ (List.mem_of_getElem? (i := 67) rfl))) (by decide) (own_back (W := 0) (rmHn l Z a0 hw [] b2 a2 T2.heap n0 O2 eq2 fq2 cq2 ft4 ft5 ft6 ft7) hZ (hw _ (List.mem_of_getElem? (i := 68) rfl)) (hw _ (List.mem_of_getElem? (i := 46) rfl)) (by decide) (by decide)) q3a q3b q3c (g := (mkF m 69 #[rv a1, iv q1, iv q2, iv q3, rv a2, rv b2, .unset, .unset, .unset] [(.ref b2)])) rfl (by rw [hml]; rfl) (Steps.refl _) (argsL := []) (rest := []) (lenOf pd___Z rfl) rfl (by show 2 * 0 + _ ≤ _; exact Nat.le_of_eq rfl) (hb hby d5_69) (fun _ _ => ⟨rfl, rfl, (by decide : 1 + 0 ≤ _), (by decide : 4 + 0 ≤ _)⟩)
  dsimp only [Pt.U, Pt.locs, Pt.cells, Pt.slots] at X3 lq3 yq3 zz3 st3 hQ3
  subst lq3 yq3 zz3
  obtain ⟨rfl, Nq3, kq3⟩ := hQ3
  have N3 := Fr.app N2 Nq3
  refine Go.tr (f' := (mkF m 74 #[rv a1, iv q1, iv q2, iv q3, rv a2, rv b2, .unset, .unset, .unset] [(.int 0)])) st3 ?_
  refine Go.st (f' := (mkF m 110 #[rv a1, iv q1, iv q2, iv q3, rv a2, rv b2, .unset, .unset, .unset] [])) (fun _ k => XS.ifYes X3.here hx rfl (pc0 := 74) (pc' := 110) rfl (hb hby d5_74) rfl (by decide) (by decide) (by decide) k) ?_
  refine Go.st (f' := (mkF m 111 #[rv a1, iv q1, iv q2, iv q3, rv a2, rv b2, .unset, .unset, .unset] [(.ref a1)])) (fun _ k => XS.aloadN X3.here hx rfl (hb hby d5_110) rfl rfl k) ?_
  refine Go.st (f' := (mkF m 112 #[rv a1, iv q1, iv q2, iv q3, rv a2, rv b2, .unset, .unset, .unset] [(.int q1), (.ref a1)])) (fun _ k => XS.iloadN X3.here hx rfl (hb hby d5_111) rfl k) ?_
  have ft8 := (E_a1.keep kq2)
  have ft9 := (F_a1_nodeCount.keep kq2 nin0)
  obtain ⟨T10, h10, X10, e10, W10, st10⟩ := putF X3 hx hZ hown (host := "") (Or.inl (hw _ (List.mem_of_getElem? (i := 73) rfl))) Via.refl kq3 ft9 ft8 (Or.inr ⟨(hw _ (List.mem_of_getElem? (i := 74) rfl)), rfl, hnm⟩) (hw _ (List.mem_of_getElem? (i := 3) rfl)) (ty := .int) (by decide) rfl rfl (g := (mkF m 112 #[rv a1, iv q1, iv q2, iv q3, rv a2, rv b2, .unset, .unset, .unset] [(.int q1), (.ref a1)])) rfl rfl (hb hby d5_112)
  have N10 := Fr.snoc X10 N3 g_a1
  have O10 : Old Z n0 h10 := O2.wr W10 g_a1
  have K10 : Keep h0 h10 [a1] := K2.wr W10 (Or.inl (List.mem_of_getElem? (i := 0) rfl))
  have Fw10 := ft9.same W10
  refine Go.st (f' := (mkF m 115 #[rv a1, iv q1, iv q2, iv q3, rv a2, rv b2, .unset, .unset, .unset] [])) (fun _ k => st10 _ k) ?_
  refine Go.st (f' := (mkF m 116 #[rv a1, iv q1, iv q2, iv q3, rv a2, rv b2, .unset, .unset, .unset] [(.ref a1)])) (fun _ k => XS.aloadN X10.here hx rfl (hb hby d5_115) rfl rfl k) ?_
  refine Go.st (f' := (mkF m 117 #[rv a1, iv q1, iv q2, iv q3, rv a2, rv b2, .unset, .unset, .unset] [(.int q2), (.ref a1)])) (fun _ k => XS.iloadN X10.here hx rfl (hb hby d5_116) rfl k) ?_
  have ft11 := (ft8.wr W10)
  have ft12 := ((F_a1_zoneCount.keep kq2 nin0).other W10 (Or.inr (slot_ne (Or.inr (hw _ (List.mem_of_getElem? (i := 76) rfl))) (Or.inr (hw _ (List.mem_of_getElem? (i := 74) rfl))) (by decide) (t := .int) (t' := .int) (by decide) (by decide))))
  obtain ⟨T13, h13, X13, e13, W13, st13⟩ := putF X10 hx hZ hown (host := "") (Or.inl (hw _ (List.mem_of_getElem? (i := 75) rfl))) Via.refl e10 ft12 ft11 (Or.inr ⟨(hw _ (List.mem_of_getElem? (i := 76) rfl)), rfl, hnm⟩) (hw _ (List.mem_of_getElem? (i := 3) rfl)) (ty := .int) (by decide) rfl rfl (g := (mkF m 117 #[rv a1, iv q1, iv q2, iv q3, rv a2, rv b2, .unset, .unset, .unset] [(.int q2), (.ref a1)])) rfl rfl (hb hby d5_117)
  have N13 := Fr.snoc X13 N10 g_a1
  have O13 : Old Z n0 h13 := O10.wr W13 g_a1
  have K13 : Keep h0 h13 [a1] := K10.wr W13 (Or.inl (List.mem_of_getElem? (i := 0) rfl))
  have Fw13 := ft12.same W13
  refine Go.st (f' := (mkF m 120 #[rv a1, iv q1, iv q2, iv q3, rv a2, rv b2, .unset, .unset, .unset] [])) (fun _ k => st13 _ k) ?_
  refine Go.st (f' := (mkF m 121 #[rv a1, iv q1, iv q2, iv q3, rv a2, rv b2, .unset, .unset, .unset] [(.ref a1)])) (fun _ k => XS.aloadN X13.here hx rfl (hb hby d5_120) rfl rfl k) ?_
  refine Go.st (f' := (mkF m 122 #[rv a1, iv q1, iv q2, iv q3, rv a2, rv b2, .unset, .unset, .unset] [(.int q3), (.ref a1)])) (fun _ k => XS.iloadN X13.here hx rfl (hb hby d5_121) rfl k) ?_
  have ft14 := (ft11.wr W13)
  have ft15 := (((F_a1_firstThroughNode.keep kq2 nin0).other W10 (Or.inr (slot_ne (Or.inr (hw _ (List.mem_of_getElem? (i := 78) rfl))) (Or.inr (hw _ (List.mem_of_getElem? (i := 74) rfl))) (by decide) (t := .int) (t' := .int) (by decide) (by decide)))).other W13 (Or.inr (slot_ne (Or.inr (hw _ (List.mem_of_getElem? (i := 78) rfl))) (Or.inr (hw _ (List.mem_of_getElem? (i := 76) rfl))) (by decide) (t := .int) (t' := .int) (by decide) (by decide))))
  obtain ⟨T16, h16, X16, e16, W16, st16⟩ := putF X13 hx hZ hown (host := "") (Or.inl (hw _ (List.mem_of_getElem? (i := 77) rfl))) Via.refl e13 ft15 ft14 (Or.inr ⟨(hw _ (List.mem_of_getElem? (i := 78) rfl)), rfl, hnm⟩) (hw _ (List.mem_of_getElem? (i := 3) rfl)) (ty := .int) (by decide) rfl rfl (g := (mkF m 122 #[rv a1, iv q1, iv q2, iv q3, rv a2, rv b2, .unset, .unset, .unset] [(.int q3), (.ref a1)])) rfl rfl (hb hby d5_122)
  have N16 := Fr.snoc X16 N13 g_a1
  have O16 : Old Z n0 h16 := O13.wr W16 g_a1
  have K16 : Keep h0 h16 [a1] := K13.wr W16 (Or.inl (List.mem_of_getElem? (i := 0) rfl))
  have Fw16 := ft15.same W16
  refine Go.st (f' := (mkF m 125 #[rv a1, iv q1, iv q2, iv q3, rv a2, rv b2, .unset, .unset, .unset] [])) (fun _ k => st16 _ k) ?_
  refine Go.st (f' := (mkF m 126 #[rv a1, iv q1, iv q2, iv q3, rv a2, rv b2, .unset, .unset, .unset] [(.ref a1)])) (fun _ k => XS.aloadN X16.here hx rfl (hb hby d5_125) rfl rfl k) ?_
  obtain ⟨T17, h17, X17, e17, E17, A17, D17, -, st17⟩ := newO X16 hx hZ hown (hw _ (List.mem_of_getElem? (i := 79) rfl)) (hw _ (List.mem_of_getElem? (i := 6) rfl)) (hw _ (List.mem_of_getElem? (i := 7) rfl)) e16 (g := (mkF m 126 #[rv a1, iv q1, iv q2, iv q3, rv a2, rv b2, .unset, .unset, .unset] [(.ref a1)])) rfl (hb hby d5_126) (by decide) (by decide)
  obtain ⟨b17, g17⟩ : ∃ z, z = h16.size := ⟨_, rfl⟩
  rw [← g17] at A17 D17 st17
  have ft18 := (Nat.lt_of_lt_of_eq (Nat.lt_of_lt_of_eq (Nat.lt_of_lt_of_eq (Nat.lt_of_lt_of_le lt_a2 kq2.1) W10.size.symm) W13.size.symm) W16.size.symm)
  have ne_a2_b17 : a2 ≠ b17 := Nat.ne_of_lt (Nat.lt_of_lt_of_eq ft18 g17.symm)
  have ft19 := (Nat.lt_of_lt_of_eq (Nat.lt_of_lt_of_eq (Nat.lt_of_lt_of_eq (Nat.lt_of_lt_of_le lt_a1 kq2.1) W10.size.symm) W13.size.symm) W16.size.symm)
  have ne_a1_b17 : a1 ≠ b17 := Nat.ne_of_lt (Nat.lt_of_lt_of_eq ft19 g17.symm)
  have ft20 := (Nat.lt_of_lt_of_eq (Nat.lt_of_lt_of_eq (Nat.lt_of_lt_of_eq lt_b2 W10.size.symm) W13.size.symm) W16.size.symm)
  have ne_b2_b17 : b2 ≠ b17 := Nat.ne_of_lt (Nat.lt_of_lt_of_eq ft20 g17.symm)
  have ne_w_EMPTY_ELEMENTDATA_b17 : w_EMPTY_ELEMENTDATA ≠ b17 := Nat.ne_of_lt (Nat.lt_of_lt_of_le lt_w_EMPTY_ELEMENTDATA (Nat.le_trans O16.2.1 (Nat.le_of_eq g17.symm)))
  have ne_w_DEFAULTCAPACITY_EMPTY_ELEMENTDATA_b17 : w_DEFAULTCAPACITY_EMPTY_ELEMENTDATA ≠ b17 := Nat.ne_of_lt (Nat.lt_of_lt_of_le lt_w_DEFAULTCAPACITY_EMPTY_ELEMENTDATA (Nat.le_trans O16.2.1 (Nat.le_of_eq g17.symm)))
  have g_b17 : n0 ≤ b17 := Nat.le_trans (O16.1 ▸ O16.2.1) (Nat.le_of_eq g17.symm)
  have O17 : Old Z n0 h17 := O16.ext E17
  have sz_b17 : h0.size ≤ b17 := Nat.le_trans K16.1 (Nat.le_of_eq g17.symm)
  have K17 : Keep h0 h17 [a1] := K16.ext E17
  have lt_b17 := A17.lt
  have F_modCount_b17 : Fld Z h17 b17 "java/util/AbstractList" "modCount" "I" (.int (0 : Int32)) := D17 (Or.inl (hw _ (List.mem_of_getElem? (i := 27) rfl))) (ty := .int) (by decide)
  have F_elementData_b17 : Fld Z h17 b17 "java/util/ArrayList" "elementData" "[Ljava/lang/Object;" .null := D17 (Or.inl (hw _ (List.mem_of_getElem? (i := 30) rfl))) (ty := (.array (.object "java/lang/Object"))) (by decide)
  have F_size_b17 : Fld Z h17 b17 "java/util/ArrayList" "size" "I" (.int (0 : Int32)) := D17 (Or.inl (hw _ (List.mem_of_getElem? (i := 72) rfl))) (ty := .int) (by decide)
  refine Go.st (f' := (mkF m 129 #[rv a1, iv q1, iv q2, iv q3, rv a2, rv b2, .unset, .unset, .unset] [(.ref b17), (.ref a1)])) (fun _ k => st17 _ k) ?_
  refine Go.st (f' := (mkF m 130 #[rv a1, iv q1, iv q2, iv q3, rv a2, rv b2, .unset, .unset, .unset] [(.ref b17), (.ref b17), (.ref a1)])) (fun _ k => XS.dup X17.here hx rfl (hb hby d5_129) rfl rfl k) ?_
  refine Go.st (f' := (mkF m 132 #[rv a1, iv q1, iv q2, iv q3, rv a2, rv b2, .unset, .unset, .unset] [(.ref a2), (.ref b17), (.ref b17), (.ref a1)])) (fun _ k => XS.aload X17.here hx rfl (hb hby d5_130) rfl rfl k) ?_
  have ft22 := ((((ft4.wr W10).wr W13).wr W16).ext E17)
  have ft23 := ((((ft5.other W10 (Or.inl (Ne.symm ne12))).other W13 (Or.inl (Ne.symm ne12))).other W16 (Or.inl (Ne.symm ne12))).ext E17)
  have ft24 := ((((ft6.other W10 (Or.inl (Ne.symm ne12))).other W13 (Or.inl (Ne.symm ne12))).other W16 (Or.inl (Ne.symm ne12))).ext E17)
  have ft25 := ((((ft7.other W10 (Or.inl (Ne.symm ne12))).other W13 (Or.inl (Ne.symm ne12))).other W16 (Or.inl (Ne.symm ne12))).ext E17)
  obtain ⟨_, _, ⟨T21, L21, kk21, nn21⟩, -, X21, ⟨Lc21, hQ21, lq21, yq21, zz21⟩, st21⟩ := X17.specialBack hx (y := (⟨"java/util/ArrayList", "<init>", "(Ljava/util/Collection;)V"⟩ : MethodName)) rfl hown (mvT hZ (hw _ (List.mem_of_getElem? (i := 80) rfl))) (mvT hZ (hw _ (List.mem_of_getElem? (i := 81) rfl))) (mvT hZ (hw _ (List.mem_of_getElem? (i := 82) rfl))) (by decide) (own_back (W := 2) (rmCo l Z a0 hw [] b17 a2 mir_0 mir_1 mir_2 mir_3 w_EMPTY_ELEMENTDATA w_DEFAULTCAPACITY_EMPTY_ELEMENTDATA k_EMPTY_ELEMENTDATA k_DEFAULTCAPACITY_EMPTY_ELEMENTDATA h17 n0 O17 g_b17 A17 F_modCount_b17 F_elementData_b17 F_size_b17 (Ne.symm ne_a2_b17) ft22 ft23 ft24 ft25 WW) hZ (hw _ (List.mem_of_getElem? (i := 82) rfl)) (hw _ (List.mem_of_getElem? (i := 7) rfl)) (by decide) (by decide)) (g := (mkF m 132 #[rv a1, iv q1, iv q2, iv q3, rv a2, rv b2, .unset, .unset, .unset] [(.ref a2), (.ref b17), (.ref b17), (.ref a1)])) rfl (by rw [hml]; rfl) (Steps.refl _) (a := b17) (argsL := [(.ref a2)]) (rest := [(.ref b17), (.ref a1)]) (lenOf pd__Ljava_util_Collection__V rfl) rfl (by show 2 * 0 + _ ≤ _; exact Nat.le_of_eq rfl) (hb hby d5_132) (fun _ _ => ⟨rfl, e17, (by decide : 2 + 1 ≤ _), (by decide : 7 + 0 ≤ _)⟩)
  dsimp only [Pt.U, Pt.locs, Pt.cells, Pt.slots] at X21 lq21 yq21 zz21 st21 hQ21
  subst lq21 yq21 zz21
  obtain ⟨rfl, Nq21, kq21, eq21, fq21_0, fq21_1, fq21_2⟩ := hQ21
  have N21 := Fr.app N16 Nq21
  have O21 : Old Z n0 T21.heap := O17.keep kq21 (allS g_b17 all0)
  have K21 : Keep h0 T21.heap [a1] := K17.trans kq21 (allS (Or.inr sz_b17) all0)
  refine Go.tr (f' := (mkF m 135 #[rv a1, iv q1, iv q2, iv q3, rv a2, rv b2, .unset, .unset, .unset] [(.ref b17), (.ref a1)])) st21 ?_
  obtain ⟨_, _, ⟨T26, L26, kk26, nn26⟩, -, X26, ⟨Lc26, hQ26, lq26, yq26, zz26⟩, st26⟩ := Jvm.LawKit.callS X21 hx (y := (⟨"java/util/Collections", "unmodifiableList", "(Ljava/util/List;)Ljava/util/List;"⟩ : MethodName)) hown (mvT hZ (hw _ (List.mem_of_getElem? (i := 118) rfl))) (mvT hZ (hw _ (List.mem_of_getElem? (i := 119) rfl))) (mvT hZ (hw _ (List.mem_of_getElem? (i := 120) rfl))) (mvT hZ (hw _ (List.mem_of_getElem? (i := 121) rfl))) (by decide) (own_back (W := 1) (rmUm l Z a0 hw [] b17 mir_0 mir_1 mir_2 mir_3 w_EMPTY_ELEMENTDATA w_DEFAULTCAPACITY_EMPTY_ELEMENTDATA k_EMPTY_ELEMENTDATA k_DEFAULTCAPACITY_EMPTY_ELEMENTDATA T21.heap n0 O21 eq21 fq21_0 fq21_1 fq21_2 WW) hZ (hw _ (List.mem_of_getElem? (i := 121) rfl)) (hw _ (List.mem_of_getElem? (i := 120) rfl)) (by decide) (by decide)) (g := (mkF m 135 #[rv a1, iv q1, iv q2, iv q3, rv a2, rv b2, .unset, .unset, .unset] [(.ref b17), (.ref a1)])) rfl (by rw [hml]; rfl) (argsL := [(.ref b17)]) (rest := [(.ref a1)]) (lenOf pd__Ljava_util_List__Ljava_util_List_ rfl) rfl (by show 2 * 0 + _ ≤ _; exact Nat.le_of_eq rfl) (hb hby d5_135) (fun _ _ => ⟨rfl, rfl, (by decide : 3 + 1 ≤ _), (by decide : 7 + 2 ≤ _)⟩)
  dsimp only [Pt.U, Pt.locs, Pt.cells, Pt.slots] at X26 lq26 yq26 zz26 st26 hQ26
  subst lq26 yq26 zz26
  obtain ⟨b26, rfl, Nq26, zq26, kq26⟩ := hQ26
  have N26 := Fr.app N21 Nq26
  have ft27 := (Nat.lt_of_lt_of_le (Nat.lt_of_lt_of_le ft18 E17.1) kq21.1)
  have ne_a2_b26 : a2 ≠ b26 := Nat.ne_of_lt (Nat.lt_of_lt_of_le ft27 zq26)
  have ft28 := (Nat.lt_of_lt_of_le (Nat.lt_of_lt_of_le ft19 E17.1) kq21.1)
  have ne_a1_b26 : a1 ≠ b26 := Nat.ne_of_lt (Nat.lt_of_lt_of_le ft28 zq26)
  have ft29 := (Nat.lt_of_lt_of_le (Nat.lt_of_lt_of_le ft20 E17.1) kq21.1)
  have ne_b2_b26 : b2 ≠ b26 := Nat.ne_of_lt (Nat.lt_of_lt_of_le ft29 zq26)
  have ft30 := (Nat.lt_of_lt_of_le lt_b17 kq21.1)
  have ne_b17_b26 : b17 ≠ b26 := Nat.ne_of_lt (Nat.lt_of_lt_of_le ft30 zq26)
  have ne_w_EMPTY_ELEMENTDATA_b26 : w_EMPTY_ELEMENTDATA ≠ b26 := Nat.ne_of_lt (Nat.lt_of_lt_of_le lt_w_EMPTY_ELEMENTDATA (Nat.le_trans O21.2.1 zq26))
  have ne_w_DEFAULTCAPACITY_EMPTY_ELEMENTDATA_b26 : w_DEFAULTCAPACITY_EMPTY_ELEMENTDATA ≠ b26 := Nat.ne_of_lt (Nat.lt_of_lt_of_le lt_w_DEFAULTCAPACITY_EMPTY_ELEMENTDATA (Nat.le_trans O21.2.1 zq26))
  have g_b26 : n0 ≤ b26 := Nat.le_trans (O21.1 ▸ O21.2.1) zq26
  have sz_b26 : h0.size ≤ b26 := Nat.le_trans K21.1 zq26
  have O26 : Old Z n0 T26.heap := O21.keep kq26 all0
  have K26 : Keep h0 T26.heap [a1] := K21.trans kq26 all0
  refine Go.st (f' := (mkF m 138 #[rv a1, iv q1, iv q2, iv q3, rv a2, rv b2, .unset, .unset, .unset] [(.ref b26), (.ref a1)])) (fun _ k => st26 _ k) ?_
  have ft31 := ((((ft14.wr W16).ext E17).keep kq21).keep kq26)
  have ft32 := (((((((F_a1_links.keep kq2 nin0).other W10 (Or.inr (slot_ne (Or.inr (hw _ (List.mem_of_getElem? (i := 158) rfl))) (Or.inr (hw _ (List.mem_of_getElem? (i := 74) rfl))) (by decide) (t := (.object "java/util/List")) (t' := .int) (by decide) (by decide)))).other W13 (Or.inr (slot_ne (Or.inr (hw _ (List.mem_of_getElem? (i := 158) rfl))) (Or.inr (hw _ (List.mem_of_getElem? (i := 76) rfl))) (by decide) (t := (.object "java/util/List")) (t' := .int) (by decide) (by decide)))).other W16 (Or.inr (slot_ne (Or.inr (hw _ (List.mem_of_getElem? (i := 158) rfl))) (Or.inr (hw _ (List.mem_of_getElem? (i := 78) rfl))) (by decide) (t := (.object "java/util/List")) (t' := .int) (by decide) (by decide)))).ext E17).keep kq21 (ninS ne_a1_b17 nin0)).keep kq26 nin0)
  obtain ⟨T33, h33, X33, e33, W33, st33⟩ := putF X26 hx hZ hown (host := "") (Or.inl (hw _ (List.mem_of_getElem? (i := 157) rfl))) Via.refl rfl ft32 ft31 (Or.inr ⟨(hw _ (List.mem_of_getElem? (i := 158) rfl)), rfl, hnm⟩) (hw _ (List.mem_of_getElem? (i := 3) rfl)) (ty := (.object "java/util/List")) (by decide) rfl rfl (g := (mkF m 138 #[rv a1, iv q1, iv q2, iv q3, rv a2, rv b2, .unset, .unset, .unset] [(.ref b26), (.ref a1)])) rfl rfl (hb hby d5_138)
  have N33 := Fr.snoc X33 N26 g_a1
  have O33 : Old Z n0 h33 := O26.wr W33 g_a1
  have K33 : Keep h0 h33 [a1] := K26.wr W33 (Or.inl (List.mem_of_getElem? (i := 0) rfl))
  have Fw33 := ft32.same W33
  refine Go.st (f' := (mkF m 141 #[rv a1, iv q1, iv q2, iv q3, rv a2, rv b2, .unset, .unset, .unset] [])) (fun _ k => st33 _ k) ?_
  refine Go.st (f' := (mkF m 142 #[rv a1, iv q1, iv q2, iv q3, rv a2, rv b2, .unset, .unset, .unset] [(.ref a1)])) (fun _ k => XS.aloadN X33.here hx rfl (hb hby d5_141) rfl rfl k) ?_
  refine Go.st (f' := (mkF m 144 #[rv a1, iv q1, iv q2, iv q3, rv a2, rv b2, .unset, .unset, .unset] [(.ref a2), (.ref a1)])) (fun _ k => XS.aload X33.here hx rfl (hb hby d5_142) rfl rfl k) ?_
  have ft35 := (((ft22.keep kq21).keep kq26).wr W33)
  have ft36 := (((ft23.keep kq21 (ninS ne_a2_b17 nin0)).keep kq26 nin0).other W33 (Or.inl (Ne.symm ne12)))
  have ft37 := (((ft24.keep kq21 (ninS ne_a2_b17 nin0)).keep kq26 nin0).other W33 (Or.inl (Ne.symm ne12)))
  have ft38 := (((ft25.keep kq21 (ninS ne_a2_b17 nin0)).keep kq26 nin0).other W33 (Or.inl (Ne.symm ne12)))
  obtain ⟨cq34, kq34, q34a, q34b, q34c⟩ := isOf hZ e33 ft35
  obtain ⟨_, _, ⟨T34, L34, kk34, nn34⟩, -, X34, ⟨Lc34, hQ34, lq34, yq34, zz34⟩, st34⟩ := X33.interfaceBack hx (xi := (⟨"java/util/List", "size", "()I"⟩ : MethodName)) (y := (⟨"java/util/ArrayList", "size", "()I"⟩ : MethodName)) hown (mvT hZ (hw _ (List.mem_of_getElem? (i := 159) rfl))) (mvT hZ (hw _ (List.mem_of_getElem? (i := 160) rfl))) (mvT hZ (hw _ (List.mem_of_getElem? (i := 161) rfl))) (mvT hZ (hw _ (List.mem_of_getElem? (i := 162) rfl))) (mvT hZ (hw _ (List.mem_of_getElem? (i := 163) rfl))) (mvT hZ (hw _ (List.mem_of_getElem? (i := 164) rfl))) (mvT hZ (hw _ (List.mem_of_getElem? (i := 165) rfl))) (mvT hZ (hw _ (List.mem_of_getElem? (i := 42) rfl))) (by decide) (own_back (W := 1) (rmSz l Z a0 hw [] a2 h33 n0 O33 ft35 ft36 ft37 ft38) hZ (hw _ (List.mem_of_getElem? (i := 166) rfl)) (hw _ (List.mem_of_getElem? (i := 7) rfl)) (by decide) (by decide)) q34a q34b q34c (g := (mkF m 144 #[rv a1, iv q1, iv q2, iv q3, rv a2, rv b2, .unset, .unset, .unset] [(.ref a2), (.ref a1)])) rfl (by rw [hml]; rfl) (Steps.refl _) (argsL := []) (rest := [(.ref a1)]) (lenOf pd___I rfl) rfl (by show 2 * 0 + _ ≤ _; exact Nat.le_of_eq rfl) (hb hby d5_144) (fun _ _ => ⟨rfl, e33, (by decide : 4 + 0 ≤ _), (by decide : 9 + 0 ≤ _)⟩)
  dsimp only [Pt.U, Pt.locs, Pt.cells, Pt.slots] at X34 lq34 yq34 zz34 st34 hQ34
  subst lq34 yq34 zz34
  obtain ⟨rfl, Nq34, kq34⟩ := hQ34
  have N34 := Fr.app N33 Nq34
  refine Go.tr (f' := (mkF m 149 #[rv a1, iv q1, iv q2, iv q3, rv a2, rv b2, .unset, .unset, .unset] [(.int 0), (.ref a1)])) st34 ?_
  obtain ⟨T39, h39, kc39, X39, e39, E39, A39, st39⟩ := newP X34 hx hZ (hw _ (List.mem_of_getElem? (i := 167) rfl)) kq34 (g := (mkF m 149 #[rv a1, iv q1, iv q2, iv q3, rv a2, rv b2, .unset, .unset, .unset] [(.int 0), (.ref a1)])) rfl (hb hby d5_149) rfl (by decide) (cap := 0) (by decide) (by decide) (by decide) (by decide)
  obtain ⟨b39, g39⟩ : ∃ z, z = h33.size := ⟨_, rfl⟩
  rw [← g39] at A39 st39
  have ft40 := (Nat.lt_of_lt_of_eq (Nat.lt_of_lt_of_le ft27 kq26.1) W33.size.symm)
  have ne_a2_b39 : a2 ≠ b39 := Nat.ne_of_lt (Nat.lt_of_lt_of_eq ft40 g39.symm)
  have ft41 := (Nat.lt_of_lt_of_eq (Nat.lt_of_lt_of_le ft28 kq26.1) W33.size.symm)
  have ne_a1_b39 : a1 ≠ b39 := Nat.ne_of_lt (Nat.lt_of_lt_of_eq ft41 g39.symm)
  have ft42 := (Nat.lt_of_lt_of_eq (Nat.lt_of_lt_of_le ft29 kq26.1) W33.size.symm)
  have ne_b2_b39 : b2 ≠ b39 := Nat.ne_of_lt (Nat.lt_of_lt_of_eq ft42 g39.symm)
  have ft43 := (Nat.lt_of_lt_of_eq (Nat.lt_of_lt_of_le ft30 kq26.1) W33.size.symm)
  have ne_b17_b39 : b17 ≠ b39 := Nat.ne_of_lt (Nat.lt_of_lt_of_eq ft43 g39.symm)
  have ne_w_EMPTY_ELEMENTDATA_b39 : w_EMPTY_ELEMENTDATA ≠ b39 := Nat.ne_of_lt (Nat.lt_of_lt_of_le lt_w_EMPTY_ELEMENTDATA (Nat.le_trans O33.2.1 (Nat.le_of_eq g39.symm)))
  have ne_w_DEFAULTCAPACITY_EMPTY_ELEMENTDATA_b39 : w_DEFAULTCAPACITY_EMPTY_ELEMENTDATA ≠ b39 := Nat.ne_of_lt (Nat.lt_of_lt_of_le lt_w_DEFAULTCAPACITY_EMPTY_ELEMENTDATA (Nat.le_trans O33.2.1 (Nat.le_of_eq g39.symm)))
  have g_b39 : n0 ≤ b39 := Nat.le_trans (O33.1 ▸ O33.2.1) (Nat.le_of_eq g39.symm)
  have O39 : Old Z n0 h39 := O33.ext E39
  have sz_b39 : h0.size ≤ b39 := Nat.le_trans K33.1 (Nat.le_of_eq g39.symm)
  have K39 : Keep h0 h39 [a1] := K33.ext E39
  have V_b39 : Arv Z h39 b39 kc39 .int (0 : Int32) [] (.int (0 : Int32)) := Arv.new A39 (by decide)
  have lt_b39 := V_b39.lt
  refine Go.st (f' := (mkF m 151 #[rv a1, iv q1, iv q2, iv q3, rv a2, rv b2, .unset, .unset, .unset] [(.ref b39), (.ref a1)])) (fun _ k => st39 _ k) ?_
  have ft44 := ((ft31.wr W33).ext E39)
  have ft45 := (((((((((F_a1_initNodes.keep kq2 nin0).other W10 (Or.inr (slot_ne (Or.inr (hw _ (List.mem_of_getElem? (i := 169) rfl))) (Or.inr (hw _ (List.mem_of_getElem? (i := 74) rfl))) (by decide) (t := (.array .int)) (t' := .int) (by decide) (by decide)))).other W13 (Or.inr (slot_ne (Or.inr (hw _ (List.mem_of_getElem? (i := 169) rfl))) (Or.inr (hw _ (List.mem_of_getElem? (i := 76) rfl))) (by decide) (t := (.array .int)) (t' := .int) (by decide) (by decide)))).other W16 (Or.inr (slot_ne (Or.inr (hw _ (List.mem_of_getElem? (i := 169) rfl))) (Or.inr (hw _ (List.mem_of_getElem? (i := 78) rfl))) (by decide) (t := (.array .int)) (t' := .int) (by decide) (by decide)))).ext E17).keep kq21 (ninS ne_a1_b17 nin0)).keep kq26 nin0).other W33 (Or.inr (slot_ne (Or.inr (hw _ (List.mem_of_getElem? (i := 169) rfl))) (Or.inr (hw _ (List.mem_of_getElem? (i := 158) rfl))) (by decide) (t := (.array .int)) (t' := (.object "java/util/List")) (by decide) (by decide)))).ext E39)
  obtain ⟨T46, h46, X46, e46, W46, st46⟩ := putF X39 hx hZ hown (host := "") (Or.inl (hw _ (List.mem_of_getElem? (i := 168) rfl))) Via.refl e39 ft45 ft44 (Or.inr ⟨(hw _ (List.mem_of_getElem? (i := 169) rfl)), rfl, hnm⟩) (hw _ (List.mem_of_getElem? (i := 3) rfl)) (ty := (.array .int)) (by decide) rfl rfl (g := (mkF m 151 #[rv a1, iv q1, iv q2, iv q3, rv a2, rv b2, .unset, .unset, .unset] [(.ref b39), (.ref a1)])) rfl rfl (hb hby d5_151)
  have N46 := Fr.snoc X46 N34 g_a1
  have O46 : Old Z n0 h46 := O39.wr W46 g_a1
  have K46 : Keep h0 h46 [a1] := K39.wr W46 (Or.inl (List.mem_of_getElem? (i := 0) rfl))
  have Fw46 := ft45.same W46
  refine Go.st (f' := (mkF m 154 #[rv a1, iv q1, iv q2, iv q3, rv a2, rv b2, .unset, .unset, .unset] [])) (fun _ k => st46 _ k) ?_
  refine Go.st (f' := (mkF m 155 #[rv a1, iv q1, iv q2, iv q3, rv a2, rv b2, .unset, .unset, .unset] [(.int 0)])) (fun _ k => XS.iconst X46.here hx rfl (hb hby d5_154) k) ?_
  refine Go.st (f' := (mkF m 157 #[rv a1, iv q1, iv q2, iv q3, rv a2, iv 0, .unset, .unset, .unset] [])) (fun _ k => XS.istore X46.here hx rfl (hb hby d5_155) rfl (l' := #[rv a1, iv q1, iv q2, iv q3, rv a2, iv 0, .unset, .unset, .unset]) rfl k) ?_
  refine Go.st (f' := (mkF m 159 #[rv a1, iv q1, iv q2, iv q3, rv a2, iv 0, .unset, .unset, .unset] [(.int 0)])) (fun _ k => XS.iload X46.here hx rfl (hb hby d5_157) rfl k) ?_
  refine Go.st (f' := (mkF m 161 #[rv a1, iv q1, iv q2, iv q3, rv a2, iv 0, .unset, .unset, .unset] [(.ref a2), (.int 0)])) (fun _ k => XS.aload X46.here hx rfl (hb hby d5_159) rfl rfl k) ?_
  have ft48 := ((ft35.ext E39).wr W46)
  have ft49 := ((ft36.ext E39).other W46 (Or.inl (Ne.symm ne12)))
  have ft50 := ((ft37.ext E39).other W46 (Or.inl (Ne.symm ne12)))
  have ft51 := ((ft38.ext E39).other W46 (Or.inl (Ne.symm ne12)))
  obtain ⟨cq47, kq47, q47a, q47b, q47c⟩ := isOf hZ e46 ft48
  obtain ⟨_, _, ⟨T47, L47, kk47, nn47⟩, -, X47, ⟨Lc47, hQ47, lq47, yq47, zz47⟩, st47⟩ := X46.interfaceBack hx (xi := (⟨"java/util/List", "size", "()I"⟩ : MethodName)) (y := (⟨"java/util/ArrayList", "size", "()I"⟩ : MethodName)) hown (mvT hZ (hw _ (List.mem_of_getElem? (i := 159) rfl))) (mvT hZ (hw _ (List.mem_of_getElem? (i := 160) rfl))) (mvT hZ (hw _ (List.mem_of_getElem? (i := 161) rfl))) (mvT hZ (hw _ (List.mem_of_getElem? (i := 162) rfl))) (mvT hZ (hw _ (List.mem_of_getElem? (i := 163) rfl))) (mvT hZ (hw _ (List.mem_of_getElem? (i := 164) rfl))) (mvT hZ (hw _ (List.mem_of_getElem? (i := 165) rfl))) (mvT hZ (hw _ (List.mem_of_getElem? (i := 42) rfl))) (by decide) (own_back (W := 1) (rmSz l Z a0 hw [] a2 h46 n0 O46 ft48 ft49 ft50 ft51) hZ (hw _ (List.mem_of_getElem? (i := 166) rfl)) (hw _ (List.mem_of_getElem? (i := 7) rfl)) (by decide) (by decide)) q47a q47b q47c (g := (mkF m 161 #[rv a1, iv q1, iv q2, iv q3, rv a2, iv 0, .unset, .unset, .unset] [(.ref a2), (.int 0)])) rfl (by rw [hml]; rfl) (Steps.refl _) (argsL := []) (rest := [(.int (0 : Int32))]) (lenOf pd___I rfl) rfl (by show 2 * 0 + _ ≤ _; exact Nat.le_of_eq rfl) (hb hby d5_161) (fun _ _ => ⟨rfl, e46, (by decide : 5 + 0 ≤ _), (by decide : 9 + 0 ≤ _)⟩)
  dsimp only [Pt.U, Pt.locs, Pt.cells, Pt.slots] at X47 lq47 yq47 zz47 st47 hQ47
  subst lq47 yq47 zz47
  obtain ⟨rfl, Nq47, kq47⟩ := hQ47
  have N47 := Fr.app N46 Nq47
  refine Go.tr (f' := (mkF m 166 #[rv a1, iv q1, iv q2, iv q3, rv a2, iv 0, .unset, .unset, .unset] [(.int 0), (.int 0)])) st47 ?_
  refine Go.st (f' := (mkF m 197 #[rv a1, iv q1, iv q2, iv q3, rv a2, iv 0, .unset, .unset, .unset] [])) (fun _ k => XS.icmpYes X47.here hx rfl (pc0 := 166) (pc' := 197) rfl (hb hby d5_166) rfl (by decide) (by decide) (by decide) k) ?_
  refine Go.st (f' := (mkF m 198 #[rv a1, iv q1, iv q2, iv q3, rv a2, iv 0, .unset, .unset, .unset] [(.ref a1)])) (fun _ k => XS.aloadN X47.here hx rfl (hb hby d5_197) rfl rfl k) ?_
  refine Go.st (f' := (mkF m 199 #[rv a1, iv q1, iv q2, iv q3, rv a2, iv 0, .unset, .unset, .unset] [(.int q1), (.ref a1)])) (fun _ k => XS.iloadN X47.here hx rfl (hb hby d5_198) rfl k) ?_
  refine Go.st (f' := (mkF m 200 #[rv a1, iv q1, iv q2, iv q3, rv a2, iv 0, .unset, .unset, .unset] [(.int 2), (.int q1), (.ref a1)])) (fun _ k => XS.iconst X47.here hx rfl (hb hby d5_199) k) ?_
  refine Go.st (f' := (mkF m 201 #[rv a1, iv q1, iv q2, iv q3, rv a2, iv 0, .unset, .unset, .unset] [(.int (q1 + (2 : Int32))), (.ref a1)])) (fun _ k => XS.iadd X47.here hx rfl (hb hby d5_200) rfl k) ?_
  obtain ⟨T52, h52, kc52, X52, e52, E52, A52, st52⟩ := newP X47 hx hZ (hw _ (List.mem_of_getElem? (i := 167) rfl)) kq47 (g := (mkF m 201 #[rv a1, iv q1, iv q2, iv q3, rv a2, iv 0, .unset, .unset, .unset] [(.int (q1 + (2 : Int32))), (.ref a1)])) rfl (hb hby d5_201) rfl (ar_neg (by have := (ar1 hB).1; omega)) (cap := 65538) (ar_cap (n := 65538) (by have := (ar1 hB).1; omega)) (by decide) (by decide) (by decide)
  obtain ⟨b52, g52⟩ : ∃ z, z = h46.size := ⟨_, rfl⟩
  rw [← g52] at A52 st52
  have ft53 := (Nat.lt_of_lt_of_eq (Nat.lt_of_lt_of_le ft40 E39.1) W46.size.symm)
  have ne_a2_b52 : a2 ≠ b52 := Nat.ne_of_lt (Nat.lt_of_lt_of_eq ft53 g52.symm)
  have ft54 := (Nat.lt_of_lt_of_eq (Nat.lt_of_lt_of_le ft41 E39.1) W46.size.symm)
  have ne_a1_b52 : a1 ≠ b52 := Nat.ne_of_lt (Nat.lt_of_lt_of_eq ft54 g52.symm)
  have ft55 := (Nat.lt_of_lt_of_eq (Nat.lt_of_lt_of_le ft42 E39.1) W46.size.symm)
  have ne_b2_b52 : b2 ≠ b52 := Nat.ne_of_lt (Nat.lt_of_lt_of_eq ft55 g52.symm)
  have ft56 := (Nat.lt_of_lt_of_eq (Nat.lt_of_lt_of_le ft43 E39.1) W46.size.symm)
  have ne_b17_b52 : b17 ≠ b52 := Nat.ne_of_lt (Nat.lt_of_lt_of_eq ft56 g52.symm)
  have ft57 := (Nat.lt_of_lt_of_eq lt_b39 W46.size.symm)
  have ne_b39_b52 : b39 ≠ b52 := Nat.ne_of_lt (Nat.lt_of_lt_of_eq ft57 g52.symm)
  have ne_w_EMPTY_ELEMENTDATA_b52 : w_EMPTY_ELEMENTDATA ≠ b52 := Nat.ne_of_lt (Nat.lt_of_lt_of_le lt_w_EMPTY_ELEMENTDATA (Nat.le_trans O46.2.1 (Nat.le_of_eq g52.symm)))
  have ne_w_DEFAULTCAPACITY_EMPTY_ELEMENTDATA_b52 : w_DEFAULTCAPACITY_EMPTY_ELEMENTDATA ≠ b52 := Nat.ne_of_lt (Nat.lt_of_lt_of_le lt_w_DEFAULTCAPACITY_EMPTY_ELEMENTDATA (Nat.le_trans O46.2.1 (Nat.le_of_eq g52.symm)))
  have g_b52 : n0 ≤ b52 := Nat.le_trans (O46.1 ▸ O46.2.1) (Nat.le_of_eq g52.symm)
  have O52 : Old Z n0 h52 := O46.ext E52
  have sz_b52 : h0.size ≤ b52 := Nat.le_trans K46.1 (Nat.le_of_eq g52.symm)
  have K52 : Keep h0 h52 [a1] := K46.ext E52
  have I_b52 : Ia Z h52 b52 (q1 + (2 : Int32)) := Ia.new A52 (ar_neg (by have := (ar1 hB).1; omega))
  have lt_b52 := A52.lt
  refine Go.st (f' := (mkF m 203 #[rv a1, iv q1, iv q2, iv q3, rv a2, iv 0, .unset, .unset, .unset] [(.ref b52), (.ref a1)])) (fun _ k => st52 _ k) ?_
  have ft58 := ((ft44.wr W46).ext E52)
  have ft59 := (((((((((((F_a1_outgoingStart.keep kq2 nin0).other W10 (Or.inr (slot_ne (Or.inr (hw _ (List.mem_of_getElem? (i := 171) rfl))) (Or.inr (hw _ (List.mem_of_getElem? (i := 74) rfl))) (by decide) (t := (.array .int)) (t' := .int) (by decide) (by decide)))).other W13 (Or.inr (slot_ne (Or.inr (hw _ (List.mem_of_getElem? (i := 171) rfl))) (Or.inr (hw _ (List.mem_of_getElem? (i := 76) rfl))) (by decide) (t := (.array .int)) (t' := .int) (by decide) (by decide)))).other W16 (Or.inr (slot_ne (Or.inr (hw _ (List.mem_of_getElem? (i := 171) rfl))) (Or.inr (hw _ (List.mem_of_getElem? (i := 78) rfl))) (by decide) (t := (.array .int)) (t' := .int) (by decide) (by decide)))).ext E17).keep kq21 (ninS ne_a1_b17 nin0)).keep kq26 nin0).other W33 (Or.inr (slot_ne (Or.inr (hw _ (List.mem_of_getElem? (i := 171) rfl))) (Or.inr (hw _ (List.mem_of_getElem? (i := 158) rfl))) (by decide) (t := (.array .int)) (t' := (.object "java/util/List")) (by decide) (by decide)))).ext E39).other W46 (Or.inr (slot_ne (Or.inr (hw _ (List.mem_of_getElem? (i := 171) rfl))) (Or.inr (hw _ (List.mem_of_getElem? (i := 169) rfl))) (by decide) (t := (.array .int)) (t' := (.array .int)) (by decide) (by decide)))).ext E52)
  obtain ⟨T60, h60, X60, e60, W60, st60⟩ := putF X52 hx hZ hown (host := "") (Or.inl (hw _ (List.mem_of_getElem? (i := 170) rfl))) Via.refl e52 ft59 ft58 (Or.inr ⟨(hw _ (List.mem_of_getElem? (i := 171) rfl)), rfl, hnm⟩) (hw _ (List.mem_of_getElem? (i := 3) rfl)) (ty := (.array .int)) (by decide) rfl rfl (g := (mkF m 203 #[rv a1, iv q1, iv q2, iv q3, rv a2, iv 0, .unset, .unset, .unset] [(.ref b52), (.ref a1)])) rfl rfl (hb hby d5_203)
  have N60 := Fr.snoc X60 N47 g_a1
  have O60 : Old Z n0 h60 := O52.wr W60 g_a1
  have K60 : Keep h0 h60 [a1] := K52.wr W60 (Or.inl (List.mem_of_getElem? (i := 0) rfl))
  have Fw60 := ft59.same W60
  refine Go.st (f' := (mkF m 206 #[rv a1, iv q1, iv q2, iv q3, rv a2, iv 0, .unset, .unset, .unset] [])) (fun _ k => st60 _ k) ?_
  refine Go.st (f' := (mkF m 207 #[rv a1, iv q1, iv q2, iv q3, rv a2, iv 0, .unset, .unset, .unset] [(.ref a1)])) (fun _ k => XS.aloadN X60.here hx rfl (hb hby d5_206) rfl rfl k) ?_
  have ft61 := ((Fw46.ext E52).other W60 (Or.inr (slot_ne (Or.inr (hw _ (List.mem_of_getElem? (i := 169) rfl))) (Or.inr (hw _ (List.mem_of_getElem? (i := 171) rfl))) (by decide) (t := (.array .int)) (t' := (.array .int)) (by decide) (by decide))))
  obtain ⟨T62, X62, e62, st62⟩ := getF X60 hx hZ hown (host := "") (Or.inl (hw _ (List.mem_of_getElem? (i := 168) rfl))) Via.refl e60 ft61 (g := (mkF m 207 #[rv a1, iv q1, iv q2, iv q3, rv a2, iv 0, .unset, .unset, .unset] [(.ref a1)])) rfl rfl (hb hby d5_207)
  refine Go.st (f' := (mkF m 210 #[rv a1, iv q1, iv q2, iv q3, rv a2, iv 0, .unset, .unset, .unset] [(.ref b39)])) (fun _ k => st62 _ k) ?_
  refine Go.st (f' := (mkF m 212 #[rv a1, iv q1, iv q2, iv q3, rv a2, rv b39, .unset, .unset, .unset] [])) (fun _ k => XS.astore X62.here hx rfl (hb hby d5_210) rfl rfl (l' := #[rv a1, iv q1, iv q2, iv q3, rv a2, rv b39, .unset, .unset, .unset]) rfl k) ?_
  refine Go.st (f' := (mkF m 214 #[rv a1, iv q1, iv q2, iv q3, rv a2, rv b39, .unset, .unset, .unset] [(.ref b39)])) (fun _ k => XS.aload X62.here hx rfl (hb hby d5_212) rfl rfl k) ?_
  have ft64 := (((V_b39.other W46 (Ne.symm ne_a1_b39)).ext E52).other W60 (Ne.symm ne_a1_b39))
  obtain ⟨cl63, Ar63, -, S63, Nx63, -, -⟩ := id ft64
  refine Go.st (T' := T62) (f' := (mkF m 215 #[rv a1, iv q1, iv q2, iv q3, rv a2, rv b39, .unset, .unset, .unset] [(.int 0)])) (fun _ k => X62.arraylength hx (by rw [e62]; exact Ar63.1) (State.isArrayOf_alike hZ.alike Ar63.2.1) (g := (mkF m 214 #[rv a1, iv q1, iv q2, iv q3, rv a2, rv b39, .unset, .unset, .unset] [(.ref b39)])) rfl rfl (hb hby d5_214) _ (by rw [len_of S63 Nx63]; exact k)) ?_
  refine Go.st (f' := (mkF m 217 #[rv a1, iv q1, iv q2, iv q3, rv a2, rv b39, iv 0, .unset, .unset] [])) (fun _ k => XS.istore X62.here hx rfl (hb hby d5_215) rfl (l' := #[rv a1, iv q1, iv q2, iv q3, rv a2, rv b39, iv 0, .unset, .unset]) rfl k) ?_
  refine Go.st (f' := (mkF m 218 #[rv a1, iv q1, iv q2, iv q3, rv a2, rv b39, iv 0, .unset, .unset] [(.int 0)])) (fun _ k => XS.iconst X62.here hx rfl (hb hby d5_217) k) ?_
  refine Go.st (f' := (mkF m 220 #[rv a1, iv q1, iv q2, iv q3, rv a2, rv b39, iv 0, iv 0, .unset] [])) (fun _ k => XS.istore X62.here hx rfl (hb hby d5_218) rfl (l' := #[rv a1, iv q1, iv q2, iv q3, rv a2, rv b39, iv 0, iv 0, .unset]) rfl k) ?_
  refine Go.st (f' := (mkF m 222 #[rv a1, iv q1, iv q2, iv q3, rv a2, rv b39, iv 0, iv 0, .unset] [(.int 0)])) (fun _ k => XS.iload X62.here hx rfl (hb hby d5_220) rfl k) ?_
  refine Go.st (f' := (mkF m 224 #[rv a1, iv q1, iv q2, iv q3, rv a2, rv b39, iv 0, iv 0, .unset] [(.int 0), (.int 0)])) (fun _ k => XS.iload X62.here hx rfl (hb hby d5_222) rfl k) ?_
  refine Go.st (f' := (mkF m 253 #[rv a1, iv q1, iv q2, iv q3, rv a2, rv b39, iv 0, iv 0, .unset] [])) (fun _ k => XS.icmpYes X62.here hx rfl (pc0 := 224) (pc' := 253) rfl (hb hby d5_224) rfl (by decide) (by decide) (by decide) k) ?_
  refine Go.st (f' := (mkF m 254 #[rv a1, iv q1, iv q2, iv q3, rv a2, rv b39, iv 0, iv 0, .unset] [(.int 1)])) (fun _ k => XS.iconst X62.here hx rfl (hb hby d5_253) k) ?_
  refine Go.st (f' := (mkF m 256 #[rv a1, iv q1, iv q2, iv q3, rv a2, iv 1, iv 0, iv 0, .unset] [])) (fun _ k => XS.istore X62.here hx rfl (hb hby d5_254) rfl (l' := #[rv a1, iv q1, iv q2, iv q3, rv a2, iv 1, iv 0, iv 0, .unset]) rfl k) ?_
  have LP : ∀ (fuel : Nat) (TJ65 : State) (hJ65 : Heap) (LJ65 : List Loc) (i : Int32), (Stand p l e ({ frames := 5, cells := 9, slots := 131084, locals := 76 } : Room) s m #[(.ref a1), (.int q1), (.int q2), (.int q3), (.ref a2)] below meth c TJ65 LJ65 6 65547) → (TJ65.heap = hJ65) → (Old Z n0 hJ65) → (Fr n0 LJ65) → (Keep h0 hJ65 [a1]) → (Exa Z hJ65 a1 "com/example/kinetic_city/kineticcity/engine/Network") → (Fld Z hJ65 a1 "com/example/kinetic_city/kineticcity/engine/Network" "zoneCount" "I" (.int q2)) → (Fld Z hJ65 a1 "com/example/kinetic_city/kineticcity/engine/Network" "outgoingStart" "[I" (.ref b52)) → (Fld Z hJ65 a1 "com/example/kinetic_city/kineticcity/engine/Network" "outgoing" "[I" .null) → (Fld Z hJ65 a1 "com/example/kinetic_city/kineticcity/engine/Network" "outgoingTermNodes" "[I" .null) → (Ia Z hJ65 b52 (q1 + (2 : Int32))) → (Exa Z hJ65 a2 "java/util/ArrayList") → (Fld Z hJ65 a2 "java/util/AbstractList" "modCount" "I" (.int (0 : Int32))) → (Fld Z hJ65 a2 "java/util/ArrayList" "elementData" "[Ljava/lang/Object;" (.ref w_DEFAULTCAPACITY_EMPTY_ELEMENTDATA)) → (Fld Z hJ65 a2 "java/util/ArrayList" "size" "I" (.int (0 : Int32))) → (a1 < hJ65.size) → (a2 < hJ65.size) → (b52 < hJ65.size) → (1 ≤ i.toInt) → (i.toInt ≤ q1.toInt + 2) → (i.toInt + (fuel : Int) = q1.toInt + 2) → Go p e below (Done s (fun v h L => v = none ∧ Fr n0 L ∧ Keep h0 h [a1] ∧ Exa Z h a1 "com/example/kinetic_city/kineticcity/engine/Network" ∧ Fld Z h a1 "com/example/kinetic_city/kineticcity/engine/Network" "zoneCount" "I" (.int q2)) ({ frames := 5, cells := 9, slots := 131084, locals := 76 } : Room).cells ({ frames := 5, cells := 9, slots := 131084, locals := 76 } : Room).slots) TJ65 (mkF m 256 #[rv a1, iv q1, iv q2, iv q3, rv a2, iv i, iv 0, iv 0, .unset] []) := by
    intro fuel
    induction fuel with
    | zero =>
      intro TJ65 hJ65 LJ65 i XJ65 eJ65 OJ65 NJ65 KJ65 cyJ65_0 cyJ65_1 cyJ65_2 cyJ65_3 cyJ65_4 cyJ65_5 cyJ65_6 cyJ65_7 cyJ65_8 cyJ65_9 cyJ65_10 cyJ65_11 cyJ65_12 hi1 hi2 hi3
      have hgt : (q1 + (1 : Int32)) < i := ar_lt (by have := (ar1 hB).2; omega)
      refine Go.st (f' := (mkF m 258 #[rv a1, iv q1, iv q2, iv q3, rv a2, iv i, iv 0, iv 0, .unset] [(.int i)])) (fun _ k => XS.iload XJ65.here hx rfl (hb hby d5_256) rfl k) ?_
      refine Go.st (f' := (mkF m 259 #[rv a1, iv q1, iv q2, iv q3, rv a2, iv i, iv 0, iv 0, .unset] [(.int q1), (.int i)])) (fun _ k => XS.iloadN XJ65.here hx rfl (hb hby d5_258) rfl k) ?_
      refine Go.st (f' := (mkF m 260 #[rv a1, iv q1, iv q2, iv q3, rv a2, iv i, iv 0, iv 0, .unset] [(.int 1), (.int q1), (.int i)])) (fun _ k => XS.iconst XJ65.here hx rfl (hb hby d5_259) k) ?_
      refine Go.st (f' := (mkF m 261 #[rv a1, iv q1, iv q2, iv q3, rv a2, iv i, iv 0, iv 0, .unset] [(.int (q1 + (1 : Int32))), (.int i)])) (fun _ k => XS.iadd XJ65.here hx rfl (hb hby d5_260) rfl k) ?_
      refine Go.st (f' := (mkF m 289 #[rv a1, iv q1, iv q2, iv q3, rv a2, iv i, iv 0, iv 0, .unset] [])) (fun _ k => XS.icmpYes XJ65.here hx rfl (pc0 := 261) (pc' := 289) rfl (hb hby d5_261) rfl (tlt hgt).2.2.1 (by decide) (by decide) k) ?_
      refine Go.st (f' := (mkF m 290 #[rv a1, iv q1, iv q2, iv q3, rv a2, iv i, iv 0, iv 0, .unset] [(.ref a1)])) (fun _ k => XS.aloadN XJ65.here hx rfl (hb hby d5_289) rfl rfl k) ?_
      refine Go.st (f' := (mkF m 292 #[rv a1, iv q1, iv q2, iv q3, rv a2, iv i, iv 0, iv 0, .unset] [(.ref a2), (.ref a1)])) (fun _ k => XS.aload XJ65.here hx rfl (hb hby d5_290) rfl rfl k) ?_
      obtain ⟨cq66, kq66, q66a, q66b, q66c⟩ := isOf hZ eJ65 cyJ65_6
      obtain ⟨_, _, ⟨T66, L66, kk66, nn66⟩, -, X66, ⟨Lc66, hQ66, lq66, yq66, zz66⟩, st66⟩ := XJ65.interfaceBack hx (xi := (⟨"java/util/List", "size", "()I"⟩ : MethodName)) (y := (⟨"java/util/ArrayList", "size", "()I"⟩ : MethodName)) hown (mvT hZ (hw _ (List.mem_of_getElem? (i := 159) rfl))) (mvT hZ (hw _ (List.mem_of_getElem? (i := 160) rfl))) (mvT hZ (hw _ (List.mem_of_getElem? (i := 161) rfl))) (mvT hZ (hw _ (List.mem_of_getElem? (i := 162) rfl))) (mvT hZ (hw _ (List.mem_of_getElem? (i := 163) rfl))) (mvT hZ (hw _ (List.mem_of_getElem? (i := 164) rfl))) (mvT hZ (hw _ (List.mem_of_getElem? (i := 165) rfl))) (mvT hZ (hw _ (List.mem_of_getElem? (i := 42) rfl))) (by decide) (own_back (W := 1) (rmSz l Z a0 hw [] a2 hJ65 n0 OJ65 cyJ65_6 cyJ65_7 cyJ65_8 cyJ65_9) hZ (hw _ (List.mem_of_getElem? (i := 166) rfl)) (hw _ (List.mem_of_getElem? (i := 7) rfl)) (by decide) (by decide)) q66a q66b q66c (g := (mkF m 292 #[rv a1, iv q1, iv q2, iv q3, rv a2, iv i, iv 0, iv 0, .unset] [(.ref a2), (.ref a1)])) rfl (by rw [hml]; rfl) (Steps.refl _) (argsL := []) (rest := [(.ref a1)]) (lenOf pd___I rfl) rfl (by show 2 * 0 + _ ≤ _; exact Nat.le_of_eq rfl) (hb hby d5_292) (fun _ _ => ⟨rfl, eJ65, (by decide : 6 + 0 ≤ _), (by decide : 65547 + 0 ≤ _)⟩)
      dsimp only [Pt.U, Pt.locs, Pt.cells, Pt.slots] at X66 lq66 yq66 zz66 st66 hQ66
      subst lq66 yq66 zz66
      obtain ⟨rfl, Nq66, kq66⟩ := hQ66
      have N66 := Fr.app NJ65 Nq66
      refine Go.tr (f' := (mkF m 297 #[rv a1, iv q1, iv q2, iv q3, rv a2, iv i, iv 0, iv 0, .unset] [(.int 0), (.ref a1)])) st66 ?_
      obtain ⟨T67, h67, kc67, X67, e67, E67, A67, st67⟩ := newP X66 hx hZ (hw _ (List.mem_of_getElem? (i := 167) rfl)) kq66 (g := (mkF m 297 #[rv a1, iv q1, iv q2, iv q3, rv a2, iv i, iv 0, iv 0, .unset] [(.int 0), (.ref a1)])) rfl (hb hby d5_297) rfl (by decide) (cap := 0) (by decide) (by decide) (by decide) (by decide)
      obtain ⟨b67, g67⟩ : ∃ z, z = hJ65.size := ⟨_, rfl⟩
      rw [← g67] at A67 st67
      have ne_a1_b67 : a1 ≠ b67 := Nat.ne_of_lt (Nat.lt_of_lt_of_eq cyJ65_10 g67.symm)
      have ne_a2_b67 : a2 ≠ b67 := Nat.ne_of_lt (Nat.lt_of_lt_of_eq cyJ65_11 g67.symm)
      have ne_b52_b67 : b52 ≠ b67 := Nat.ne_of_lt (Nat.lt_of_lt_of_eq cyJ65_12 g67.symm)
      have ne_w_EMPTY_ELEMENTDATA_b67 : w_EMPTY_ELEMENTDATA ≠ b67 := Nat.ne_of_lt (Nat.lt_of_lt_of_le lt_w_EMPTY_ELEMENTDATA (Nat.le_trans OJ65.2.1 (Nat.le_of_eq g67.symm)))
      have ne_w_DEFAULTCAPACITY_EMPTY_ELEMENTDATA_b67 : w_DEFAULTCAPACITY_EMPTY_ELEMENTDATA ≠ b67 := Nat.ne_of_lt (Nat.lt_of_lt_of_le lt_w_DEFAULTCAPACITY_EMPTY_ELEMENTDATA (Nat.le_trans OJ65.2.1 (Nat.le_of_eq g67.symm)))
      have g_b67 : n0 ≤ b67 := Nat.le_trans (OJ65.1 ▸ OJ65.2.1) (Nat.le_of_eq g67.symm)
      have O67 : Old Z n0 h67 := OJ65.ext E67
      have sz_b67 : h0.size ≤ b67 := Nat.le_trans KJ65.1 (Nat.le_of_eq g67.symm)
      have K67 : Keep h0 h67 [a1] := KJ65.ext E67
      have V_b67 : Arv Z h67 b67 kc67 .int (0 : Int32) [] (.int (0 : Int32)) := Arv.new A67 (by decide)
      have lt_b67 := V_b67.lt
      refine Go.st (f' := (mkF m 299 #[rv a1, iv q1, iv q2, iv q3, rv a2, iv i, iv 0, iv 0, .unset] [(.ref b67), (.ref a1)])) (fun _ k => st67 _ k) ?_
      have ft68 := (cyJ65_0.ext E67)
      have ft69 := (cyJ65_3.ext E67)
      obtain ⟨T70, h70, X70, e70, W70, st70⟩ := putF X67 hx hZ hown (host := "") (Or.inl (hw _ (List.mem_of_getElem? (i := 172) rfl))) Via.refl e67 ft69 ft68 (Or.inr ⟨(hw _ (List.mem_of_getElem? (i := 173) rfl)), rfl, hnm⟩) (hw _ (List.mem_of_getElem? (i := 3) rfl)) (ty := (.array .int)) (by decide) rfl rfl (g := (mkF m 299 #[rv a1, iv q1, iv q2, iv q3, rv a2, iv i, iv 0, iv 0, .unset] [(.ref b67), (.ref a1)])) rfl rfl (hb hby d5_299)
      have N70 := Fr.snoc X70 N66 g_a1
      have O70 : Old Z n0 h70 := O67.wr W70 g_a1
      have K70 : Keep h0 h70 [a1] := K67.wr W70 (Or.inl (List.mem_of_getElem? (i := 0) rfl))
      have Fw70 := ft69.same W70
      refine Go.st (f' := (mkF m 302 #[rv a1, iv q1, iv q2, iv q3, rv a2, iv i, iv 0, iv 0, .unset] [])) (fun _ k => st70 _ k) ?_
      refine Go.st (f' := (mkF m 303 #[rv a1, iv q1, iv q2, iv q3, rv a2, iv i, iv 0, iv 0, .unset] [(.ref a1)])) (fun _ k => XS.aloadN X70.here hx rfl (hb hby d5_302) rfl rfl k) ?_
      refine Go.st (f' := (mkF m 305 #[rv a1, iv q1, iv q2, iv q3, rv a2, iv i, iv 0, iv 0, .unset] [(.ref a2), (.ref a1)])) (fun _ k => XS.aload X70.here hx rfl (hb hby d5_303) rfl rfl k) ?_
      have ft72 := ((cyJ65_6.ext E67).wr W70)
      have ft73 := ((cyJ65_7.ext E67).other W70 (Or.inl (Ne.symm ne12)))
      have ft74 := ((cyJ65_8.ext E67).other W70 (Or.inl (Ne.symm ne12)))
      have ft75 := ((cyJ65_9.ext E67).other W70 (Or.inl (Ne.symm ne12)))
      obtain ⟨cq71, kq71, q71a, q71b, q71c⟩ := isOf hZ e70 ft72
      obtain ⟨_, _, ⟨T71, L71, kk71, nn71⟩, -, X71, ⟨Lc71, hQ71, lq71, yq71, zz71⟩, st71⟩ := X70.interfaceBack hx (xi := (⟨"java/util/List", "size", "()I"⟩ : MethodName)) (y := (⟨"java/util/ArrayList", "size", "()I"⟩ : MethodName)) hown (mvT hZ (hw _ (List.mem_of_getElem? (i := 159) rfl))) (mvT hZ (hw _ (List.mem_of_getElem? (i := 160) rfl))) (mvT hZ (hw _ (List.mem_of_getElem? (i := 161) rfl))) (mvT hZ (hw _ (List.mem_of_getElem? (i := 162) rfl))) (mvT hZ (hw _ (List.mem_of_getElem? (i := 163) rfl))) (mvT hZ (hw _ (List.mem_of_getElem? (i := 164) rfl))) (mvT hZ (hw _ (List.mem_of_getElem? (i := 165) rfl))) (mvT hZ (hw _ (List.mem_of_getElem? (i := 42) rfl))) (by decide) (own_back (W := 1) (rmSz l Z a0 hw [] a2 h70 n0 O70 ft72 ft73 ft74 ft75) hZ (hw _ (List.mem_of_getElem? (i := 166) rfl)) (hw _ (List.mem_of_getElem? (i := 7) rfl)) (by decide) (by decide)) q71a q71b q71c (g := (mkF m 305 #[rv a1, iv q1, iv q2, iv q3, rv a2, iv i, iv 0, iv 0, .unset] [(.ref a2), (.ref a1)])) rfl (by rw [hml]; rfl) (Steps.refl _) (argsL := []) (rest := [(.ref a1)]) (lenOf pd___I rfl) rfl (by show 2 * 0 + _ ≤ _; exact Nat.le_of_eq rfl) (hb hby d5_305) (fun _ _ => ⟨rfl, e70, (by decide : 7 + 0 ≤ _), (by decide : 65547 + 0 ≤ _)⟩)
      dsimp only [Pt.U, Pt.locs, Pt.cells, Pt.slots] at X71 lq71 yq71 zz71 st71 hQ71
      subst lq71 yq71 zz71
      obtain ⟨rfl, Nq71, kq71⟩ := hQ71
      have N71 := Fr.app N70 Nq71
      refine Go.tr (f' := (mkF m 310 #[rv a1, iv q1, iv q2, iv q3, rv a2, iv i, iv 0, iv 0, .unset] [(.int 0), (.ref a1)])) st71 ?_
      obtain ⟨T76, h76, kc76, X76, e76, E76, A76, st76⟩ := newP X71 hx hZ (hw _ (List.mem_of_getElem? (i := 167) rfl)) kq71 (g := (mkF m 310 #[rv a1, iv q1, iv q2, iv q3, rv a2, iv i, iv 0, iv 0, .unset] [(.int 0), (.ref a1)])) rfl (hb hby d5_310) rfl (by decide) (cap := 0) (by decide) (by decide) (by decide) (by decide)
      obtain ⟨b76, g76⟩ : ∃ z, z = h70.size := ⟨_, rfl⟩
      rw [← g76] at A76 st76
      have ft77 := (Nat.lt_of_lt_of_eq (Nat.lt_of_lt_of_le cyJ65_10 E67.1) W70.size.symm)
      have ne_a1_b76 : a1 ≠ b76 := Nat.ne_of_lt (Nat.lt_of_lt_of_eq ft77 g76.symm)
      have ft78 := (Nat.lt_of_lt_of_eq (Nat.lt_of_lt_of_le cyJ65_11 E67.1) W70.size.symm)
      have ne_a2_b76 : a2 ≠ b76 := Nat.ne_of_lt (Nat.lt_of_lt_of_eq ft78 g76.symm)
      have ft79 := (Nat.lt_of_lt_of_eq (Nat.lt_of_lt_of_le cyJ65_12 E67.1) W70.size.symm)
      have ne_b52_b76 : b52 ≠ b76 := Nat.ne_of_lt (Nat.lt_of_lt_of_eq ft79 g76.symm)
      have ft80 := (Nat.lt_of_lt_of_eq lt_b67 W70.size.symm)
      have ne_b67_b76 : b67 ≠ b76 := Nat.ne_of_lt (Nat.lt_of_lt_of_eq ft80 g76.symm)
      have ne_w_EMPTY_ELEMENTDATA_b76 : w_EMPTY_ELEMENTDATA ≠ b76 := Nat.ne_of_lt (Nat.lt_of_lt_of_le lt_w_EMPTY_ELEMENTDATA (Nat.le_trans O70.2.1 (Nat.le_of_eq g76.symm)))
      have ne_w_DEFAULTCAPACITY_EMPTY_ELEMENTDATA_b76 : w_DEFAULTCAPACITY_EMPTY_ELEMENTDATA ≠ b76 := Nat.ne_of_lt (Nat.lt_of_lt_of_le lt_w_DEFAULTCAPACITY_EMPTY_ELEMENTDATA (Nat.le_trans O70.2.1 (Nat.le_of_eq g76.symm)))
      have g_b76 : n0 ≤ b76 := Nat.le_trans (O70.1 ▸ O70.2.1) (Nat.le_of_eq g76.symm)
      have O76 : Old Z n0 h76 := O70.ext E76
      have sz_b76 : h0.size ≤ b76 := Nat.le_trans K70.1 (Nat.le_of_eq g76.symm)
      have K76 : Keep h0 h76 [a1] := K70.ext E76
      have V_b76 : Arv Z h76 b76 kc76 .int (0 : Int32) [] (.int (0 : Int32)) := Arv.new A76 (by decide)
      have lt_b76 := V_b76.lt
      refine Go.st (f' := (mkF m 312 #[rv a1, iv q1, iv q2, iv q3, rv a2, iv i, iv 0, iv 0, .unset] [(.ref b76), (.ref a1)])) (fun _ k => st76 _ k) ?_
      have ft81 := ((ft68.wr W70).ext E76)
      have ft82 := (((cyJ65_4.ext E67).other W70 (Or.inr (slot_ne (Or.inr (hw _ (List.mem_of_getElem? (i := 175) rfl))) (Or.inr (hw _ (List.mem_of_getElem? (i := 173) rfl))) (by decide) (t := (.array .int)) (t' := (.array .int)) (by decide) (by decide)))).ext E76)
      obtain ⟨T83, h83, X83, e83, W83, st83⟩ := putF X76 hx hZ hown (host := "") (Or.inl (hw _ (List.mem_of_getElem? (i := 174) rfl))) Via.refl e76 ft82 ft81 (Or.inr ⟨(hw _ (List.mem_of_getElem? (i := 175) rfl)), rfl, hnm⟩) (hw _ (List.mem_of_getElem? (i := 3) rfl)) (ty := (.array .int)) (by decide) rfl rfl (g := (mkF m 312 #[rv a1, iv q1, iv q2, iv q3, rv a2, iv i, iv 0, iv 0, .unset] [(.ref b76), (.ref a1)])) rfl rfl (hb hby d5_312)
      have N83 := Fr.snoc X83 N71 g_a1
      have O83 : Old Z n0 h83 := O76.wr W83 g_a1
      have K83 : Keep h0 h83 [a1] := K76.wr W83 (Or.inl (List.mem_of_getElem? (i := 0) rfl))
      have Fw83 := ft82.same W83
      refine Go.st (f' := (mkF m 315 #[rv a1, iv q1, iv q2, iv q3, rv a2, iv i, iv 0, iv 0, .unset] [])) (fun _ k => st83 _ k) ?_
      refine Go.st (f' := (mkF m 316 #[rv a1, iv q1, iv q2, iv q3, rv a2, iv i, iv 0, iv 0, .unset] [(.int q1)])) (fun _ k => XS.iloadN X83.here hx rfl (hb hby d5_315) rfl k) ?_
      refine Go.st (f' := (mkF m 317 #[rv a1, iv q1, iv q2, iv q3, rv a2, iv i, iv 0, iv 0, .unset] [(.int 1), (.int q1)])) (fun _ k => XS.iconst X83.here hx rfl (hb hby d5_316) k) ?_
      refine Go.st (f' := (mkF m 318 #[rv a1, iv q1, iv q2, iv q3, rv a2, iv i, iv 0, iv 0, .unset] [(.int (q1 + (1 : Int32)))])) (fun _ k => XS.iadd X83.here hx rfl (hb hby d5_317) rfl k) ?_
      obtain ⟨T84, h84, kc84, X84, e84, E84, A84, st84⟩ := newP X83 hx hZ (hw _ (List.mem_of_getElem? (i := 167) rfl)) e83 (g := (mkF m 318 #[rv a1, iv q1, iv q2, iv q3, rv a2, iv i, iv 0, iv 0, .unset] [(.int (q1 + (1 : Int32)))])) rfl (hb hby d5_318) rfl (ar_neg (by have := (ar1 hB).2; omega)) (cap := 65537) (ar_cap (n := 65537) (by have := (ar1 hB).2; omega)) (by decide) (by decide) (by decide)
      obtain ⟨b84, g84⟩ : ∃ z, z = h83.size := ⟨_, rfl⟩
      rw [← g84] at A84 st84
      have ft85 := (Nat.lt_of_lt_of_eq (Nat.lt_of_lt_of_le ft77 E76.1) W83.size.symm)
      have ne_a1_b84 : a1 ≠ b84 := Nat.ne_of_lt (Nat.lt_of_lt_of_eq ft85 g84.symm)
      have ft86 := (Nat.lt_of_lt_of_eq (Nat.lt_of_lt_of_le ft78 E76.1) W83.size.symm)
      have ne_a2_b84 : a2 ≠ b84 := Nat.ne_of_lt (Nat.lt_of_lt_of_eq ft86 g84.symm)
      have ft87 := (Nat.lt_of_lt_of_eq (Nat.lt_of_lt_of_le ft79 E76.1) W83.size.symm)
      have ne_b52_b84 : b52 ≠ b84 := Nat.ne_of_lt (Nat.lt_of_lt_of_eq ft87 g84.symm)
      have ft88 := (Nat.lt_of_lt_of_eq (Nat.lt_of_lt_of_le ft80 E76.1) W83.size.symm)
      have ne_b67_b84 : b67 ≠ b84 := Nat.ne_of_lt (Nat.lt_of_lt_of_eq ft88 g84.symm)
      have ft89 := (Nat.lt_of_lt_of_eq lt_b76 W83.size.symm)
      have ne_b76_b84 : b76 ≠ b84 := Nat.ne_of_lt (Nat.lt_of_lt_of_eq ft89 g84.symm)
      have ne_w_EMPTY_ELEMENTDATA_b84 : w_EMPTY_ELEMENTDATA ≠ b84 := Nat.ne_of_lt (Nat.lt_of_lt_of_le lt_w_EMPTY_ELEMENTDATA (Nat.le_trans O83.2.1 (Nat.le_of_eq g84.symm)))
      have ne_w_DEFAULTCAPACITY_EMPTY_ELEMENTDATA_b84 : w_DEFAULTCAPACITY_EMPTY_ELEMENTDATA ≠ b84 := Nat.ne_of_lt (Nat.lt_of_lt_of_le lt_w_DEFAULTCAPACITY_EMPTY_ELEMENTDATA (Nat.le_trans O83.2.1 (Nat.le_of_eq g84.symm)))
      have g_b84 : n0 ≤ b84 := Nat.le_trans (O83.1 ▸ O83.2.1) (Nat.le_of_eq g84.symm)
      have O84 : Old Z n0 h84 := O83.ext E84
      have sz_b84 : h0.size ≤ b84 := Nat.le_trans K83.1 (Nat.le_of_eq g84.symm)
      have K84 : Keep h0 h84 [a1] := K83.ext E84
      have I_b84 : Ia Z h84 b84 (q1 + (1 : Int32)) := Ia.new A84 (ar_neg (by have := (ar1 hB).2; omega))
      have lt_b84 := A84.lt
      refine Go.st (f' := (mkF m 320 #[rv a1, iv q1, iv q2, iv q3, rv a2, iv i, iv 0, iv 0, .unset] [(.ref b84)])) (fun _ k => st84 _ k) ?_
      refine Go.st (f' := (mkF m 322 #[rv a1, iv q1, iv q2, iv q3, rv a2, rv b84, iv 0, iv 0, .unset] [])) (fun _ k => XS.astore X84.here hx rfl (hb hby d5_320) rfl rfl (l' := #[rv a1, iv q1, iv q2, iv q3, rv a2, rv b84, iv 0, iv 0, .unset]) rfl k) ?_
      refine Go.st (f' := (mkF m 323 #[rv a1, iv q1, iv q2, iv q3, rv a2, rv b84, iv 0, iv 0, .unset] [(.int 0)])) (fun _ k => XS.iconst X84.here hx rfl (hb hby d5_322) k) ?_
      refine Go.st (f' := (mkF m 325 #[rv a1, iv q1, iv q2, iv q3, rv a2, rv b84, iv 0, iv 0, .unset] [])) (fun _ k => XS.istore X84.here hx rfl (hb hby d5_323) rfl (l' := #[rv a1, iv q1, iv q2, iv q3, rv a2, rv b84, iv 0, iv 0, .unset]) rfl k) ?_
      refine Go.st (f' := (mkF m 327 #[rv a1, iv q1, iv q2, iv q3, rv a2, rv b84, iv 0, iv 0, .unset] [(.int 0)])) (fun _ k => XS.iload X84.here hx rfl (hb hby d5_325) rfl k) ?_
      refine Go.st (f' := (mkF m 329 #[rv a1, iv q1, iv q2, iv q3, rv a2, rv b84, iv 0, iv 0, .unset] [(.ref a2), (.int 0)])) (fun _ k => XS.aload X84.here hx rfl (hb hby d5_327) rfl rfl k) ?_
      have ft91 := (((ft72.ext E76).wr W83).ext E84)
      have ft92 := (((ft73.ext E76).other W83 (Or.inl (Ne.symm ne12))).ext E84)
      have ft93 := (((ft74.ext E76).other W83 (Or.inl (Ne.symm ne12))).ext E84)
      have ft94 := (((ft75.ext E76).other W83 (Or.inl (Ne.symm ne12))).ext E84)
      obtain ⟨cq90, kq90, q90a, q90b, q90c⟩ := isOf hZ e84 ft91
      obtain ⟨_, _, ⟨T90, L90, kk90, nn90⟩, -, X90, ⟨Lc90, hQ90, lq90, yq90, zz90⟩, st90⟩ := X84.interfaceBack hx (xi := (⟨"java/util/List", "size", "()I"⟩ : MethodName)) (y := (⟨"java/util/ArrayList", "size", "()I"⟩ : MethodName)) hown (mvT hZ (hw _ (List.mem_of_getElem? (i := 159) rfl))) (mvT hZ (hw _ (List.mem_of_getElem? (i := 160) rfl))) (mvT hZ (hw _ (List.mem_of_getElem? (i := 161) rfl))) (mvT hZ (hw _ (List.mem_of_getElem? (i := 162) rfl))) (mvT hZ (hw _ (List.mem_of_getElem? (i := 163) rfl))) (mvT hZ (hw _ (List.mem_of_getElem? (i := 164) rfl))) (mvT hZ (hw _ (List.mem_of_getElem? (i := 165) rfl))) (mvT hZ (hw _ (List.mem_of_getElem? (i := 42) rfl))) (by decide) (own_back (W := 1) (rmSz l Z a0 hw [] a2 h84 n0 O84 ft91 ft92 ft93 ft94) hZ (hw _ (List.mem_of_getElem? (i := 166) rfl)) (hw _ (List.mem_of_getElem? (i := 7) rfl)) (by decide) (by decide)) q90a q90b q90c (g := (mkF m 329 #[rv a1, iv q1, iv q2, iv q3, rv a2, rv b84, iv 0, iv 0, .unset] [(.ref a2), (.int 0)])) rfl (by rw [hml]; rfl) (Steps.refl _) (argsL := []) (rest := [(.int (0 : Int32))]) (lenOf pd___I rfl) rfl (by show 2 * 0 + _ ≤ _; exact Nat.le_of_eq rfl) (hb hby d5_329) (fun _ _ => ⟨rfl, e84, (by decide : 9 + 0 ≤ _), (by decide : 131084 + 0 ≤ _)⟩)
      dsimp only [Pt.U, Pt.locs, Pt.cells, Pt.slots] at X90 lq90 yq90 zz90 st90 hQ90
      subst lq90 yq90 zz90
      obtain ⟨rfl, Nq90, kq90⟩ := hQ90
      have N90 := Fr.app N83 Nq90
      refine Go.tr (f' := (mkF m 334 #[rv a1, iv q1, iv q2, iv q3, rv a2, rv b84, iv 0, iv 0, .unset] [(.int 0), (.int 0)])) st90 ?_
      refine Go.st (f' := (mkF m 407 #[rv a1, iv q1, iv q2, iv q3, rv a2, rv b84, iv 0, iv 0, .unset] [])) (fun _ k => XS.icmpYes X90.here hx rfl (pc0 := 334) (pc' := 407) rfl (hb hby d5_334) rfl (by decide) (by decide) (by decide) k) ?_
      refine Go.ret0 X90 hlk hx hret (hb hby d5_407) kq90 ?_ (by decide) (by decide)
      have ft95 := ((ft81.wr W83).ext E84)
      have ft96 := (((((cyJ65_1.ext E67).other W70 (Or.inr (slot_ne (Or.inr (hw _ (List.mem_of_getElem? (i := 76) rfl))) (Or.inr (hw _ (List.mem_of_getElem? (i := 173) rfl))) (by decide) (t := .int) (t' := (.array .int)) (by decide) (by decide)))).ext E76).other W83 (Or.inr (slot_ne (Or.inr (hw _ (List.mem_of_getElem? (i := 76) rfl))) (Or.inr (hw _ (List.mem_of_getElem? (i := 175) rfl))) (by decide) (t := .int) (t' := (.array .int)) (by decide) (by decide)))).ext E84)
      exact ⟨rfl, N90, K84, ft95, ft96⟩
    | succ fuel ih =>
      intro TJ65 hJ65 LJ65 i XJ65 eJ65 OJ65 NJ65 KJ65 cyJ65_0 cyJ65_1 cyJ65_2 cyJ65_3 cyJ65_4 cyJ65_5 cyJ65_6 cyJ65_7 cyJ65_8 cyJ65_9 cyJ65_10 cyJ65_11 cyJ65_12 hi1 hi2 hi3
      have hle : ¬ (q1 + (1 : Int32)) < i := by rw [Int32.lt_iff_toInt_lt]; have := (ar1 hB).2; omega
      refine Go.st (f' := (mkF m 258 #[rv a1, iv q1, iv q2, iv q3, rv a2, iv i, iv 0, iv 0, .unset] [(.int i)])) (fun _ k => XS.iload XJ65.here hx rfl (hb hby d5_256) rfl k) ?_
      refine Go.st (f' := (mkF m 259 #[rv a1, iv q1, iv q2, iv q3, rv a2, iv i, iv 0, iv 0, .unset] [(.int q1), (.int i)])) (fun _ k => XS.iloadN XJ65.here hx rfl (hb hby d5_258) rfl k) ?_
      refine Go.st (f' := (mkF m 260 #[rv a1, iv q1, iv q2, iv q3, rv a2, iv i, iv 0, iv 0, .unset] [(.int 1), (.int q1), (.int i)])) (fun _ k => XS.iconst XJ65.here hx rfl (hb hby d5_259) k) ?_
      refine Go.st (f' := (mkF m 261 #[rv a1, iv q1, iv q2, iv q3, rv a2, iv i, iv 0, iv 0, .unset] [(.int (q1 + (1 : Int32))), (.int i)])) (fun _ k => XS.iadd XJ65.here hx rfl (hb hby d5_260) rfl k) ?_
      refine Go.st (f' := (mkF m 264 #[rv a1, iv q1, iv q2, iv q3, rv a2, iv i, iv 0, iv 0, .unset] [])) (fun _ k => XS.icmpNo XJ65.here hx rfl (hb hby d5_261) rfl (flt hle).2.2.1 k) ?_
      refine Go.st (f' := (mkF m 265 #[rv a1, iv q1, iv q2, iv q3, rv a2, iv i, iv 0, iv 0, .unset] [(.ref a1)])) (fun _ k => XS.aloadN XJ65.here hx rfl (hb hby d5_264) rfl rfl k) ?_
      obtain ⟨T97, X97, e97, st97⟩ := getF XJ65 hx hZ hown (host := "") (Or.inl (hw _ (List.mem_of_getElem? (i := 170) rfl))) Via.refl eJ65 cyJ65_2 (g := (mkF m 265 #[rv a1, iv q1, iv q2, iv q3, rv a2, iv i, iv 0, iv 0, .unset] [(.ref a1)])) rfl rfl (hb hby d5_265)
      refine Go.st (f' := (mkF m 268 #[rv a1, iv q1, iv q2, iv q3, rv a2, iv i, iv 0, iv 0, .unset] [(.ref b52)])) (fun _ k => st97 _ k) ?_
      refine Go.st (f' := (mkF m 270 #[rv a1, iv q1, iv q2, iv q3, rv a2, iv i, iv 0, iv 0, .unset] [(.int i), (.ref b52)])) (fun _ k => XS.iload X97.here hx rfl (hb hby d5_268) rfl k) ?_
      refine Go.st (f' := (mkF m 271 #[rv a1, iv q1, iv q2, iv q3, rv a2, iv i, iv 0, iv 0, .unset] [(.int i), (.ref b52), (.int i), (.ref b52)])) (fun _ k => XT.dup2 X97.here hx rfl (hb hby d5_270) rfl rfl rfl k) ?_
      obtain ⟨cl98, Ar98, S98, Nx98, H98⟩ := id cyJ65_5
      have hin98 := inb_of S98 ⟨(ar_neg (x := i) (by omega)), (ar_lt (x := i) (y := (q1 + (2 : Int32))) (by have := (ar1 hB).1; omega))⟩
      obtain ⟨vv98, hat98⟩ := H98 i hin98
      refine Go.st (f' := (mkF m 272 #[rv a1, iv q1, iv q2, iv q3, rv a2, iv i, iv 0, iv 0, .unset] [(.int vv98), (.int i), (.ref b52)])) (fun _ k => X97.iaload hx (j := i) (v := (.int vv98)) (by rw [e97]; exact Ar98.1) (State.isArrayOf_alike hZ.alike Ar98.2.1) Ar98.2.2 hin98 hat98 (g := (mkF m 271 #[rv a1, iv q1, iv q2, iv q3, rv a2, iv i, iv 0, iv 0, .unset] [(.int i), (.ref b52), (.int i), (.ref b52)])) rfl rfl (hb hby d5_271) _ k) ?_
      refine Go.st (f' := (mkF m 273 #[rv a1, iv q1, iv q2, iv q3, rv a2, iv i, iv 0, iv 0, .unset] [(.ref a1), (.int vv98), (.int i), (.ref b52)])) (fun _ k => XS.aloadN X97.here hx rfl (hb hby d5_272) rfl rfl k) ?_
      obtain ⟨T99, X99, e99, st99⟩ := getF X97 hx hZ hown (host := "") (Or.inl (hw _ (List.mem_of_getElem? (i := 170) rfl))) Via.refl e97 cyJ65_2 (g := (mkF m 273 #[rv a1, iv q1, iv q2, iv q3, rv a2, iv i, iv 0, iv 0, .unset] [(.ref a1), (.int vv98), (.int i), (.ref b52)])) rfl rfl (hb hby d5_273)
      refine Go.st (f' := (mkF m 276 #[rv a1, iv q1, iv q2, iv q3, rv a2, iv i, iv 0, iv 0, .unset] [(.ref b52), (.int vv98), (.int i), (.ref b52)])) (fun _ k => st99 _ k) ?_
      refine Go.st (f' := (mkF m 278 #[rv a1, iv q1, iv q2, iv q3, rv a2, iv i, iv 0, iv 0, .unset] [(.int i), (.ref b52), (.int vv98), (.int i), (.ref b52)])) (fun _ k => XS.iload X99.here hx rfl (hb hby d5_276) rfl k) ?_
      refine Go.st (f' := (mkF m 279 #[rv a1, iv q1, iv q2, iv q3, rv a2, iv i, iv 0, iv 0, .unset] [(.int 1), (.int i), (.ref b52), (.int vv98), (.int i), (.ref b52)])) (fun _ k => XS.iconst X99.here hx rfl (hb hby d5_278) k) ?_
      refine Go.st (f' := (mkF m 280 #[rv a1, iv q1, iv q2, iv q3, rv a2, iv i, iv 0, iv 0, .unset] [(.int (i - (1 : Int32))), (.ref b52), (.int vv98), (.int i), (.ref b52)])) (fun _ k => XS.isub X99.here hx rfl (hb hby d5_279) rfl k) ?_
      obtain ⟨cl100, Ar100, S100, Nx100, H100⟩ := id cyJ65_5
      have hin100 := inb_of S100 ⟨(ar_neg (x := (i - (1 : Int32))) (by have := ar_sub hi1; omega)), (ar_lt (x := (i - (1 : Int32))) (y := (q1 + (2 : Int32))) (by have := ar_sub hi1; have := (ar1 hB).1; omega))⟩
      obtain ⟨vv100, hat100⟩ := H100 (i - (1 : Int32)) hin100
      refine Go.st (f' := (mkF m 281 #[rv a1, iv q1, iv q2, iv q3, rv a2, iv i, iv 0, iv 0, .unset] [(.int vv100), (.int vv98), (.int i), (.ref b52)])) (fun _ k => X99.iaload hx (j := (i - (1 : Int32))) (v := (.int vv100)) (by rw [e99]; exact Ar100.1) (State.isArrayOf_alike hZ.alike Ar100.2.1) Ar100.2.2 hin100 hat100 (g := (mkF m 280 #[rv a1, iv q1, iv q2, iv q3, rv a2, iv i, iv 0, iv 0, .unset] [(.int (i - (1 : Int32))), (.ref b52), (.int vv98), (.int i), (.ref b52)])) rfl rfl (hb hby d5_280) _ k) ?_
      refine Go.st (f' := (mkF m 282 #[rv a1, iv q1, iv q2, iv q3, rv a2, iv i, iv 0, iv 0, .unset] [(.int (vv98 + vv100)), (.int i), (.ref b52)])) (fun _ k => XS.iadd X99.here hx rfl (hb hby d5_281) rfl k) ?_
      obtain ⟨cl101, Ar101, S101, Nx101, H101⟩ := id cyJ65_5
      have hin101 := inb_of S101 ⟨(ar_neg (x := i) (by omega)), (ar_lt (x := i) (y := (q1 + (2 : Int32))) (by have := (ar1 hB).1; omega))⟩
      obtain ⟨T102, h102, X102, e102, W102, st102⟩ := stI X99 hx hZ e99 Ar101 (j := i) hin101 (g := (mkF m 282 #[rv a1, iv q1, iv q2, iv q3, rv a2, iv i, iv 0, iv 0, .unset] [(.int (vv98 + vv100)), (.int i), (.ref b52)])) rfl rfl (hb hby d5_282)
      have I_b52_102 : Ia Z h102 b52 (q1 + (2 : Int32)) := Ia.set Ar101 S101 Nx101 H101 hin101 W102
      have N102 := Fr.snoc X102 NJ65 g_b52
      have O102 : Old Z n0 h102 := OJ65.wr W102 g_b52
      have K102 : Keep h0 h102 [a1] := KJ65.wr W102 (Or.inr sz_b52)
      refine Go.st (f' := (mkF m 283 #[rv a1, iv q1, iv q2, iv q3, rv a2, iv i, iv 0, iv 0, .unset] [])) (fun _ k => st102 _ k) ?_
      refine Go.st (f' := (mkF m 286 #[rv a1, iv q1, iv q2, iv q3, rv a2, .val (.int (i + (1 : Int32))), iv 0, iv 0, .unset] [])) (fun _ k => XS.iinc X102.here hx rfl (hb hby d5_283) rfl (l' := #[rv a1, iv q1, iv q2, iv q3, rv a2, .val (.int (i + (1 : Int32))), iv 0, iv 0, .unset]) rfl k) ?_
      refine Go.st (f' := (mkF m 256 #[rv a1, iv q1, iv q2, iv q3, rv a2, .val (.int (i + (1 : Int32))), iv 0, iv 0, .unset] [])) (fun _ k => XS.goto X102.here hx rfl (pc0 := 286) (pc' := 256) rfl (hb hby d5_286) (by decide) (by decide) k) ?_
      have hinc := ar_inc (i := i) (q := q1) (by omega) hB.2 hi1
      have ft103 := (cyJ65_0.wr W102)
      have ft104 := (cyJ65_1.other W102 (Or.inl ne_a1_b52))
      have ft105 := (cyJ65_2.other W102 (Or.inl ne_a1_b52))
      have ft106 := (cyJ65_3.other W102 (Or.inl ne_a1_b52))
      have ft107 := (cyJ65_4.other W102 (Or.inl ne_a1_b52))
      have ft108 := (cyJ65_6.wr W102)
      have ft109 := (cyJ65_7.other W102 (Or.inl ne_a2_b52))
      have ft110 := (cyJ65_8.other W102 (Or.inl ne_a2_b52))
      have ft111 := (cyJ65_9.other W102 (Or.inl ne_a2_b52))
      have ft112 := (Nat.lt_of_lt_of_eq cyJ65_10 W102.size.symm)
      have ft113 := (Nat.lt_of_lt_of_eq cyJ65_11 W102.size.symm)
      have ft114 := (Nat.lt_of_lt_of_eq cyJ65_12 W102.size.symm)
      exact ih _ h102 _ (i + (1 : Int32)) X102 e102 O102 N102 K102 ft103 ft104 ft105 ft106 ft107 I_b52_102 ft108 ft109 ft110 ft111 ft112 ft113 ft114 (by omega) (by omega) (by omega)
  have e1 : (1 : Int32).toInt = 1 := by decide
  have ft115 := (ft58.wr W60)
  have ft116 := (((((((((Fw13.other W16 (Or.inr (slot_ne (Or.inr (hw _ (List.mem_of_getElem? (i := 76) rfl))) (Or.inr (hw _ (List.mem_of_getElem? (i := 78) rfl))) (by decide) (t := .int) (t' := .int) (by decide) (by decide)))).ext E17).keep kq21 (ninS ne_a1_b17 nin0)).keep kq26 nin0).other W33 (Or.inr (slot_ne (Or.inr (hw _ (List.mem_of_getElem? (i := 76) rfl))) (Or.inr (hw _ (List.mem_of_getElem? (i := 158) rfl))) (by decide) (t := .int) (t' := (.object "java/util/List")) (by decide) (by decide)))).ext E39).other W46 (Or.inr (slot_ne (Or.inr (hw _ (List.mem_of_getElem? (i := 76) rfl))) (Or.inr (hw _ (List.mem_of_getElem? (i := 169) rfl))) (by decide) (t := .int) (t' := (.array .int)) (by decide) (by decide)))).ext E52).other W60 (Or.inr (slot_ne (Or.inr (hw _ (List.mem_of_getElem? (i := 76) rfl))) (Or.inr (hw _ (List.mem_of_getElem? (i := 171) rfl))) (by decide) (t := .int) (t' := (.array .int)) (by decide) (by decide))))
  have ft117 := ((((((((((((F_a1_outgoing.keep kq2 nin0).other W10 (Or.inr (slot_ne (Or.inr (hw _ (List.mem_of_getElem? (i := 173) rfl))) (Or.inr (hw _ (List.mem_of_getElem? (i := 74) rfl))) (by decide) (t := (.array .int)) (t' := .int) (by decide) (by decide)))).other W13 (Or.inr (slot_ne (Or.inr (hw _ (List.mem_of_getElem? (i := 173) rfl))) (Or.inr (hw _ (List.mem_of_getElem? (i := 76) rfl))) (by decide) (t := (.array .int)) (t' := .int) (by decide) (by decide)))).other W16 (Or.inr (slot_ne (Or.inr (hw _ (List.mem_of_getElem? (i := 173) rfl))) (Or.inr (hw _ (List.mem_of_getElem? (i := 78) rfl))) (by decide) (t := (.array .int)) (t' := .int) (by decide) (by decide)))).ext E17).keep kq21 (ninS ne_a1_b17 nin0)).keep kq26 nin0).other W33 (Or.inr (slot_ne (Or.inr (hw _ (List.mem_of_getElem? (i := 173) rfl))) (Or.inr (hw _ (List.mem_of_getElem? (i := 158) rfl))) (by decide) (t := (.array .int)) (t' := (.object "java/util/List")) (by decide) (by decide)))).ext E39).other W46 (Or.inr (slot_ne (Or.inr (hw _ (List.mem_of_getElem? (i := 173) rfl))) (Or.inr (hw _ (List.mem_of_getElem? (i := 169) rfl))) (by decide) (t := (.array .int)) (t' := (.array .int)) (by decide) (by decide)))).ext E52).other W60 (Or.inr (slot_ne (Or.inr (hw _ (List.mem_of_getElem? (i := 173) rfl))) (Or.inr (hw _ (List.mem_of_getElem? (i := 171) rfl))) (by decide) (t := (.array .int)) (t' := (.array .int)) (by decide) (by decide))))
  have ft118 := ((((((((((((F_a1_outgoingTermNodes.keep kq2 nin0).other W10 (Or.inr (slot_ne (Or.inr (hw _ (List.mem_of_getElem? (i := 175) rfl))) (Or.inr (hw _ (List.mem_of_getElem? (i := 74) rfl))) (by decide) (t := (.array .int)) (t' := .int) (by decide) (by decide)))).other W13 (Or.inr (slot_ne (Or.inr (hw _ (List.mem_of_getElem? (i := 175) rfl))) (Or.inr (hw _ (List.mem_of_getElem? (i := 76) rfl))) (by decide) (t := (.array .int)) (t' := .int) (by decide) (by decide)))).other W16 (Or.inr (slot_ne (Or.inr (hw _ (List.mem_of_getElem? (i := 175) rfl))) (Or.inr (hw _ (List.mem_of_getElem? (i := 78) rfl))) (by decide) (t := (.array .int)) (t' := .int) (by decide) (by decide)))).ext E17).keep kq21 (ninS ne_a1_b17 nin0)).keep kq26 nin0).other W33 (Or.inr (slot_ne (Or.inr (hw _ (List.mem_of_getElem? (i := 175) rfl))) (Or.inr (hw _ (List.mem_of_getElem? (i := 158) rfl))) (by decide) (t := (.array .int)) (t' := (.object "java/util/List")) (by decide) (by decide)))).ext E39).other W46 (Or.inr (slot_ne (Or.inr (hw _ (List.mem_of_getElem? (i := 175) rfl))) (Or.inr (hw _ (List.mem_of_getElem? (i := 169) rfl))) (by decide) (t := (.array .int)) (t' := (.array .int)) (by decide) (by decide)))).ext E52).other W60 (Or.inr (slot_ne (Or.inr (hw _ (List.mem_of_getElem? (i := 175) rfl))) (Or.inr (hw _ (List.mem_of_getElem? (i := 171) rfl))) (by decide) (t := (.array .int)) (t' := (.array .int)) (by decide) (by decide))))
  have ft119 := (Ia.other I_b52 W60 (Ne.symm ne_a1_b52))
  have ft120 := ((ft48.ext E52).wr W60)
  have ft121 := ((ft49.ext E52).other W60 (Or.inl (Ne.symm ne12)))
  have ft122 := ((ft50.ext E52).other W60 (Or.inl (Ne.symm ne12)))
  have ft123 := ((ft51.ext E52).other W60 (Or.inl (Ne.symm ne12)))
  have ft124 := (Nat.lt_of_lt_of_eq (Nat.lt_of_lt_of_le ft54 E52.1) W60.size.symm)
  have ft125 := (Nat.lt_of_lt_of_eq (Nat.lt_of_lt_of_le ft53 E52.1) W60.size.symm)
  have ft126 := (Nat.lt_of_lt_of_eq lt_b52 W60.size.symm)
  exact LP (q1.toInt + 1).toNat _ h60 _ (1 : Int32) X62 e62 O60 N60 K60 ft115 ft116 Fw60 ft117 ft118 ft119 ft120 ft121 ft122 ft123 ft124 ft125 ft126 (by omega) (by omega) (by omega)
theorem d19_0 : decode prog_17_method_6_code 0 = .ok (.iload_n 1, 1) := by decide +kernel
theorem d19_1 : decode prog_17_method_6_code 1 = .ok (.iconst 1, 1) := by decide +kernel
theorem d19_2 : decode prog_17_method_6_code 2 = .ok (.if_icmp .lt 15, 3) := by decide +kernel
theorem d19_17 : decode prog_17_method_6_code 17 = .ok (.iconst 0, 1) := by decide +kernel
theorem d19_18 : decode prog_17_method_6_code 18 = .ok (.ireturn, 1) := by decide +kernel
theorem d19_5 : decode prog_17_method_6_code 5 = .ok (.iload_n 1, 1) := by decide +kernel
theorem d19_6 : decode prog_17_method_6_code 6 = .ok (.aload_n 0, 1) := by decide +kernel
theorem d19_7 : decode prog_17_method_6_code 7 = .ok (.getfield 52, 3) := by decide +kernel
theorem d19_10 : decode prog_17_method_6_code 10 = .ok (.if_icmp .gt 7, 3) := by decide +kernel
theorem d19_13 : decode prog_17_method_6_code 13 = .ok (.iconst 1, 1) := by decide +kernel
theorem d19_14 : decode prog_17_method_6_code 14 = .ok (.goto 4, 3) := by decide +kernel
def izI (p1 : Int32) (z1 : Int32) : Int32 := (if p1 < (1 : Int32) then (0 : Int32) else (if z1 < p1 then (0 : Int32) else (1 : Int32)))
set_option maxRecDepth 65536 in
set_option maxHeartbeats 40000000 in
theorem rmZ (l : Launch) (Z : State) (a0 : Array Value) (hw : ∀ d ∈ tables_1, d.before a0 Z = true) (ws : List Jvm.Cond) (a1 : Addr) (p1 : Int32) (z1 : Int32) (h0 : Heap) (n0 : Nat) (O0 : Old Z n0 h0) (E_a1 : Exa Z h0 a1 "com/example/kinetic_city/kineticcity/engine/Network") (F_a1_zoneCount : Fld Z h0 a1 "com/example/kinetic_city/kineticcity/engine/Network" "zoneCount" "I" (.int z1)) :
    Con l Z (⟨"com/example/kinetic_city/kineticcity/engine/Network", "isZone", "(I)Z"⟩ : MethodName) prog_17_method_6_code 2 (some .boolean) ws ({ frames := 0, cells := 0, slots := 0, locals := 0 } : Room) #[(.ref a1), (.int p1)] h0 (fun v h L => v = some (.int (izI p1 z1)) ∧ Fr n0 L ∧ h = h0) := by
  refine own_body (plainFor_of_name pn_com_example_kinetic_city_kineticcity_engine_Network) ?_
  intro p e s m below meth c s₁ hx hby hml hZ hown hnm hlk hret X0 e0
  have N0 := Fr.nil n0
  refine Go.st (T' := s₁) (f' := (mkF m 0 #[rv a1, iv p1] [])) (fun _ k => castTop (by first | (simp [entryFrame, mkF, argsToLocals, Value.category]; done) | rfl) k) ?_
  have lt_a1 := E_a1.lt
  refine Go.st (f' := (mkF m 1 #[rv a1, iv p1] [(.int p1)])) (fun _ k => XS.iloadN X0.here hx rfl (hb hby d19_0) rfl k) ?_
  refine Go.st (f' := (mkF m 2 #[rv a1, iv p1] [(.int 1), (.int p1)])) (fun _ k => XS.iconst X0.here hx rfl (hb hby d19_1) k) ?_
  by_cases cd1 : p1 < (1 : Int32)
  · refine Go.st (f' := (mkF m 17 #[rv a1, iv p1] [])) (fun _ k => XS.icmpYes X0.here hx rfl (pc0 := 2) (pc' := 17) rfl (hb hby d19_2) rfl (tlt cd1).1 (by decide) (by decide) k) ?_
    refine Go.st (f' := (mkF m 18 #[rv a1, iv p1] [(.int 0)])) (fun _ k => XS.iconst X0.here hx rfl (hb hby d19_17) k) ?_
    refine Go.retB X0 hlk hx (t := .boolean) hret (by simp) (hb hby d19_18) e0 ?_ (by decide) (by decide)
    show (some (.int (0 : Int32)) : Option Value) = some (.int (izI p1 z1)) ∧ _
    exact ⟨by rw [izI, if_pos cd1], N0, rfl⟩
  · refine Go.st (f' := (mkF m 5 #[rv a1, iv p1] [])) (fun _ k => XS.icmpNo X0.here hx rfl (hb hby d19_2) rfl (flt cd1).1 k) ?_
    refine Go.st (f' := (mkF m 6 #[rv a1, iv p1] [(.int p1)])) (fun _ k => XS.iloadN X0.here hx rfl (hb hby d19_5) rfl k) ?_
    refine Go.st (f' := (mkF m 7 #[rv a1, iv p1] [(.ref a1), (.int p1)])) (fun _ k => XS.aloadN X0.here hx rfl (hb hby d19_6) rfl rfl k) ?_
    obtain ⟨T2, X2, e2, st2⟩ := getF X0 hx hZ hown (host := "") (Or.inl (hw _ (List.mem_of_getElem? (i := 75) rfl))) Via.refl e0 F_a1_zoneCount (g := (mkF m 7 #[rv a1, iv p1] [(.ref a1), (.int p1)])) rfl rfl (hb hby d19_7)
    refine Go.st (f' := (mkF m 10 #[rv a1, iv p1] [(.int z1), (.int p1)])) (fun _ k => st2 _ k) ?_
    by_cases cd3 : z1 < p1
    · refine Go.st (f' := (mkF m 17 #[rv a1, iv p1] [])) (fun _ k => XS.icmpYes X2.here hx rfl (pc0 := 10) (pc' := 17) rfl (hb hby d19_10) rfl (tlt cd3).2.2.1 (by decide) (by decide) k) ?_
      refine Go.st (f' := (mkF m 18 #[rv a1, iv p1] [(.int 0)])) (fun _ k => XS.iconst X2.here hx rfl (hb hby d19_17) k) ?_
      refine Go.retB X2 hlk hx (t := .boolean) hret (by simp) (hb hby d19_18) e2 ?_ (by decide) (by decide)
      show (some (.int (0 : Int32)) : Option Value) = some (.int (izI p1 z1)) ∧ _
      exact ⟨by rw [izI, if_neg cd1, if_pos cd3], N0, rfl⟩
    · refine Go.st (f' := (mkF m 13 #[rv a1, iv p1] [])) (fun _ k => XS.icmpNo X2.here hx rfl (hb hby d19_10) rfl (flt cd3).2.2.1 k) ?_
      refine Go.st (f' := (mkF m 14 #[rv a1, iv p1] [(.int 1)])) (fun _ k => XS.iconst X2.here hx rfl (hb hby d19_13) k) ?_
      refine Go.st (f' := (mkF m 18 #[rv a1, iv p1] [(.int 1)])) (fun _ k => XS.goto X2.here hx rfl (pc0 := 14) (pc' := 18) rfl (hb hby d19_14) (by decide) (by decide) k) ?_
      refine Go.retB X2 hlk hx (t := .boolean) hret (by simp) (hb hby d19_18) e2 ?_ (by decide) (by decide)
      show (some (.int (1 : Int32)) : Option Value) = some (.int (izI p1 z1)) ∧ _
      exact ⟨by rw [izI, if_neg cd1, if_neg cd3], N0, rfl⟩
theorem pn_com_example_kinetic_city_kineticcity_engine_NetworkIsZonePinLaw : plainName "com/example/kinetic_city/kineticcity/engine/NetworkIsZonePinLaw" = true := by first | (simp [plainName, overriddenIn]; done) | decide +kernel
theorem d20_0 : decode method_2_code 0 = .ok (.iload_n 0, 1) := by decide +kernel
theorem d20_1 : decode method_2_code 1 = .ok (.i2l, 1) := by decide +kernel
theorem d20_2 : decode method_2_code 2 = .ok (.lconst 1, 1) := by decide +kernel
theorem d20_3 : decode method_2_code 3 = .ok (.lsub, 1) := by decide +kernel
theorem d20_4 : decode method_2_code 4 = .ok (.lstore_n 2, 1) := by decide +kernel
theorem d20_5 : decode method_2_code 5 = .ok (.lload_n 2, 1) := by decide +kernel
theorem d20_6 : decode method_2_code 6 = .ok (.lconst 0, 1) := by decide +kernel
theorem d20_7 : decode method_2_code 7 = .ok (.lcmp, 1) := by decide +kernel
theorem d20_8 : decode method_2_code 8 = .ok (.ifCond .lt 14, 3) := by decide +kernel
theorem d20_22 : decode method_2_code 22 = .ok (.iconst 0, 1) := by decide +kernel
theorem d20_23 : decode method_2_code 23 = .ok (.ireturn, 1) := by decide +kernel
theorem d20_11 : decode method_2_code 11 = .ok (.lload_n 2, 1) := by decide +kernel
theorem d20_12 : decode method_2_code 12 = .ok (.iload_n 1, 1) := by decide +kernel
theorem d20_13 : decode method_2_code 13 = .ok (.i2l, 1) := by decide +kernel
theorem d20_14 : decode method_2_code 14 = .ok (.lcmp, 1) := by decide +kernel
theorem d20_15 : decode method_2_code 15 = .ok (.ifCond .ge 7, 3) := by decide +kernel
theorem d20_18 : decode method_2_code 18 = .ok (.iconst 1, 1) := by decide +kernel
theorem d20_19 : decode method_2_code 19 = .ok (.goto 4, 3) := by decide +kernel
def rfI (p1 : Int32) (z1 : Int32) : Int32 := (if (lcmpW ((p1.toInt64) - (1 : Int64)) (0 : Int64)) < (0 : Int32) then (0 : Int32) else (if (lcmpW ((p1.toInt64) - (1 : Int64)) (z1.toInt64)) < (0 : Int32) then (1 : Int32) else (0 : Int32)))
set_option maxRecDepth 65536 in
set_option maxHeartbeats 40000000 in
theorem rmR (l : Launch) (Z : State) (a0 : Array Value) (hw : ∀ d ∈ tables_1, d.before a0 Z = true) (ws : List Jvm.Cond) (p1 : Int32) (z1 : Int32) (h0 : Heap) (n0 : Nat) (O0 : Old Z n0 h0)  :
    Con l Z (⟨"com/example/kinetic_city/kineticcity/engine/NetworkIsZonePinLaw", "ref", "(II)Z"⟩ : MethodName) method_2_code 4 (some .boolean) ws ({ frames := 0, cells := 0, slots := 0, locals := 0 } : Room) #[(.int p1), (.int z1)] h0 (fun v h L => v = some (.int (rfI p1 z1)) ∧ Fr n0 L ∧ h = h0) := by
  refine own_body (plainFor_of_name pn_com_example_kinetic_city_kineticcity_engine_NetworkIsZonePinLaw) ?_
  intro p e s m below meth c s₁ hx hby hml hZ hown hnm hlk hret X0 e0
  have N0 := Fr.nil n0
  refine Go.st (T' := s₁) (f' := (mkF m 0 #[iv p1, iv z1, .unset, .unset] [])) (fun _ k => castTop (by first | (simp [entryFrame, mkF, argsToLocals, Value.category]; done) | rfl) k) ?_
  refine Go.st (f' := (mkF m 1 #[iv p1, iv z1, .unset, .unset] [(.int p1)])) (fun _ k => XS.iloadN X0.here hx rfl (hb hby d20_0) rfl k) ?_
  refine Go.st (f' := (mkF m 2 #[iv p1, iv z1, .unset, .unset] [(.long (p1.toInt64))])) (fun _ k => XS.i2l X0.here hx rfl (hb hby d20_1) rfl k) ?_
  refine Go.st (f' := (mkF m 3 #[iv p1, iv z1, .unset, .unset] [(.long (1 : Int64)), (.long (p1.toInt64))])) (fun _ k => XS.lconst X0.here hx rfl (hb hby d20_2) k) ?_
  refine Go.st (f' := (mkF m 4 #[iv p1, iv z1, .unset, .unset] [(.long ((p1.toInt64) - (1 : Int64)))])) (fun _ k => XS.lsub X0.here hx rfl (hb hby d20_3) rfl k) ?_
  refine Go.st (f' := (mkF m 5 #[iv p1, iv z1, .val (.long ((p1.toInt64) - (1 : Int64))), .second] [])) (fun _ k => XS.lstoreN X0.here hx rfl (hb hby d20_4) rfl (l' := #[iv p1, iv z1, .val (.long ((p1.toInt64) - (1 : Int64))), .second]) rfl k) ?_
  refine Go.st (f' := (mkF m 6 #[iv p1, iv z1, .val (.long ((p1.toInt64) - (1 : Int64))), .second] [(.long ((p1.toInt64) - (1 : Int64)))])) (fun _ k => XS.lloadN X0.here hx rfl (hb hby d20_5) rfl k) ?_
  refine Go.st (f' := (mkF m 7 #[iv p1, iv z1, .val (.long ((p1.toInt64) - (1 : Int64))), .second] [(.long (0 : Int64)), (.long ((p1.toInt64) - (1 : Int64)))])) (fun _ k => XS.lconst X0.here hx rfl (hb hby d20_6) k) ?_
  refine Go.st (f' := (mkF m 8 #[iv p1, iv z1, .val (.long ((p1.toInt64) - (1 : Int64))), .second] [(.int (lcmpW ((p1.toInt64) - (1 : Int64)) (0 : Int64)))])) (fun _ k => XS.lcmp X0.here hx rfl (hb hby d20_7) rfl k) ?_
  by_cases cd1 : (lcmpW ((p1.toInt64) - (1 : Int64)) (0 : Int64)) < (0 : Int32)
  · refine Go.st (f' := (mkF m 22 #[iv p1, iv z1, .val (.long ((p1.toInt64) - (1 : Int64))), .second] [])) (fun _ k => XS.ifYes X0.here hx rfl (pc0 := 8) (pc' := 22) rfl (hb hby d20_8) rfl ((if0 _ _).trans (tlt cd1).1) (by decide) (by decide) k) ?_
    refine Go.st (f' := (mkF m 23 #[iv p1, iv z1, .val (.long ((p1.toInt64) - (1 : Int64))), .second] [(.int 0)])) (fun _ k => XS.iconst X0.here hx rfl (hb hby d20_22) k) ?_
    refine Go.retB X0 hlk hx (t := .boolean) hret (by simp) (hb hby d20_23) e0 ?_ (by decide) (by decide)
    show (some (.int (0 : Int32)) : Option Value) = some (.int (rfI p1 z1)) ∧ _
    exact ⟨by rw [rfI, if_pos cd1], N0, rfl⟩
  · refine Go.st (f' := (mkF m 11 #[iv p1, iv z1, .val (.long ((p1.toInt64) - (1 : Int64))), .second] [])) (fun _ k => XS.ifNo X0.here hx rfl (hb hby d20_8) rfl ((if0 _ _).trans (flt cd1).1) k) ?_
    refine Go.st (f' := (mkF m 12 #[iv p1, iv z1, .val (.long ((p1.toInt64) - (1 : Int64))), .second] [(.long ((p1.toInt64) - (1 : Int64)))])) (fun _ k => XS.lloadN X0.here hx rfl (hb hby d20_11) rfl k) ?_
    refine Go.st (f' := (mkF m 13 #[iv p1, iv z1, .val (.long ((p1.toInt64) - (1 : Int64))), .second] [(.int z1), (.long ((p1.toInt64) - (1 : Int64)))])) (fun _ k => XS.iloadN X0.here hx rfl (hb hby d20_12) rfl k) ?_
    refine Go.st (f' := (mkF m 14 #[iv p1, iv z1, .val (.long ((p1.toInt64) - (1 : Int64))), .second] [(.long (z1.toInt64)), (.long ((p1.toInt64) - (1 : Int64)))])) (fun _ k => XS.i2l X0.here hx rfl (hb hby d20_13) rfl k) ?_
    refine Go.st (f' := (mkF m 15 #[iv p1, iv z1, .val (.long ((p1.toInt64) - (1 : Int64))), .second] [(.int (lcmpW ((p1.toInt64) - (1 : Int64)) (z1.toInt64)))])) (fun _ k => XS.lcmp X0.here hx rfl (hb hby d20_14) rfl k) ?_
    by_cases cd2 : (lcmpW ((p1.toInt64) - (1 : Int64)) (z1.toInt64)) < (0 : Int32)
    · refine Go.st (f' := (mkF m 18 #[iv p1, iv z1, .val (.long ((p1.toInt64) - (1 : Int64))), .second] [])) (fun _ k => XS.ifNo X0.here hx rfl (hb hby d20_15) rfl ((if0 _ _).trans (tlt cd2).2.1) k) ?_
      refine Go.st (f' := (mkF m 19 #[iv p1, iv z1, .val (.long ((p1.toInt64) - (1 : Int64))), .second] [(.int 1)])) (fun _ k => XS.iconst X0.here hx rfl (hb hby d20_18) k) ?_
      refine Go.st (f' := (mkF m 23 #[iv p1, iv z1, .val (.long ((p1.toInt64) - (1 : Int64))), .second] [(.int 1)])) (fun _ k => XS.goto X0.here hx rfl (pc0 := 19) (pc' := 23) rfl (hb hby d20_19) (by decide) (by decide) k) ?_
      refine Go.retB X0 hlk hx (t := .boolean) hret (by simp) (hb hby d20_23) e0 ?_ (by decide) (by decide)
      show (some (.int (1 : Int32)) : Option Value) = some (.int (rfI p1 z1)) ∧ _
      exact ⟨by rw [rfI, if_neg cd1, if_pos cd2], N0, rfl⟩
    · refine Go.st (f' := (mkF m 22 #[iv p1, iv z1, .val (.long ((p1.toInt64) - (1 : Int64))), .second] [])) (fun _ k => XS.ifYes X0.here hx rfl (pc0 := 15) (pc' := 22) rfl (hb hby d20_15) rfl ((if0 _ _).trans (flt cd2).2.1) (by decide) (by decide) k) ?_
      refine Go.st (f' := (mkF m 23 #[iv p1, iv z1, .val (.long ((p1.toInt64) - (1 : Int64))), .second] [(.int 0)])) (fun _ k => XS.iconst X0.here hx rfl (hb hby d20_22) k) ?_
      refine Go.retB X0 hlk hx (t := .boolean) hret (by simp) (hb hby d20_23) e0 ?_ (by decide) (by decide)
      show (some (.int (0 : Int32)) : Option Value) = some (.int (rfI p1 z1)) ∧ _
      exact ⟨by rw [rfI, if_neg cd1, if_neg cd2], N0, rfl⟩
theorem iz_rf (p z : Int32) : izI p z = rfI p z := by
  have k0 : (p.toInt64 - (1 : Int64)).toInt = p.toInt - 1 := by
    have a1 := c_lsub p.toInt64 1
    have a2 := c_i2l p
    have r1 := rng64 (p.toInt64 - 1)
    have r2 := rng32 p
    have e1 : (1 : Int64).toInt = 1 := by decide
    omega
  have z0 : z.toInt64.toInt = z.toInt := c_i2l z
  have e0 : (0 : Int64).toInt = 0 := by decide
  have e1 : (1 : Int32).toInt = 1 := by decide
  have b1 : (lcmpW (p.toInt64 - (1 : Int64)) (0 : Int64)) < (0 : Int32) ↔ p < (1 : Int32) := by
    rw [lw_lt, Int64.lt_iff_toInt_lt, Int32.lt_iff_toInt_lt]; omega
  have b2 : (lcmpW (p.toInt64 - (1 : Int64)) z.toInt64) < (0 : Int32) ↔ ¬ z < p := by
    rw [lw_lt, Int64.lt_iff_toInt_lt, Int32.lt_iff_toInt_lt]; omega
  unfold izI rfI
  by_cases c1 : p < (1 : Int32)
  · rw [if_pos c1, if_pos (b1.mpr c1)]
  · rw [if_neg c1, if_neg (fun q => c1 (b1.mp q))]
    by_cases c2 : z < p
    · rw [if_pos c2, if_neg (fun q => (b2.mp q) c2)]
    · rw [if_neg c2, if_pos (b2.mpr c2)]
theorem ln_c (x : Int32) : 1 ≤ ((1 : Int32) + (x &&& (65535 : Int32))).toInt ∧ ((1 : Int32) + (x &&& (65535 : Int32))).toInt ≤ 65536 := by
  have m := c_and x 65535 (by decide)
  have a := c_iadd 1 (x &&& (65535 : Int32))
  have r := rng32 ((1 : Int32) + (x &&& (65535 : Int32)))
  have e1 : (1 : Int32).toInt = 1 := by decide
  have e2 : (65535 : Int32).toInt = 65535 := by decide
  omega
theorem ln_z {x n : Int32} (h : 1 ≤ n.toInt) (h2 : n.toInt ≤ 65537) : 1 ≤ ((1 : Int32) + ((x &&& (2147483647 : Int32)) % n)).toInt ∧ ((1 : Int32) + ((x &&& (2147483647 : Int32)) % n)).toInt ≤ n.toInt := by
  have m := (c_and x 2147483647 (by decide)).1
  have q := (c_iremV (x &&& 2147483647) n).1 m (by omega)
  have a := c_iadd 1 ((x &&& (2147483647 : Int32)) % n)
  have r := rng32 ((1 : Int32) + ((x &&& (2147483647 : Int32)) % n))
  have e1 : (1 : Int32).toInt = 1 := by decide
  omega
theorem nz_of {n : Int32} (h : 1 ≤ n.toInt) : n ≠ 0 := fun e => by
  subst e; have e0 : (0 : Int32).toInt = 0 := by decide
  omega
theorem nlt_of {a b : Int32} (h : b.toInt ≤ a.toInt) : ¬ a < b := by rw [Int32.lt_iff_toInt_lt]; omega
theorem pd__IIILjava_util_List__V : parseMethodDescriptor "(IIILjava/util/List;)V" = some ⟨[.int, .int, .int, (.object "java/util/List")], none⟩ := by decide +kernel
theorem pd__I_Z : parseMethodDescriptor "(I)Z" = some ⟨[.int], some .boolean⟩ := by decide +kernel
theorem pd__II_Z : parseMethodDescriptor "(II)Z" = some ⟨[.int, .int], some .boolean⟩ := by decide +kernel
set_option maxRecDepth 65536 in
set_option maxHeartbeats 40000000 in
theorem rm0 (l : Launch) (Z : State) (a0 : Array Value) (hw : ∀ d ∈ tables_1, d.before a0 Z = true) (ws : List Jvm.Cond) (p1 : Int32) (p2 : Int32) (p3 : Int32) (p4 : Int32) (p5 : Int32) (mir_0 : Addr) (mir_1 : Addr) (mir_2 : Addr) (mir_3 : Addr) (w_EMPTY_ELEMENTDATA : Addr) (w_DEFAULTCAPACITY_EMPTY_ELEMENTDATA : Addr) (k_EMPTY_ELEMENTDATA : ClassId) (k_DEFAULTCAPACITY_EMPTY_ELEMENTDATA : ClassId) (h0 : Heap) (n0 : Nat) (O0 : Old Z n0 h0) (WW : World1 Z mir_0 mir_1 mir_2 mir_3 w_EMPTY_ELEMENTDATA w_DEFAULTCAPACITY_EMPTY_ELEMENTDATA k_EMPTY_ELEMENTDATA k_DEFAULTCAPACITY_EMPTY_ELEMENTDATA) :
    MetFree l x (head1 (Jvm.Cond.code x code maxLocals ret :: ws) room_1) (fun a U => a = #[(.int p1), (.int p2), (.int p3), (.int p4), (.int p5)] ∧ Z.Warmed39 U.vm ∧ U.heap = h0) (fun _ _ _ _ _ => True) (fun _ U o U' => ∃ v L, o = .returned v ∧ (fun v h L => v = some (.int (1 : Int32)) ∧ Fr n0 L) v U'.heap L ∧ FrameEnd U o U' L 32 157376) := by
  refine MetFree.of_bodySF (plainFor_of_name pn_com_example_kinetic_city_kineticcity_engine_NetworkIsZonePinLaw) hisR ?_
  intro p e s m args below meth c s₁ Bd hml0 hP hK
  obtain ⟨rfl, hZ, hh⟩ := hP
  have hx := Bd.exec
  have hby := Bd.bytes
  have hml : c.maxLocals = 12 := hml0
  have hlk := Bd.notSynchronized
  have hret := Bd.returns
  have hown : s.vm.findClass "com/example/kinetic_city/kineticcity/engine/NetworkIsZonePinLaw" = some m.cls := findClass_of_methodNamed Bd.named
  have hnm := (name_of_methodNamed Bd.named Bd.method).1
  have X0 : Stand p l e room_1 s m #[(.int p1), (.int p2), (.int p3), (.int p4), (.int p5)] below meth c s₁ [] 0 0 := Stand.of_body Bd
  have e0 : s₁.heap = h0 := by rw [← hh, Bd.state]; rfl
  show Go p e below (Done s (fun v h L => v = some (.int (1 : Int32)) ∧ Fr n0 L) 32 157376) s₁ _
  have N0 := Fr.nil n0
  refine Go.st (T' := s₁) (f' := (mkF m 0 #[iv p1, iv p2, iv p3, iv p4, iv p5, .unset, .unset, .unset, .unset, .unset, .unset, .unset] [])) (fun _ k => castTop (by first | (simp [entryFrame, mkF, argsToLocals, Value.category, maxLocals]; done) | rfl) k) ?_
  have ⟨M_0, M_1, M_2, M_3, S_w_EMPTY_ELEMENTDATA, E_w_EMPTY_ELEMENTDATA, S_w_DEFAULTCAPACITY_EMPTY_ELEMENTDATA, E_w_DEFAULTCAPACITY_EMPTY_ELEMENTDATA, V_w_EMPTY_ELEMENTDATA, V_w_DEFAULTCAPACITY_EMPTY_ELEMENTDATA⟩ := WW
  have lt_w_EMPTY_ELEMENTDATA := E_w_EMPTY_ELEMENTDATA.lt
  have lt_w_DEFAULTCAPACITY_EMPTY_ELEMENTDATA := E_w_DEFAULTCAPACITY_EMPTY_ELEMENTDATA.lt
  refine Go.st (f' := (mkF m 1 #[iv p1, iv p2, iv p3, iv p4, iv p5, .unset, .unset, .unset, .unset, .unset, .unset, .unset] [(.int 1)])) (fun _ k => XS.iconst X0.here hx rfl (hb hby at_0) k) ?_
  refine Go.st (f' := (mkF m 2 #[iv p1, iv p2, iv p3, iv p4, iv p5, .unset, .unset, .unset, .unset, .unset, .unset, .unset] [(.int p1), (.int 1)])) (fun _ k => XS.iloadN X0.here hx rfl (hb hby at_1) rfl k) ?_
  refine Go.st (f' := (mkF m 4 #[iv p1, iv p2, iv p3, iv p4, iv p5, .unset, .unset, .unset, .unset, .unset, .unset, .unset] [(.int 65535), (.int p1), (.int 1)])) (fun _ k => X0.ldcInt hx hown (mvT hZ (hw _ (List.mem_of_getElem? (i := 0) rfl))) (g := (mkF m 2 #[iv p1, iv p2, iv p3, iv p4, iv p5, .unset, .unset, .unset, .unset, .unset, .unset, .unset] [(.int p1), (.int 1)])) rfl (hb hby at_2) _ k) ?_
  refine Go.st (f' := (mkF m 5 #[iv p1, iv p2, iv p3, iv p4, iv p5, .unset, .unset, .unset, .unset, .unset, .unset, .unset] [(.int (p1 &&& (65535 : Int32))), (.int 1)])) (fun _ k => XS.iand X0.here hx rfl (hb hby at_4) rfl k) ?_
  refine Go.st (f' := (mkF m 6 #[iv p1, iv p2, iv p3, iv p4, iv p5, .unset, .unset, .unset, .unset, .unset, .unset, .unset] [(.int ((1 : Int32) + (p1 &&& (65535 : Int32))))])) (fun _ k => XS.iadd X0.here hx rfl (hb hby at_5) rfl k) ?_
  obtain ⟨yy1, hyy1⟩ : ∃ z, z = ((1 : Int32) + (p1 &&& (65535 : Int32))) := ⟨_, rfl⟩
  rw [← hyy1]
  have hN : 1 ≤ yy1.toInt ∧ yy1.toInt ≤ 65536 := hyy1 ▸ ln_c _
  have hN1 := ar1 hN
  refine Go.st (f' := (mkF m 8 #[iv p1, iv p2, iv p3, iv p4, iv p5, iv yy1, .unset, .unset, .unset, .unset, .unset, .unset] [])) (fun _ k => XS.istore X0.here hx rfl (hb hby at_6) rfl (l' := #[iv p1, iv p2, iv p3, iv p4, iv p5, iv yy1, .unset, .unset, .unset, .unset, .unset, .unset]) rfl k) ?_
  refine Go.st (f' := (mkF m 9 #[iv p1, iv p2, iv p3, iv p4, iv p5, iv yy1, .unset, .unset, .unset, .unset, .unset, .unset] [(.int 1)])) (fun _ k => XS.iconst X0.here hx rfl (hb hby at_8) k) ?_
  refine Go.st (f' := (mkF m 10 #[iv p1, iv p2, iv p3, iv p4, iv p5, iv yy1, .unset, .unset, .unset, .unset, .unset, .unset] [(.int p2), (.int 1)])) (fun _ k => XS.iloadN X0.here hx rfl (hb hby at_9) rfl k) ?_
  refine Go.st (f' := (mkF m 12 #[iv p1, iv p2, iv p3, iv p4, iv p5, iv yy1, .unset, .unset, .unset, .unset, .unset, .unset] [(.int 2147483647), (.int p2), (.int 1)])) (fun _ k => X0.ldcInt hx hown (mvT hZ (hw _ (List.mem_of_getElem? (i := 1) rfl))) (g := (mkF m 10 #[iv p1, iv p2, iv p3, iv p4, iv p5, iv yy1, .unset, .unset, .unset, .unset, .unset, .unset] [(.int p2), (.int 1)])) rfl (hb hby at_10) _ k) ?_
  refine Go.st (f' := (mkF m 13 #[iv p1, iv p2, iv p3, iv p4, iv p5, iv yy1, .unset, .unset, .unset, .unset, .unset, .unset] [(.int (p2 &&& (2147483647 : Int32))), (.int 1)])) (fun _ k => XS.iand X0.here hx rfl (hb hby at_12) rfl k) ?_
  refine Go.st (f' := (mkF m 15 #[iv p1, iv p2, iv p3, iv p4, iv p5, iv yy1, .unset, .unset, .unset, .unset, .unset, .unset] [(.int yy1), (.int (p2 &&& (2147483647 : Int32))), (.int 1)])) (fun _ k => XS.iload X0.here hx rfl (hb hby at_13) rfl k) ?_
  refine Go.st (f' := (mkF m 16 #[iv p1, iv p2, iv p3, iv p4, iv p5, iv yy1, .unset, .unset, .unset, .unset, .unset, .unset] [(.int ((p2 &&& (2147483647 : Int32)) % yy1)), (.int 1)])) (fun _ k => iremM (g := (mkF m 15 #[.val (.int p1), .val (.int p2), .val (.int p3), .val (.int p4), .val (.int p5), .val (.int yy1), .unset, .unset, .unset, .unset, .unset, .unset] [(.int yy1), (.int (p2 &&& (2147483647 : Int32))), (.int (1 : Int32))])) X0 hx rfl (hb hby at_15) rfl (nz_of hN.1) k) ?_
  refine Go.st (f' := (mkF m 17 #[iv p1, iv p2, iv p3, iv p4, iv p5, iv yy1, .unset, .unset, .unset, .unset, .unset, .unset] [(.int ((1 : Int32) + ((p2 &&& (2147483647 : Int32)) % yy1)))])) (fun _ k => XS.iadd X0.here hx rfl (hb hby at_16) rfl k) ?_
  obtain ⟨yy2, hyy2⟩ : ∃ z, z = ((1 : Int32) + ((p2 &&& (2147483647 : Int32)) % yy1)) := ⟨_, rfl⟩
  rw [← hyy2]
  have hz : 1 ≤ yy2.toInt ∧ yy2.toInt ≤ yy1.toInt := hyy2 ▸ ln_z hN.1 (by omega)
  refine Go.st (f' := (mkF m 19 #[iv p1, iv p2, iv p3, iv p4, iv p5, iv yy1, iv yy2, .unset, .unset, .unset, .unset, .unset] [])) (fun _ k => XS.istore X0.here hx rfl (hb hby at_17) rfl (l' := #[iv p1, iv p2, iv p3, iv p4, iv p5, iv yy1, iv yy2, .unset, .unset, .unset, .unset, .unset]) rfl k) ?_
  refine Go.st (f' := (mkF m 20 #[iv p1, iv p2, iv p3, iv p4, iv p5, iv yy1, iv yy2, .unset, .unset, .unset, .unset, .unset] [(.int 1)])) (fun _ k => XS.iconst X0.here hx rfl (hb hby at_19) k) ?_
  refine Go.st (f' := (mkF m 21 #[iv p1, iv p2, iv p3, iv p4, iv p5, iv yy1, iv yy2, .unset, .unset, .unset, .unset, .unset] [(.int p3), (.int 1)])) (fun _ k => XS.iloadN X0.here hx rfl (hb hby at_20) rfl k) ?_
  refine Go.st (f' := (mkF m 23 #[iv p1, iv p2, iv p3, iv p4, iv p5, iv yy1, iv yy2, .unset, .unset, .unset, .unset, .unset] [(.int 2147483647), (.int p3), (.int 1)])) (fun _ k => X0.ldcInt hx hown (mvT hZ (hw _ (List.mem_of_getElem? (i := 1) rfl))) (g := (mkF m 21 #[iv p1, iv p2, iv p3, iv p4, iv p5, iv yy1, iv yy2, .unset, .unset, .unset, .unset, .unset] [(.int p3), (.int 1)])) rfl (hb hby at_21) _ k) ?_
  refine Go.st (f' := (mkF m 24 #[iv p1, iv p2, iv p3, iv p4, iv p5, iv yy1, iv yy2, .unset, .unset, .unset, .unset, .unset] [(.int (p3 &&& (2147483647 : Int32))), (.int 1)])) (fun _ k => XS.iand X0.here hx rfl (hb hby at_23) rfl k) ?_
  refine Go.st (f' := (mkF m 26 #[iv p1, iv p2, iv p3, iv p4, iv p5, iv yy1, iv yy2, .unset, .unset, .unset, .unset, .unset] [(.int yy1), (.int (p3 &&& (2147483647 : Int32))), (.int 1)])) (fun _ k => XS.iload X0.here hx rfl (hb hby at_24) rfl k) ?_
  refine Go.st (f' := (mkF m 27 #[iv p1, iv p2, iv p3, iv p4, iv p5, iv yy1, iv yy2, .unset, .unset, .unset, .unset, .unset] [(.int 1), (.int yy1), (.int (p3 &&& (2147483647 : Int32))), (.int 1)])) (fun _ k => XS.iconst X0.here hx rfl (hb hby at_26) k) ?_
  refine Go.st (f' := (mkF m 28 #[iv p1, iv p2, iv p3, iv p4, iv p5, iv yy1, iv yy2, .unset, .unset, .unset, .unset, .unset] [(.int (yy1 + (1 : Int32))), (.int (p3 &&& (2147483647 : Int32))), (.int 1)])) (fun _ k => XS.iadd X0.here hx rfl (hb hby at_27) rfl k) ?_
  refine Go.st (f' := (mkF m 29 #[iv p1, iv p2, iv p3, iv p4, iv p5, iv yy1, iv yy2, .unset, .unset, .unset, .unset, .unset] [(.int ((p3 &&& (2147483647 : Int32)) % (yy1 + (1 : Int32)))), (.int 1)])) (fun _ k => iremM (g := (mkF m 28 #[.val (.int p1), .val (.int p2), .val (.int p3), .val (.int p4), .val (.int p5), .val (.int yy1), .val (.int yy2), .unset, .unset, .unset, .unset, .unset] [(.int (yy1 + (1 : Int32))), (.int (p3 &&& (2147483647 : Int32))), (.int (1 : Int32))])) X0 hx rfl (hb hby at_28) rfl (nz_of (by have := hN1.2; omega)) k) ?_
  refine Go.st (f' := (mkF m 30 #[iv p1, iv p2, iv p3, iv p4, iv p5, iv yy1, iv yy2, .unset, .unset, .unset, .unset, .unset] [(.int ((1 : Int32) + ((p3 &&& (2147483647 : Int32)) % (yy1 + (1 : Int32)))))])) (fun _ k => XS.iadd X0.here hx rfl (hb hby at_29) rfl k) ?_
  obtain ⟨yy3, hyy3⟩ : ∃ z, z = ((1 : Int32) + ((p3 &&& (2147483647 : Int32)) % (yy1 + (1 : Int32)))) := ⟨_, rfl⟩
  rw [← hyy3]
  have hf : 1 ≤ yy3.toInt ∧ yy3.toInt ≤ (yy1 + (1 : Int32)).toInt := hyy3 ▸ ln_z (by have := hN1.2; omega) (by have := hN1.2; omega)
  have o1 : (1 : Int32).toInt = 1 := by decide
  refine Go.st (f' := (mkF m 32 #[iv p1, iv p2, iv p3, iv p4, iv p5, iv yy1, iv yy2, iv yy3, .unset, .unset, .unset, .unset] [])) (fun _ k => XS.istore X0.here hx rfl (hb hby at_30) rfl (l' := #[iv p1, iv p2, iv p3, iv p4, iv p5, iv yy1, iv yy2, iv yy3, .unset, .unset, .unset, .unset]) rfl k) ?_
  obtain ⟨T4, h4, X4, e4, E4, A4, D4, -, st4⟩ := newO X0 hx hZ hown (hw _ (List.mem_of_getElem? (i := 2) rfl)) (hw _ (List.mem_of_getElem? (i := 3) rfl)) (hw _ (List.mem_of_getElem? (i := 4) rfl)) e0 (g := (mkF m 32 #[iv p1, iv p2, iv p3, iv p4, iv p5, iv yy1, iv yy2, iv yy3, .unset, .unset, .unset, .unset] [])) rfl (hb hby at_32) (by decide) (by decide)
  obtain ⟨b4, g4⟩ : ∃ z, z = h0.size := ⟨_, rfl⟩
  rw [← g4] at A4 D4 st4
  have ne_w_EMPTY_ELEMENTDATA_b4 : w_EMPTY_ELEMENTDATA ≠ b4 := Nat.ne_of_lt (Nat.lt_of_lt_of_le lt_w_EMPTY_ELEMENTDATA (Nat.le_trans O0.2.1 (Nat.le_of_eq g4.symm)))
  have ne_w_DEFAULTCAPACITY_EMPTY_ELEMENTDATA_b4 : w_DEFAULTCAPACITY_EMPTY_ELEMENTDATA ≠ b4 := Nat.ne_of_lt (Nat.lt_of_lt_of_le lt_w_DEFAULTCAPACITY_EMPTY_ELEMENTDATA (Nat.le_trans O0.2.1 (Nat.le_of_eq g4.symm)))
  have g_b4 : n0 ≤ b4 := Nat.le_trans (O0.1 ▸ O0.2.1) (Nat.le_of_eq g4.symm)
  have O4 : Old Z n0 h4 := O0.ext E4
  have lt_b4 := A4.lt
  have F_nodeCount_b4 : Fld Z h4 b4 "com/example/kinetic_city/kineticcity/engine/Network" "nodeCount" "I" (.int (0 : Int32)) := D4 (Or.inr (hw _ (List.mem_of_getElem? (i := 74) rfl))) (ty := .int) (by decide)
  have F_zoneCount_b4 : Fld Z h4 b4 "com/example/kinetic_city/kineticcity/engine/Network" "zoneCount" "I" (.int (0 : Int32)) := D4 (Or.inr (hw _ (List.mem_of_getElem? (i := 76) rfl))) (ty := .int) (by decide)
  have F_firstThroughNode_b4 : Fld Z h4 b4 "com/example/kinetic_city/kineticcity/engine/Network" "firstThroughNode" "I" (.int (0 : Int32)) := D4 (Or.inr (hw _ (List.mem_of_getElem? (i := 78) rfl))) (ty := .int) (by decide)
  have F_links_b4 : Fld Z h4 b4 "com/example/kinetic_city/kineticcity/engine/Network" "links" "Ljava/util/List;" .null := D4 (Or.inr (hw _ (List.mem_of_getElem? (i := 158) rfl))) (ty := (.object "java/util/List")) (by decide)
  have F_initNodes_b4 : Fld Z h4 b4 "com/example/kinetic_city/kineticcity/engine/Network" "initNodes" "[I" .null := D4 (Or.inr (hw _ (List.mem_of_getElem? (i := 169) rfl))) (ty := (.array .int)) (by decide)
  have F_outgoingStart_b4 : Fld Z h4 b4 "com/example/kinetic_city/kineticcity/engine/Network" "outgoingStart" "[I" .null := D4 (Or.inr (hw _ (List.mem_of_getElem? (i := 171) rfl))) (ty := (.array .int)) (by decide)
  have F_outgoing_b4 : Fld Z h4 b4 "com/example/kinetic_city/kineticcity/engine/Network" "outgoing" "[I" .null := D4 (Or.inr (hw _ (List.mem_of_getElem? (i := 173) rfl))) (ty := (.array .int)) (by decide)
  have F_outgoingTermNodes_b4 : Fld Z h4 b4 "com/example/kinetic_city/kineticcity/engine/Network" "outgoingTermNodes" "[I" .null := D4 (Or.inr (hw _ (List.mem_of_getElem? (i := 175) rfl))) (ty := (.array .int)) (by decide)
  refine Go.st (f' := (mkF m 35 #[iv p1, iv p2, iv p3, iv p4, iv p5, iv yy1, iv yy2, iv yy3, .unset, .unset, .unset, .unset] [(.ref b4)])) (fun _ k => st4 _ k) ?_
  refine Go.st (f' := (mkF m 36 #[iv p1, iv p2, iv p3, iv p4, iv p5, iv yy1, iv yy2, iv yy3, .unset, .unset, .unset, .unset] [(.ref b4), (.ref b4)])) (fun _ k => XS.dup X4.here hx rfl (hb hby at_35) rfl rfl k) ?_
  refine Go.st (f' := (mkF m 38 #[iv p1, iv p2, iv p3, iv p4, iv p5, iv yy1, iv yy2, iv yy3, .unset, .unset, .unset, .unset] [(.int yy1), (.ref b4), (.ref b4)])) (fun _ k => XS.iload X4.here hx rfl (hb hby at_36) rfl k) ?_
  refine Go.st (f' := (mkF m 40 #[iv p1, iv p2, iv p3, iv p4, iv p5, iv yy1, iv yy2, iv yy3, .unset, .unset, .unset, .unset] [(.int yy2), (.int yy1), (.ref b4), (.ref b4)])) (fun _ k => XS.iload X4.here hx rfl (hb hby at_38) rfl k) ?_
  refine Go.st (f' := (mkF m 42 #[iv p1, iv p2, iv p3, iv p4, iv p5, iv yy1, iv yy2, iv yy3, .unset, .unset, .unset, .unset] [(.int yy3), (.int yy2), (.int yy1), (.ref b4), (.ref b4)])) (fun _ k => XS.iload X4.here hx rfl (hb hby at_40) rfl k) ?_
  obtain ⟨T5, h5, X5, e5, E5, A5, D5, -, st5⟩ := newO X4 hx hZ hown (hw _ (List.mem_of_getElem? (i := 5) rfl)) (hw _ (List.mem_of_getElem? (i := 6) rfl)) (hw _ (List.mem_of_getElem? (i := 7) rfl)) e4 (g := (mkF m 42 #[iv p1, iv p2, iv p3, iv p4, iv p5, iv yy1, iv yy2, iv yy3, .unset, .unset, .unset, .unset] [(.int yy3), (.int yy2), (.int yy1), (.ref b4), (.ref b4)])) rfl (hb hby at_42) (by decide) (by decide)
  obtain ⟨b5, g5⟩ : ∃ z, z = h4.size := ⟨_, rfl⟩
  rw [← g5] at A5 D5 st5
  have ne_b4_b5 : b4 ≠ b5 := Nat.ne_of_lt (Nat.lt_of_lt_of_eq lt_b4 g5.symm)
  have ne_w_EMPTY_ELEMENTDATA_b5 : w_EMPTY_ELEMENTDATA ≠ b5 := Nat.ne_of_lt (Nat.lt_of_lt_of_le lt_w_EMPTY_ELEMENTDATA (Nat.le_trans O4.2.1 (Nat.le_of_eq g5.symm)))
  have ne_w_DEFAULTCAPACITY_EMPTY_ELEMENTDATA_b5 : w_DEFAULTCAPACITY_EMPTY_ELEMENTDATA ≠ b5 := Nat.ne_of_lt (Nat.lt_of_lt_of_le lt_w_DEFAULTCAPACITY_EMPTY_ELEMENTDATA (Nat.le_trans O4.2.1 (Nat.le_of_eq g5.symm)))
  have g_b5 : n0 ≤ b5 := Nat.le_trans (O4.1 ▸ O4.2.1) (Nat.le_of_eq g5.symm)
  have O5 : Old Z n0 h5 := O4.ext E5
  have lt_b5 := A5.lt
  have F_modCount_b5 : Fld Z h5 b5 "java/util/AbstractList" "modCount" "I" (.int (0 : Int32)) := D5 (Or.inl (hw _ (List.mem_of_getElem? (i := 27) rfl))) (ty := .int) (by decide)
  have F_elementData_b5 : Fld Z h5 b5 "java/util/ArrayList" "elementData" "[Ljava/lang/Object;" .null := D5 (Or.inl (hw _ (List.mem_of_getElem? (i := 30) rfl))) (ty := (.array (.object "java/lang/Object"))) (by decide)
  have F_size_b5 : Fld Z h5 b5 "java/util/ArrayList" "size" "I" (.int (0 : Int32)) := D5 (Or.inl (hw _ (List.mem_of_getElem? (i := 72) rfl))) (ty := .int) (by decide)
  refine Go.st (f' := (mkF m 45 #[iv p1, iv p2, iv p3, iv p4, iv p5, iv yy1, iv yy2, iv yy3, .unset, .unset, .unset, .unset] [(.ref b5), (.int yy3), (.int yy2), (.int yy1), (.ref b4), (.ref b4)])) (fun _ k => st5 _ k) ?_
  refine Go.st (f' := (mkF m 46 #[iv p1, iv p2, iv p3, iv p4, iv p5, iv yy1, iv yy2, iv yy3, .unset, .unset, .unset, .unset] [(.ref b5), (.ref b5), (.int yy3), (.int yy2), (.int yy1), (.ref b4), (.ref b4)])) (fun _ k => XS.dup X5.here hx rfl (hb hby at_45) rfl rfl k) ?_
  obtain ⟨_, _, ⟨T6, L6, kk6, nn6⟩, -, X6, ⟨Lc6, hQ6, lq6, yq6, zz6⟩, st6⟩ := X5.specialBack hx (y := (⟨"java/util/ArrayList", "<init>", "()V"⟩ : MethodName)) rfl hown (mvT hZ (hw _ (List.mem_of_getElem? (i := 8) rfl))) (mvT hZ (hw _ (List.mem_of_getElem? (i := 9) rfl))) (mvT hZ (hw _ (List.mem_of_getElem? (i := 10) rfl))) (by decide) (own_back (W := 6) (rmAL l Z a0 hw [] b5 mir_0 mir_1 mir_2 mir_3 w_EMPTY_ELEMENTDATA w_DEFAULTCAPACITY_EMPTY_ELEMENTDATA k_EMPTY_ELEMENTDATA k_DEFAULTCAPACITY_EMPTY_ELEMENTDATA h5 n0 O5 g_b5 A5 F_modCount_b5 F_elementData_b5 F_size_b5 WW) hZ (hw _ (List.mem_of_getElem? (i := 10) rfl)) (hw _ (List.mem_of_getElem? (i := 7) rfl)) (by decide) (by decide)) (g := (mkF m 46 #[iv p1, iv p2, iv p3, iv p4, iv p5, iv yy1, iv yy2, iv yy3, .unset, .unset, .unset, .unset] [(.ref b5), (.ref b5), (.int yy3), (.int yy2), (.int yy1), (.ref b4), (.ref b4)])) rfl (by rw [hml]; rfl) (Steps.refl _) (a := b5) (argsL := []) (rest := [(.ref b5), (.int yy3), (.int yy2), (.int yy1), (.ref b4), (.ref b4)]) (lenOf pd___V rfl) rfl (by show 2 * 0 + _ ≤ _; exact Nat.le_of_eq rfl) (hb hby at_46) (fun _ _ => ⟨rfl, e5, (by decide : 2 + 0 ≤ _), (by decide : 11 + 0 ≤ _)⟩)
  dsimp only [Pt.U, Pt.locs, Pt.cells, Pt.slots] at X6 lq6 yq6 zz6 st6 hQ6
  subst lq6 yq6 zz6
  obtain ⟨rfl, Nq6, kq6, eq6, fq6_0, fq6_1, fq6_2⟩ := hQ6
  have N6 := Fr.app N0 Nq6
  have O6 : Old Z n0 T6.heap := O5.keep kq6 (allS g_b5 all0)
  refine Go.tr (f' := (mkF m 49 #[iv p1, iv p2, iv p3, iv p4, iv p5, iv yy1, iv yy2, iv yy3, .unset, .unset, .unset, .unset] [(.ref b5), (.int yy3), (.int yy2), (.int yy1), (.ref b4), (.ref b4)])) st6 ?_
  have ft8 := ((A4.ext E5).keep kq6)
  have ft9 := ((F_nodeCount_b4.ext E5).keep kq6 (ninS ne_b4_b5 nin0))
  have ft10 := ((F_zoneCount_b4.ext E5).keep kq6 (ninS ne_b4_b5 nin0))
  have ft11 := ((F_firstThroughNode_b4.ext E5).keep kq6 (ninS ne_b4_b5 nin0))
  have ft12 := ((F_links_b4.ext E5).keep kq6 (ninS ne_b4_b5 nin0))
  have ft13 := ((F_initNodes_b4.ext E5).keep kq6 (ninS ne_b4_b5 nin0))
  have ft14 := ((F_outgoingStart_b4.ext E5).keep kq6 (ninS ne_b4_b5 nin0))
  have ft15 := ((F_outgoing_b4.ext E5).keep kq6 (ninS ne_b4_b5 nin0))
  have ft16 := ((F_outgoingTermNodes_b4.ext E5).keep kq6 (ninS ne_b4_b5 nin0))
  obtain ⟨_, _, ⟨T7, L7, kk7, nn7⟩, -, X7, ⟨Lc7, hQ7, lq7, yq7, zz7⟩, st7⟩ := X6.specialBack hx (y := (⟨"com/example/kinetic_city/kineticcity/engine/Network", "<init>", "(IIILjava/util/List;)V"⟩ : MethodName)) rfl hown (mvT hZ (hw _ (List.mem_of_getElem? (i := 31) rfl))) (mvT hZ (hw _ (List.mem_of_getElem? (i := 32) rfl))) (mvT hZ (hw _ (List.mem_of_getElem? (i := 33) rfl))) (by decide) (own_back (W := 1) (rmN l Z a0 hw [] b4 yy1 yy2 yy3 b5 mir_0 mir_1 mir_2 mir_3 w_EMPTY_ELEMENTDATA w_DEFAULTCAPACITY_EMPTY_ELEMENTDATA k_EMPTY_ELEMENTDATA k_DEFAULTCAPACITY_EMPTY_ELEMENTDATA T6.heap n0 O6 (nlt_of (by omega)) (nlt_of (by omega)) (nlt_of (by omega)) (nlt_of (by omega)) hN g_b4 ft8 ft9 ft10 ft11 ft12 ft13 ft14 ft15 ft16 ne_b4_b5 eq6 fq6_0 fq6_1 fq6_2 WW) hZ (hw _ (List.mem_of_getElem? (i := 33) rfl)) (hw _ (List.mem_of_getElem? (i := 4) rfl)) (by decide) (by decide)) (g := (mkF m 49 #[iv p1, iv p2, iv p3, iv p4, iv p5, iv yy1, iv yy2, iv yy3, .unset, .unset, .unset, .unset] [(.ref b5), (.int yy3), (.int yy2), (.int yy1), (.ref b4), (.ref b4)])) rfl (by rw [hml]; rfl) (Steps.refl _) (a := b4) (argsL := [(.int yy1), (.int yy2), (.int yy3), (.ref b5)]) (rest := [(.ref b4)]) (lenOf pd__IIILjava_util_List__V rfl) rfl (by show 2 * 0 + _ ≤ _; exact Nat.le_of_eq rfl) (hb hby at_49) (fun _ _ => ⟨rfl, rfl, (by decide : 2 + 9 ≤ _), (by decide : 11 + 131084 ≤ _)⟩)
  dsimp only [Pt.U, Pt.locs, Pt.cells, Pt.slots] at X7 lq7 yq7 zz7 st7 hQ7
  subst lq7 yq7 zz7
  obtain ⟨rfl, Nq7, kq7, eq7, fq7⟩ := hQ7
  have N7 := Fr.app N6 Nq7
  have O7 : Old Z n0 T7.heap := O6.keep kq7 (allS g_b4 all0)
  refine Go.tr (f' := (mkF m 52 #[iv p1, iv p2, iv p3, iv p4, iv p5, iv yy1, iv yy2, iv yy3, .unset, .unset, .unset, .unset] [(.ref b4)])) st7 ?_
  refine Go.st (f' := (mkF m 54 #[iv p1, iv p2, iv p3, iv p4, iv p5, iv yy1, iv yy2, iv yy3, rv b4, .unset, .unset, .unset] [])) (fun _ k => XS.astore X7.here hx rfl (hb hby at_52) rfl rfl (l' := #[iv p1, iv p2, iv p3, iv p4, iv p5, iv yy1, iv yy2, iv yy3, rv b4, .unset, .unset, .unset]) rfl k) ?_
  refine Go.st (f' := (mkF m 56 #[iv p1, iv p2, iv p3, iv p4, iv p5, iv yy1, iv yy2, iv yy3, rv b4, .unset, .unset, .unset] [(.int p5)])) (fun _ k => XS.iload X7.here hx rfl (hb hby at_54) rfl k) ?_
  refine Go.st (f' := (mkF m 57 #[iv p1, iv p2, iv p3, iv p4, iv p5, iv yy1, iv yy2, iv yy3, rv b4, .unset, .unset, .unset] [(.int 3), (.int p5)])) (fun _ k => XS.iconst X7.here hx rfl (hb hby at_56) k) ?_
  refine Go.st (f' := (mkF m 58 #[iv p1, iv p2, iv p3, iv p4, iv p5, iv yy1, iv yy2, iv yy3, rv b4, .unset, .unset, .unset] [(.int (p5 % (3 : Int32)))])) (fun _ k => iremM (g := (mkF m 57 #[.val (.int p1), .val (.int p2), .val (.int p3), .val (.int p4), .val (.int p5), .val (.int yy1), .val (.int yy2), .val (.int yy3), .val (.ref b4), .unset, .unset, .unset] [(.int (3 : Int32)), (.int p5)])) X7 hx rfl (hb hby at_57) rfl (by decide) k) ?_
  obtain ⟨yy17, hyy17⟩ : ∃ z, z = (p5 % (3 : Int32)) := ⟨_, rfl⟩
  rw [← hyy17]
  refine Go.st (f' := (mkF m 60 #[iv p1, iv p2, iv p3, iv p4, iv p5, iv yy1, iv yy2, iv yy3, rv b4, iv yy17, .unset, .unset] [])) (fun _ k => XS.istore X7.here hx rfl (hb hby at_58) rfl (l' := #[iv p1, iv p2, iv p3, iv p4, iv p5, iv yy1, iv yy2, iv yy3, rv b4, iv yy17, .unset, .unset]) rfl k) ?_
  refine Go.st (f' := (mkF m 62 #[iv p1, iv p2, iv p3, iv p4, iv p5, iv yy1, iv yy2, iv yy3, rv b4, iv yy17, .unset, .unset] [(.int yy2)])) (fun _ k => XS.iload X7.here hx rfl (hb hby at_60) rfl k) ?_
  refine Go.st (f' := (mkF m 64 #[iv p1, iv p2, iv p3, iv p4, iv p5, iv yy1, iv yy2, iv yy3, rv b4, iv yy17, .unset, .unset] [(.int yy17), (.int yy2)])) (fun _ k => XS.iload X7.here hx rfl (hb hby at_62) rfl k) ?_
  refine Go.st (f' := (mkF m 65 #[iv p1, iv p2, iv p3, iv p4, iv p5, iv yy1, iv yy2, iv yy3, rv b4, iv yy17, .unset, .unset] [(.int (yy2 + yy17))])) (fun _ k => XS.iadd X7.here hx rfl (hb hby at_64) rfl k) ?_
  obtain ⟨yy18, hyy18⟩ : ∃ z, z = (yy2 + yy17) := ⟨_, rfl⟩
  rw [← hyy18]
  refine Go.st (f' := (mkF m 67 #[iv p1, iv p2, iv p3, iv p4, iv p5, iv yy1, iv yy2, iv yy3, rv b4, iv yy17, iv yy18, .unset] [])) (fun _ k => XS.istore X7.here hx rfl (hb hby at_65) rfl (l' := #[iv p1, iv p2, iv p3, iv p4, iv p5, iv yy1, iv yy2, iv yy3, rv b4, iv yy17, iv yy18, .unset]) rfl k) ?_
  refine Go.st (f' := (mkF m 69 #[iv p1, iv p2, iv p3, iv p4, iv p5, iv yy1, iv yy2, iv yy3, rv b4, iv yy17, iv yy18, .unset] [(.int yy2)])) (fun _ k => XS.iload X7.here hx rfl (hb hby at_67) rfl k) ?_
  refine Go.st (f' := (mkF m 70 #[iv p1, iv p2, iv p3, iv p4, iv p5, iv yy1, iv yy2, iv yy3, rv b4, iv yy17, iv yy18, .unset] [(.int 1), (.int yy2)])) (fun _ k => XS.iconst X7.here hx rfl (hb hby at_69) k) ?_
  refine Go.st (f' := (mkF m 71 #[iv p1, iv p2, iv p3, iv p4, iv p5, iv yy1, iv yy2, iv yy3, rv b4, iv yy17, iv yy18, .unset] [(.int (yy2 + (1 : Int32)))])) (fun _ k => XS.iadd X7.here hx rfl (hb hby at_70) rfl k) ?_
  refine Go.st (f' := (mkF m 73 #[iv p1, iv p2, iv p3, iv p4, iv p5, iv yy1, iv yy2, iv yy3, rv b4, iv yy17, iv yy18, .unset] [(.int yy17), (.int (yy2 + (1 : Int32)))])) (fun _ k => XS.iload X7.here hx rfl (hb hby at_71) rfl k) ?_
  refine Go.st (f' := (mkF m 74 #[iv p1, iv p2, iv p3, iv p4, iv p5, iv yy1, iv yy2, iv yy3, rv b4, iv yy17, iv yy18, .unset] [(.int ((yy2 + (1 : Int32)) + yy17))])) (fun _ k => XS.iadd X7.here hx rfl (hb hby at_73) rfl k) ?_
  obtain ⟨yy19, hyy19⟩ : ∃ z, z = ((yy2 + (1 : Int32)) + yy17) := ⟨_, rfl⟩
  rw [← hyy19]
  refine Go.st (f' := (mkF m 76 #[iv p1, iv p2, iv p3, iv p4, iv p5, iv yy1, iv yy2, iv yy3, rv b4, iv yy17, iv yy18, iv yy19] [])) (fun _ k => XS.istore X7.here hx rfl (hb hby at_74) rfl (l' := #[iv p1, iv p2, iv p3, iv p4, iv p5, iv yy1, iv yy2, iv yy3, rv b4, iv yy17, iv yy18, iv yy19]) rfl k) ?_
  refine Go.st (f' := (mkF m 78 #[iv p1, iv p2, iv p3, iv p4, iv p5, iv yy1, iv yy2, iv yy3, rv b4, iv yy17, iv yy18, iv yy19] [(.ref b4)])) (fun _ k => XS.aload X7.here hx rfl (hb hby at_76) rfl rfl k) ?_
  refine Go.st (f' := (mkF m 79 #[iv p1, iv p2, iv p3, iv p4, iv p5, iv yy1, iv yy2, iv yy3, rv b4, iv yy17, iv yy18, iv yy19] [(.int p4), (.ref b4)])) (fun _ k => XS.iloadN X7.here hx rfl (hb hby at_78) rfl k) ?_
  obtain ⟨cq20, kq20, q20a, q20b, q20c⟩ := isOf hZ rfl eq7
  obtain ⟨_, _, ⟨T20, L20, kk20, nn20⟩, -, X20, ⟨Lc20, hQ20, lq20, yq20, zz20⟩, st20⟩ := X7.virtualBack hx (y := (⟨"com/example/kinetic_city/kineticcity/engine/Network", "isZone", "(I)Z"⟩ : MethodName)) (z := (⟨"com/example/kinetic_city/kineticcity/engine/Network", "isZone", "(I)Z"⟩ : MethodName)) hown (mvT hZ (hw _ (List.mem_of_getElem? (i := 176) rfl))) (mvT hZ (hw _ (List.mem_of_getElem? (i := 177) rfl))) (notFace_of_selects (args := #[]) (mvT hZ (hw _ (List.mem_of_getElem? (i := 179) rfl)))) (mvT hZ (hw _ (List.mem_of_getElem? (i := 179) rfl))) (mvT hZ (hw _ (List.mem_of_getElem? (i := 178) rfl))) (by decide) (own_back (W := 0) (rmZ l Z a0 hw [] b4 p4 yy2 T7.heap n0 O7 eq7 fq7) hZ (hw _ (List.mem_of_getElem? (i := 180) rfl)) (hw _ (List.mem_of_getElem? (i := 4) rfl)) (by decide) (by decide)) q20a q20c (g := (mkF m 79 #[iv p1, iv p2, iv p3, iv p4, iv p5, iv yy1, iv yy2, iv yy3, rv b4, iv yy17, iv yy18, iv yy19] [(.int p4), (.ref b4)])) rfl (by rw [hml]; rfl) (Steps.refl _) (argsL := [(.int p4)]) (rest := []) (lenOf pd__I_Z rfl) rfl (by show 2 * 0 + _ ≤ _; exact Nat.le_of_eq rfl) (hb hby at_79) (fun _ _ => ⟨rfl, rfl, (by decide : 11 + 0 ≤ _), (by decide : 131095 + 0 ≤ _)⟩)
  dsimp only [Pt.U, Pt.locs, Pt.cells, Pt.slots] at X20 lq20 yq20 zz20 st20 hQ20
  subst lq20 yq20 zz20
  obtain ⟨rfl, Nq20, kq20⟩ := hQ20
  have N20 := Fr.app N7 Nq20
  refine Go.tr (f' := (mkF m 82 #[iv p1, iv p2, iv p3, iv p4, iv p5, iv yy1, iv yy2, iv yy3, rv b4, iv yy17, iv yy18, iv yy19] [(.int (izI p4 yy2))])) st20 ?_
  refine Go.st (f' := (mkF m 83 #[iv p1, iv p2, iv p3, iv p4, iv p5, iv yy1, iv yy2, iv yy3, rv b4, iv yy17, iv yy18, iv yy19] [(.int p4), (.int (izI p4 yy2))])) (fun _ k => XS.iloadN X20.here hx rfl (hb hby at_82) rfl k) ?_
  refine Go.st (f' := (mkF m 85 #[iv p1, iv p2, iv p3, iv p4, iv p5, iv yy1, iv yy2, iv yy3, rv b4, iv yy17, iv yy18, iv yy19] [(.int yy2), (.int p4), (.int (izI p4 yy2))])) (fun _ k => XS.iload X20.here hx rfl (hb hby at_83) rfl k) ?_
  obtain ⟨_, _, ⟨T21, L21, kk21, nn21⟩, -, X21, ⟨Lc21, hQ21, lq21, yq21, zz21⟩, st21⟩ := Jvm.LawKit.callS X20 hx (y := (⟨"com/example/kinetic_city/kineticcity/engine/NetworkIsZonePinLaw", "ref", "(II)Z"⟩ : MethodName)) hown (mvT hZ (hw _ (List.mem_of_getElem? (i := 181) rfl))) (mvT hZ (hw _ (List.mem_of_getElem? (i := 182) rfl))) (mvT hZ (hw _ (List.mem_of_getElem? (i := 183) rfl))) (mvT hZ (hw _ (List.mem_of_getElem? (i := 184) rfl))) (by decide) (own_back (W := 1) (rmR l Z a0 hw [] p4 yy2 T7.heap n0 O7) hZ (hw _ (List.mem_of_getElem? (i := 184) rfl)) (hw _ (List.mem_of_getElem? (i := 183) rfl)) (by decide) (by decide)) (g := (mkF m 85 #[iv p1, iv p2, iv p3, iv p4, iv p5, iv yy1, iv yy2, iv yy3, rv b4, iv yy17, iv yy18, iv yy19] [(.int yy2), (.int p4), (.int (izI p4 yy2))])) rfl (by rw [hml]; rfl) (argsL := [(.int p4), (.int yy2)]) (rest := [(.int (izI p4 yy2))]) (lenOf pd__II_Z rfl) rfl (by show 2 * 0 + _ ≤ _; exact Nat.le_of_eq rfl) (hb hby at_85) (fun _ _ => ⟨rfl, kq20, (by decide : 11 + 0 ≤ _), (by decide : 131095 + 0 ≤ _)⟩)
  dsimp only [Pt.U, Pt.locs, Pt.cells, Pt.slots] at X21 lq21 yq21 zz21 st21 hQ21
  subst lq21 yq21 zz21
  obtain ⟨rfl, Nq21, kq21⟩ := hQ21
  have N21 := Fr.app N20 Nq21
  refine Go.st (f' := (mkF m 88 #[iv p1, iv p2, iv p3, iv p4, iv p5, iv yy1, iv yy2, iv yy3, rv b4, iv yy17, iv yy18, iv yy19] [(.int (rfI p4 yy2)), (.int (izI p4 yy2))])) (fun _ k => st21 _ k) ?_
  refine Go.st (f' := (mkF m 91 #[iv p1, iv p2, iv p3, iv p4, iv p5, iv yy1, iv yy2, iv yy3, rv b4, iv yy17, iv yy18, iv yy19] [])) (fun _ k => XS.icmpNo X21.here hx rfl (hb hby at_88) rfl (teq (iz_rf _ _)).2 k) ?_
  refine Go.st (f' := (mkF m 93 #[iv p1, iv p2, iv p3, iv p4, iv p5, iv yy1, iv yy2, iv yy3, rv b4, iv yy17, iv yy18, iv yy19] [(.ref b4)])) (fun _ k => XS.aload X21.here hx rfl (hb hby at_91) rfl rfl k) ?_
  refine Go.st (f' := (mkF m 95 #[iv p1, iv p2, iv p3, iv p4, iv p5, iv yy1, iv yy2, iv yy3, rv b4, iv yy17, iv yy18, iv yy19] [(.int yy17), (.ref b4)])) (fun _ k => XS.iload X21.here hx rfl (hb hby at_93) rfl k) ?_
  obtain ⟨cq22, kq22, q22a, q22b, q22c⟩ := isOf hZ kq21 eq7
  obtain ⟨_, _, ⟨T22, L22, kk22, nn22⟩, -, X22, ⟨Lc22, hQ22, lq22, yq22, zz22⟩, st22⟩ := X21.virtualBack hx (y := (⟨"com/example/kinetic_city/kineticcity/engine/Network", "isZone", "(I)Z"⟩ : MethodName)) (z := (⟨"com/example/kinetic_city/kineticcity/engine/Network", "isZone", "(I)Z"⟩ : MethodName)) hown (mvT hZ (hw _ (List.mem_of_getElem? (i := 176) rfl))) (mvT hZ (hw _ (List.mem_of_getElem? (i := 177) rfl))) (notFace_of_selects (args := #[]) (mvT hZ (hw _ (List.mem_of_getElem? (i := 179) rfl)))) (mvT hZ (hw _ (List.mem_of_getElem? (i := 179) rfl))) (mvT hZ (hw _ (List.mem_of_getElem? (i := 178) rfl))) (by decide) (own_back (W := 0) (rmZ l Z a0 hw [] b4 yy17 yy2 T7.heap n0 O7 eq7 fq7) hZ (hw _ (List.mem_of_getElem? (i := 180) rfl)) (hw _ (List.mem_of_getElem? (i := 4) rfl)) (by decide) (by decide)) q22a q22c (g := (mkF m 95 #[iv p1, iv p2, iv p3, iv p4, iv p5, iv yy1, iv yy2, iv yy3, rv b4, iv yy17, iv yy18, iv yy19] [(.int yy17), (.ref b4)])) rfl (by rw [hml]; rfl) (Steps.refl _) (argsL := [(.int yy17)]) (rest := []) (lenOf pd__I_Z rfl) rfl (by show 2 * 0 + _ ≤ _; exact Nat.le_of_eq rfl) (hb hby at_95) (fun _ _ => ⟨rfl, kq21, (by decide : 11 + 0 ≤ _), (by decide : 131095 + 0 ≤ _)⟩)
  dsimp only [Pt.U, Pt.locs, Pt.cells, Pt.slots] at X22 lq22 yq22 zz22 st22 hQ22
  subst lq22 yq22 zz22
  obtain ⟨rfl, Nq22, kq22⟩ := hQ22
  have N22 := Fr.app N21 Nq22
  refine Go.tr (f' := (mkF m 98 #[iv p1, iv p2, iv p3, iv p4, iv p5, iv yy1, iv yy2, iv yy3, rv b4, iv yy17, iv yy18, iv yy19] [(.int (izI yy17 yy2))])) st22 ?_
  refine Go.st (f' := (mkF m 100 #[iv p1, iv p2, iv p3, iv p4, iv p5, iv yy1, iv yy2, iv yy3, rv b4, iv yy17, iv yy18, iv yy19] [(.int yy17), (.int (izI yy17 yy2))])) (fun _ k => XS.iload X22.here hx rfl (hb hby at_98) rfl k) ?_
  refine Go.st (f' := (mkF m 102 #[iv p1, iv p2, iv p3, iv p4, iv p5, iv yy1, iv yy2, iv yy3, rv b4, iv yy17, iv yy18, iv yy19] [(.int yy2), (.int yy17), (.int (izI yy17 yy2))])) (fun _ k => XS.iload X22.here hx rfl (hb hby at_100) rfl k) ?_
  obtain ⟨_, _, ⟨T23, L23, kk23, nn23⟩, -, X23, ⟨Lc23, hQ23, lq23, yq23, zz23⟩, st23⟩ := Jvm.LawKit.callS X22 hx (y := (⟨"com/example/kinetic_city/kineticcity/engine/NetworkIsZonePinLaw", "ref", "(II)Z"⟩ : MethodName)) hown (mvT hZ (hw _ (List.mem_of_getElem? (i := 181) rfl))) (mvT hZ (hw _ (List.mem_of_getElem? (i := 182) rfl))) (mvT hZ (hw _ (List.mem_of_getElem? (i := 183) rfl))) (mvT hZ (hw _ (List.mem_of_getElem? (i := 184) rfl))) (by decide) (own_back (W := 1) (rmR l Z a0 hw [] yy17 yy2 T7.heap n0 O7) hZ (hw _ (List.mem_of_getElem? (i := 184) rfl)) (hw _ (List.mem_of_getElem? (i := 183) rfl)) (by decide) (by decide)) (g := (mkF m 102 #[iv p1, iv p2, iv p3, iv p4, iv p5, iv yy1, iv yy2, iv yy3, rv b4, iv yy17, iv yy18, iv yy19] [(.int yy2), (.int yy17), (.int (izI yy17 yy2))])) rfl (by rw [hml]; rfl) (argsL := [(.int yy17), (.int yy2)]) (rest := [(.int (izI yy17 yy2))]) (lenOf pd__II_Z rfl) rfl (by show 2 * 0 + _ ≤ _; exact Nat.le_of_eq rfl) (hb hby at_102) (fun _ _ => ⟨rfl, kq22, (by decide : 11 + 0 ≤ _), (by decide : 131095 + 0 ≤ _)⟩)
  dsimp only [Pt.U, Pt.locs, Pt.cells, Pt.slots] at X23 lq23 yq23 zz23 st23 hQ23
  subst lq23 yq23 zz23
  obtain ⟨rfl, Nq23, kq23⟩ := hQ23
  have N23 := Fr.app N22 Nq23
  refine Go.st (f' := (mkF m 105 #[iv p1, iv p2, iv p3, iv p4, iv p5, iv yy1, iv yy2, iv yy3, rv b4, iv yy17, iv yy18, iv yy19] [(.int (rfI yy17 yy2)), (.int (izI yy17 yy2))])) (fun _ k => st23 _ k) ?_
  refine Go.st (f' := (mkF m 108 #[iv p1, iv p2, iv p3, iv p4, iv p5, iv yy1, iv yy2, iv yy3, rv b4, iv yy17, iv yy18, iv yy19] [])) (fun _ k => XS.icmpNo X23.here hx rfl (hb hby at_105) rfl (teq (iz_rf _ _)).2 k) ?_
  refine Go.st (f' := (mkF m 110 #[iv p1, iv p2, iv p3, iv p4, iv p5, iv yy1, iv yy2, iv yy3, rv b4, iv yy17, iv yy18, iv yy19] [(.ref b4)])) (fun _ k => XS.aload X23.here hx rfl (hb hby at_108) rfl rfl k) ?_
  refine Go.st (f' := (mkF m 111 #[iv p1, iv p2, iv p3, iv p4, iv p5, iv yy1, iv yy2, iv yy3, rv b4, iv yy17, iv yy18, iv yy19] [(.int 1), (.ref b4)])) (fun _ k => XS.iconst X23.here hx rfl (hb hby at_110) k) ?_
  refine Go.st (f' := (mkF m 113 #[iv p1, iv p2, iv p3, iv p4, iv p5, iv yy1, iv yy2, iv yy3, rv b4, iv yy17, iv yy18, iv yy19] [(.int yy17), (.int 1), (.ref b4)])) (fun _ k => XS.iload X23.here hx rfl (hb hby at_111) rfl k) ?_
  refine Go.st (f' := (mkF m 114 #[iv p1, iv p2, iv p3, iv p4, iv p5, iv yy1, iv yy2, iv yy3, rv b4, iv yy17, iv yy18, iv yy19] [(.int ((1 : Int32) - yy17)), (.ref b4)])) (fun _ k => XS.isub X23.here hx rfl (hb hby at_113) rfl k) ?_
  obtain ⟨cq24, kq24, q24a, q24b, q24c⟩ := isOf hZ kq23 eq7
  obtain ⟨_, _, ⟨T24, L24, kk24, nn24⟩, -, X24, ⟨Lc24, hQ24, lq24, yq24, zz24⟩, st24⟩ := X23.virtualBack hx (y := (⟨"com/example/kinetic_city/kineticcity/engine/Network", "isZone", "(I)Z"⟩ : MethodName)) (z := (⟨"com/example/kinetic_city/kineticcity/engine/Network", "isZone", "(I)Z"⟩ : MethodName)) hown (mvT hZ (hw _ (List.mem_of_getElem? (i := 176) rfl))) (mvT hZ (hw _ (List.mem_of_getElem? (i := 177) rfl))) (notFace_of_selects (args := #[]) (mvT hZ (hw _ (List.mem_of_getElem? (i := 179) rfl)))) (mvT hZ (hw _ (List.mem_of_getElem? (i := 179) rfl))) (mvT hZ (hw _ (List.mem_of_getElem? (i := 178) rfl))) (by decide) (own_back (W := 0) (rmZ l Z a0 hw [] b4 ((1 : Int32) - yy17) yy2 T7.heap n0 O7 eq7 fq7) hZ (hw _ (List.mem_of_getElem? (i := 180) rfl)) (hw _ (List.mem_of_getElem? (i := 4) rfl)) (by decide) (by decide)) q24a q24c (g := (mkF m 114 #[iv p1, iv p2, iv p3, iv p4, iv p5, iv yy1, iv yy2, iv yy3, rv b4, iv yy17, iv yy18, iv yy19] [(.int ((1 : Int32) - yy17)), (.ref b4)])) rfl (by rw [hml]; rfl) (Steps.refl _) (argsL := [(.int ((1 : Int32) - yy17))]) (rest := []) (lenOf pd__I_Z rfl) rfl (by show 2 * 0 + _ ≤ _; exact Nat.le_of_eq rfl) (hb hby at_114) (fun _ _ => ⟨rfl, kq23, (by decide : 11 + 0 ≤ _), (by decide : 131095 + 0 ≤ _)⟩)
  dsimp only [Pt.U, Pt.locs, Pt.cells, Pt.slots] at X24 lq24 yq24 zz24 st24 hQ24
  subst lq24 yq24 zz24
  obtain ⟨rfl, Nq24, kq24⟩ := hQ24
  have N24 := Fr.app N23 Nq24
  refine Go.tr (f' := (mkF m 117 #[iv p1, iv p2, iv p3, iv p4, iv p5, iv yy1, iv yy2, iv yy3, rv b4, iv yy17, iv yy18, iv yy19] [(.int (izI ((1 : Int32) - yy17) yy2))])) st24 ?_
  refine Go.st (f' := (mkF m 118 #[iv p1, iv p2, iv p3, iv p4, iv p5, iv yy1, iv yy2, iv yy3, rv b4, iv yy17, iv yy18, iv yy19] [(.int 1), (.int (izI ((1 : Int32) - yy17) yy2))])) (fun _ k => XS.iconst X24.here hx rfl (hb hby at_117) k) ?_
  refine Go.st (f' := (mkF m 120 #[iv p1, iv p2, iv p3, iv p4, iv p5, iv yy1, iv yy2, iv yy3, rv b4, iv yy17, iv yy18, iv yy19] [(.int yy17), (.int 1), (.int (izI ((1 : Int32) - yy17) yy2))])) (fun _ k => XS.iload X24.here hx rfl (hb hby at_118) rfl k) ?_
  refine Go.st (f' := (mkF m 121 #[iv p1, iv p2, iv p3, iv p4, iv p5, iv yy1, iv yy2, iv yy3, rv b4, iv yy17, iv yy18, iv yy19] [(.int ((1 : Int32) - yy17)), (.int (izI ((1 : Int32) - yy17) yy2))])) (fun _ k => XS.isub X24.here hx rfl (hb hby at_120) rfl k) ?_
  refine Go.st (f' := (mkF m 123 #[iv p1, iv p2, iv p3, iv p4, iv p5, iv yy1, iv yy2, iv yy3, rv b4, iv yy17, iv yy18, iv yy19] [(.int yy2), (.int ((1 : Int32) - yy17)), (.int (izI ((1 : Int32) - yy17) yy2))])) (fun _ k => XS.iload X24.here hx rfl (hb hby at_121) rfl k) ?_
  obtain ⟨_, _, ⟨T25, L25, kk25, nn25⟩, -, X25, ⟨Lc25, hQ25, lq25, yq25, zz25⟩, st25⟩ := Jvm.LawKit.callS X24 hx (y := (⟨"com/example/kinetic_city/kineticcity/engine/NetworkIsZonePinLaw", "ref", "(II)Z"⟩ : MethodName)) hown (mvT hZ (hw _ (List.mem_of_getElem? (i := 181) rfl))) (mvT hZ (hw _ (List.mem_of_getElem? (i := 182) rfl))) (mvT hZ (hw _ (List.mem_of_getElem? (i := 183) rfl))) (mvT hZ (hw _ (List.mem_of_getElem? (i := 184) rfl))) (by decide) (own_back (W := 1) (rmR l Z a0 hw [] ((1 : Int32) - yy17) yy2 T7.heap n0 O7) hZ (hw _ (List.mem_of_getElem? (i := 184) rfl)) (hw _ (List.mem_of_getElem? (i := 183) rfl)) (by decide) (by decide)) (g := (mkF m 123 #[iv p1, iv p2, iv p3, iv p4, iv p5, iv yy1, iv yy2, iv yy3, rv b4, iv yy17, iv yy18, iv yy19] [(.int yy2), (.int ((1 : Int32) - yy17)), (.int (izI ((1 : Int32) - yy17) yy2))])) rfl (by rw [hml]; rfl) (argsL := [(.int ((1 : Int32) - yy17)), (.int yy2)]) (rest := [(.int (izI ((1 : Int32) - yy17) yy2))]) (lenOf pd__II_Z rfl) rfl (by show 2 * 0 + _ ≤ _; exact Nat.le_of_eq rfl) (hb hby at_123) (fun _ _ => ⟨rfl, kq24, (by decide : 11 + 0 ≤ _), (by decide : 131095 + 0 ≤ _)⟩)
  dsimp only [Pt.U, Pt.locs, Pt.cells, Pt.slots] at X25 lq25 yq25 zz25 st25 hQ25
  subst lq25 yq25 zz25
  obtain ⟨rfl, Nq25, kq25⟩ := hQ25
  have N25 := Fr.app N24 Nq25
  refine Go.st (f' := (mkF m 126 #[iv p1, iv p2, iv p3, iv p4, iv p5, iv yy1, iv yy2, iv yy3, rv b4, iv yy17, iv yy18, iv yy19] [(.int (rfI ((1 : Int32) - yy17) yy2)), (.int (izI ((1 : Int32) - yy17) yy2))])) (fun _ k => st25 _ k) ?_
  refine Go.st (f' := (mkF m 129 #[iv p1, iv p2, iv p3, iv p4, iv p5, iv yy1, iv yy2, iv yy3, rv b4, iv yy17, iv yy18, iv yy19] [])) (fun _ k => XS.icmpNo X25.here hx rfl (hb hby at_126) rfl (teq (iz_rf _ _)).2 k) ?_
  refine Go.st (f' := (mkF m 131 #[iv p1, iv p2, iv p3, iv p4, iv p5, iv yy1, iv yy2, iv yy3, rv b4, iv yy17, iv yy18, iv yy19] [(.ref b4)])) (fun _ k => XS.aload X25.here hx rfl (hb hby at_129) rfl rfl k) ?_
  refine Go.st (f' := (mkF m 133 #[iv p1, iv p2, iv p3, iv p4, iv p5, iv yy1, iv yy2, iv yy3, rv b4, iv yy17, iv yy18, iv yy19] [(.int yy18), (.ref b4)])) (fun _ k => XS.iload X25.here hx rfl (hb hby at_131) rfl k) ?_
  obtain ⟨cq26, kq26, q26a, q26b, q26c⟩ := isOf hZ kq25 eq7
  obtain ⟨_, _, ⟨T26, L26, kk26, nn26⟩, -, X26, ⟨Lc26, hQ26, lq26, yq26, zz26⟩, st26⟩ := X25.virtualBack hx (y := (⟨"com/example/kinetic_city/kineticcity/engine/Network", "isZone", "(I)Z"⟩ : MethodName)) (z := (⟨"com/example/kinetic_city/kineticcity/engine/Network", "isZone", "(I)Z"⟩ : MethodName)) hown (mvT hZ (hw _ (List.mem_of_getElem? (i := 176) rfl))) (mvT hZ (hw _ (List.mem_of_getElem? (i := 177) rfl))) (notFace_of_selects (args := #[]) (mvT hZ (hw _ (List.mem_of_getElem? (i := 179) rfl)))) (mvT hZ (hw _ (List.mem_of_getElem? (i := 179) rfl))) (mvT hZ (hw _ (List.mem_of_getElem? (i := 178) rfl))) (by decide) (own_back (W := 0) (rmZ l Z a0 hw [] b4 yy18 yy2 T7.heap n0 O7 eq7 fq7) hZ (hw _ (List.mem_of_getElem? (i := 180) rfl)) (hw _ (List.mem_of_getElem? (i := 4) rfl)) (by decide) (by decide)) q26a q26c (g := (mkF m 133 #[iv p1, iv p2, iv p3, iv p4, iv p5, iv yy1, iv yy2, iv yy3, rv b4, iv yy17, iv yy18, iv yy19] [(.int yy18), (.ref b4)])) rfl (by rw [hml]; rfl) (Steps.refl _) (argsL := [(.int yy18)]) (rest := []) (lenOf pd__I_Z rfl) rfl (by show 2 * 0 + _ ≤ _; exact Nat.le_of_eq rfl) (hb hby at_133) (fun _ _ => ⟨rfl, kq25, (by decide : 11 + 0 ≤ _), (by decide : 131095 + 0 ≤ _)⟩)
  dsimp only [Pt.U, Pt.locs, Pt.cells, Pt.slots] at X26 lq26 yq26 zz26 st26 hQ26
  subst lq26 yq26 zz26
  obtain ⟨rfl, Nq26, kq26⟩ := hQ26
  have N26 := Fr.app N25 Nq26
  refine Go.tr (f' := (mkF m 136 #[iv p1, iv p2, iv p3, iv p4, iv p5, iv yy1, iv yy2, iv yy3, rv b4, iv yy17, iv yy18, iv yy19] [(.int (izI yy18 yy2))])) st26 ?_
  refine Go.st (f' := (mkF m 138 #[iv p1, iv p2, iv p3, iv p4, iv p5, iv yy1, iv yy2, iv yy3, rv b4, iv yy17, iv yy18, iv yy19] [(.int yy18), (.int (izI yy18 yy2))])) (fun _ k => XS.iload X26.here hx rfl (hb hby at_136) rfl k) ?_
  refine Go.st (f' := (mkF m 140 #[iv p1, iv p2, iv p3, iv p4, iv p5, iv yy1, iv yy2, iv yy3, rv b4, iv yy17, iv yy18, iv yy19] [(.int yy2), (.int yy18), (.int (izI yy18 yy2))])) (fun _ k => XS.iload X26.here hx rfl (hb hby at_138) rfl k) ?_
  obtain ⟨_, _, ⟨T27, L27, kk27, nn27⟩, -, X27, ⟨Lc27, hQ27, lq27, yq27, zz27⟩, st27⟩ := Jvm.LawKit.callS X26 hx (y := (⟨"com/example/kinetic_city/kineticcity/engine/NetworkIsZonePinLaw", "ref", "(II)Z"⟩ : MethodName)) hown (mvT hZ (hw _ (List.mem_of_getElem? (i := 181) rfl))) (mvT hZ (hw _ (List.mem_of_getElem? (i := 182) rfl))) (mvT hZ (hw _ (List.mem_of_getElem? (i := 183) rfl))) (mvT hZ (hw _ (List.mem_of_getElem? (i := 184) rfl))) (by decide) (own_back (W := 1) (rmR l Z a0 hw [] yy18 yy2 T7.heap n0 O7) hZ (hw _ (List.mem_of_getElem? (i := 184) rfl)) (hw _ (List.mem_of_getElem? (i := 183) rfl)) (by decide) (by decide)) (g := (mkF m 140 #[iv p1, iv p2, iv p3, iv p4, iv p5, iv yy1, iv yy2, iv yy3, rv b4, iv yy17, iv yy18, iv yy19] [(.int yy2), (.int yy18), (.int (izI yy18 yy2))])) rfl (by rw [hml]; rfl) (argsL := [(.int yy18), (.int yy2)]) (rest := [(.int (izI yy18 yy2))]) (lenOf pd__II_Z rfl) rfl (by show 2 * 0 + _ ≤ _; exact Nat.le_of_eq rfl) (hb hby at_140) (fun _ _ => ⟨rfl, kq26, (by decide : 11 + 0 ≤ _), (by decide : 131095 + 0 ≤ _)⟩)
  dsimp only [Pt.U, Pt.locs, Pt.cells, Pt.slots] at X27 lq27 yq27 zz27 st27 hQ27
  subst lq27 yq27 zz27
  obtain ⟨rfl, Nq27, kq27⟩ := hQ27
  have N27 := Fr.app N26 Nq27
  refine Go.st (f' := (mkF m 143 #[iv p1, iv p2, iv p3, iv p4, iv p5, iv yy1, iv yy2, iv yy3, rv b4, iv yy17, iv yy18, iv yy19] [(.int (rfI yy18 yy2)), (.int (izI yy18 yy2))])) (fun _ k => st27 _ k) ?_
  refine Go.st (f' := (mkF m 146 #[iv p1, iv p2, iv p3, iv p4, iv p5, iv yy1, iv yy2, iv yy3, rv b4, iv yy17, iv yy18, iv yy19] [])) (fun _ k => XS.icmpNo X27.here hx rfl (hb hby at_143) rfl (teq (iz_rf _ _)).2 k) ?_
  refine Go.st (f' := (mkF m 148 #[iv p1, iv p2, iv p3, iv p4, iv p5, iv yy1, iv yy2, iv yy3, rv b4, iv yy17, iv yy18, iv yy19] [(.ref b4)])) (fun _ k => XS.aload X27.here hx rfl (hb hby at_146) rfl rfl k) ?_
  refine Go.st (f' := (mkF m 150 #[iv p1, iv p2, iv p3, iv p4, iv p5, iv yy1, iv yy2, iv yy3, rv b4, iv yy17, iv yy18, iv yy19] [(.int yy19), (.ref b4)])) (fun _ k => XS.iload X27.here hx rfl (hb hby at_148) rfl k) ?_
  obtain ⟨cq28, kq28, q28a, q28b, q28c⟩ := isOf hZ kq27 eq7
  obtain ⟨_, _, ⟨T28, L28, kk28, nn28⟩, -, X28, ⟨Lc28, hQ28, lq28, yq28, zz28⟩, st28⟩ := X27.virtualBack hx (y := (⟨"com/example/kinetic_city/kineticcity/engine/Network", "isZone", "(I)Z"⟩ : MethodName)) (z := (⟨"com/example/kinetic_city/kineticcity/engine/Network", "isZone", "(I)Z"⟩ : MethodName)) hown (mvT hZ (hw _ (List.mem_of_getElem? (i := 176) rfl))) (mvT hZ (hw _ (List.mem_of_getElem? (i := 177) rfl))) (notFace_of_selects (args := #[]) (mvT hZ (hw _ (List.mem_of_getElem? (i := 179) rfl)))) (mvT hZ (hw _ (List.mem_of_getElem? (i := 179) rfl))) (mvT hZ (hw _ (List.mem_of_getElem? (i := 178) rfl))) (by decide) (own_back (W := 0) (rmZ l Z a0 hw [] b4 yy19 yy2 T7.heap n0 O7 eq7 fq7) hZ (hw _ (List.mem_of_getElem? (i := 180) rfl)) (hw _ (List.mem_of_getElem? (i := 4) rfl)) (by decide) (by decide)) q28a q28c (g := (mkF m 150 #[iv p1, iv p2, iv p3, iv p4, iv p5, iv yy1, iv yy2, iv yy3, rv b4, iv yy17, iv yy18, iv yy19] [(.int yy19), (.ref b4)])) rfl (by rw [hml]; rfl) (Steps.refl _) (argsL := [(.int yy19)]) (rest := []) (lenOf pd__I_Z rfl) rfl (by show 2 * 0 + _ ≤ _; exact Nat.le_of_eq rfl) (hb hby at_150) (fun _ _ => ⟨rfl, kq27, (by decide : 11 + 0 ≤ _), (by decide : 131095 + 0 ≤ _)⟩)
  dsimp only [Pt.U, Pt.locs, Pt.cells, Pt.slots] at X28 lq28 yq28 zz28 st28 hQ28
  subst lq28 yq28 zz28
  obtain ⟨rfl, Nq28, kq28⟩ := hQ28
  have N28 := Fr.app N27 Nq28
  refine Go.tr (f' := (mkF m 153 #[iv p1, iv p2, iv p3, iv p4, iv p5, iv yy1, iv yy2, iv yy3, rv b4, iv yy17, iv yy18, iv yy19] [(.int (izI yy19 yy2))])) st28 ?_
  refine Go.st (f' := (mkF m 155 #[iv p1, iv p2, iv p3, iv p4, iv p5, iv yy1, iv yy2, iv yy3, rv b4, iv yy17, iv yy18, iv yy19] [(.int yy19), (.int (izI yy19 yy2))])) (fun _ k => XS.iload X28.here hx rfl (hb hby at_153) rfl k) ?_
  refine Go.st (f' := (mkF m 157 #[iv p1, iv p2, iv p3, iv p4, iv p5, iv yy1, iv yy2, iv yy3, rv b4, iv yy17, iv yy18, iv yy19] [(.int yy2), (.int yy19), (.int (izI yy19 yy2))])) (fun _ k => XS.iload X28.here hx rfl (hb hby at_155) rfl k) ?_
  obtain ⟨_, _, ⟨T29, L29, kk29, nn29⟩, -, X29, ⟨Lc29, hQ29, lq29, yq29, zz29⟩, st29⟩ := Jvm.LawKit.callS X28 hx (y := (⟨"com/example/kinetic_city/kineticcity/engine/NetworkIsZonePinLaw", "ref", "(II)Z"⟩ : MethodName)) hown (mvT hZ (hw _ (List.mem_of_getElem? (i := 181) rfl))) (mvT hZ (hw _ (List.mem_of_getElem? (i := 182) rfl))) (mvT hZ (hw _ (List.mem_of_getElem? (i := 183) rfl))) (mvT hZ (hw _ (List.mem_of_getElem? (i := 184) rfl))) (by decide) (own_back (W := 1) (rmR l Z a0 hw [] yy19 yy2 T7.heap n0 O7) hZ (hw _ (List.mem_of_getElem? (i := 184) rfl)) (hw _ (List.mem_of_getElem? (i := 183) rfl)) (by decide) (by decide)) (g := (mkF m 157 #[iv p1, iv p2, iv p3, iv p4, iv p5, iv yy1, iv yy2, iv yy3, rv b4, iv yy17, iv yy18, iv yy19] [(.int yy2), (.int yy19), (.int (izI yy19 yy2))])) rfl (by rw [hml]; rfl) (argsL := [(.int yy19), (.int yy2)]) (rest := [(.int (izI yy19 yy2))]) (lenOf pd__II_Z rfl) rfl (by show 2 * 0 + _ ≤ _; exact Nat.le_of_eq rfl) (hb hby at_157) (fun _ _ => ⟨rfl, kq28, (by decide : 11 + 0 ≤ _), (by decide : 131095 + 0 ≤ _)⟩)
  dsimp only [Pt.U, Pt.locs, Pt.cells, Pt.slots] at X29 lq29 yq29 zz29 st29 hQ29
  subst lq29 yq29 zz29
  obtain ⟨rfl, Nq29, kq29⟩ := hQ29
  have N29 := Fr.app N28 Nq29
  refine Go.st (f' := (mkF m 160 #[iv p1, iv p2, iv p3, iv p4, iv p5, iv yy1, iv yy2, iv yy3, rv b4, iv yy17, iv yy18, iv yy19] [(.int (rfI yy19 yy2)), (.int (izI yy19 yy2))])) (fun _ k => st29 _ k) ?_
  refine Go.st (f' := (mkF m 163 #[iv p1, iv p2, iv p3, iv p4, iv p5, iv yy1, iv yy2, iv yy3, rv b4, iv yy17, iv yy18, iv yy19] [])) (fun _ k => XS.icmpNo X29.here hx rfl (hb hby at_160) rfl (teq (iz_rf _ _)).2 k) ?_
  refine Go.st (f' := (mkF m 164 #[iv p1, iv p2, iv p3, iv p4, iv p5, iv yy1, iv yy2, iv yy3, rv b4, iv yy17, iv yy18, iv yy19] [(.int 1)])) (fun _ k => XS.iconst X29.here hx rfl (hb hby at_163) k) ?_
  refine Go.st (f' := (mkF m 168 #[iv p1, iv p2, iv p3, iv p4, iv p5, iv yy1, iv yy2, iv yy3, rv b4, iv yy17, iv yy18, iv yy19] [(.int 1)])) (fun _ k => XS.goto X29.here hx rfl (pc0 := 164) (pc' := 168) rfl (hb hby at_164) (by decide) (by decide) k) ?_
  refine Go.retB X29 hlk hx (t := .boolean) hret (by simp) (hb hby at_168) kq29 ?_ (by decide) (by decide)
  exact ⟨rfl, N29⟩
set_option maxRecDepth 65536 in
set_option maxHeartbeats 40000000 in
theorem comes_1 {Post : Tables → Env → Array Value → State → Outcome → State → Prop} (hpost : ∀ tb e args s v u, (limb_1_1.after args s (.returned v) u = true ∧ limb_1_2.after args s (.returned v) u = true ∧ True) → FrameEnd s (.returned v) u (Jvm.fieldLocs frame_1_writes args s ++ Jvm.arrayLocs frame_1_arrays args s ++ Jvm.staticLocs frame_1_statics s) 32 157376 → Post tb e args s (.returned v) u) :
    ArmFor flags0 classFile x code maxLocals ret World_1 tables_1 room_1 Calls_1 rest_1 Pre_1 Post := by
  intro l hfl _ _ p e ha hc hk s m args below hf hA hF happ hP
  obtain ⟨hcalls, hrest, hpre⟩ := hP
  obtain ⟨-, -, -, hnamed, -, -, -, hat⟩ := (Spec.applies_iff hf).mp happ
  obtain ⟨hg, hn⟩ := and_e (Cond.before_iff.mp (show (Jvm.Cond.and given_1 narrow_1).before args s = true from hpre))
  obtain ⟨g1, g2⟩ := and_e hg
  obtain ⟨g3, g4⟩ := and_e g2
  obtain ⟨g5, g6⟩ := and_e g4
  obtain ⟨g7, g8⟩ := and_e g6
  obtain ⟨g9, g10⟩ := and_e g8
  obtain ⟨v0, v1, v2, v3, v4, rfl⟩ : ∃ v0 v1 v2 v3 v4 : Value, args = #[v0, v1, v2, v3, v4] := by
    have hs : args.size = 5 := by simpa [Cond.value, given_1] using g1
    obtain ⟨L⟩ := args
    match L, hs with
    | [v0, v1, v2, v3, v4], _ => exact ⟨v0, v1, v2, v3, v4, rfl⟩
  have hw := fun d (hd : d ∈ tables_1) => atoms_spec (ws := Jvm.Cond.code x code maxLocals ret :: tables_1) hat d (List.mem_cons_of_mem _ hd)
  have hfit : Fit s := fun {y c} hc i hi => by
    obtain ⟨ha, rfl⟩ := Array.getElem?_eq_some_iff.mp hc
    have q := List.all_eq_true.mp ((Array.all_eq_true_iff_forall_mem.mp hF) _ (Array.getElem_mem ha)) i (List.mem_range.mpr hi)
    simpa [Array.getElem?_eq_getElem hi] using q
  obtain ⟨hsets, hown0⟩ := atoms_of _ (rest_1_c_eq ▸ (show rest_1_c.before _ s = true from hrest))
  have hr0 := Cond.before_iff.mp hown0
  obtain ⟨i0, ei0⟩ := is_v g3
  obtain rfl : v0 = (.int i0) := Option.some.inj ei0
  obtain ⟨i1, ei1⟩ := is_v g5
  obtain rfl : v1 = (.int i1) := Option.some.inj ei1
  obtain ⟨i2, ei2⟩ := is_v g7
  obtain rfl : v2 = (.int i2) := Option.some.inj ei2
  obtain ⟨i3, ei3⟩ := is_v g9
  obtain rfl : v3 = (.int i3) := Option.some.inj ei3
  obtain ⟨i4, ei4⟩ := is_v g10
  obtain rfl : v4 = (.int i4) := Option.some.inj ei4
  obtain ⟨cM0, kM0, mir_0, mq0⟩ := hcalls.1
  have M_0 : Mir s "[Ljava/lang/Object;" mir_0 := ⟨cM0, kM0, mq0⟩
  obtain ⟨cM1, kM1, mir_1, mq1⟩ := hcalls.2.1
  have M_1 : Mir s "java/util/ArrayList" mir_1 := ⟨cM1, kM1, mq1⟩
  obtain ⟨cM2, kM2, mir_2, mq2⟩ := hcalls.2.2.1
  have M_2 : Mir s "java/util/Collections$UnmodifiableList" mir_2 := ⟨cM2, kM2, mq2⟩
  obtain ⟨cM3, kM3, mir_3, mq3⟩ := hcalls.2.2.2.1
  have M_3 : Mir s "java/util/Collections$UnmodifiableRandomAccessList" mir_3 := ⟨cM3, kM3, mq3⟩
  obtain ⟨w_EMPTY_ELEMENTDATA, ev_w_EMPTY_ELEMENTDATA⟩ := exa_v (Cond.before_iff.mp (hsets _ (List.mem_of_getElem? (i := 4) rfl)))
  obtain ⟨w_DEFAULTCAPACITY_EMPTY_ELEMENTDATA, ev_w_DEFAULTCAPACITY_EMPTY_ELEMENTDATA⟩ := exa_v (Cond.before_iff.mp (hsets _ (List.mem_of_getElem? (i := 7) rfl)))
  have S_w_EMPTY_ELEMENTDATA := Sta.start ev_w_EMPTY_ELEMENTDATA (Or.inl (hsets _ (List.mem_of_getElem? (i := 1) rfl)))
  have E_w_EMPTY_ELEMENTDATA := Exa.start ev_w_EMPTY_ELEMENTDATA (Cond.before_iff.mp (hsets _ (List.mem_of_getElem? (i := 4) rfl)))
  have S_w_DEFAULTCAPACITY_EMPTY_ELEMENTDATA := Sta.start ev_w_DEFAULTCAPACITY_EMPTY_ELEMENTDATA (Or.inr ⟨hw _ (List.mem_of_getElem? (i := 7) rfl), hsets _ (List.mem_of_getElem? (i := 2) rfl)⟩)
  have E_w_DEFAULTCAPACITY_EMPTY_ELEMENTDATA := Exa.start ev_w_DEFAULTCAPACITY_EMPTY_ELEMENTDATA (Cond.before_iff.mp (hsets _ (List.mem_of_getElem? (i := 7) rfl)))
  obtain ⟨cl_w_EMPTY_ELEMENTDATA, Ar_w_EMPTY_ELEMENTDATA⟩ := Arr.start ev_w_EMPTY_ELEMENTDATA (Cond.before_iff.mp (hsets _ (List.mem_of_getElem? (i := 3) rfl)))
  obtain ⟨z_w_EMPTY_ELEMENTDATA, y_w_EMPTY_ELEMENTDATA⟩ := own_len (own_eq_int (Cond.before_iff.mp (hsets _ (List.mem_of_getElem? (i := 5) rfl)))) ev_w_EMPTY_ELEMENTDATA Ar_w_EMPTY_ELEMENTDATA.1
  have V_w_EMPTY_ELEMENTDATA : Arv s s.heap w_EMPTY_ELEMENTDATA cl_w_EMPTY_ELEMENTDATA.cls (Jvm.ClassFile.FieldType.object "java/lang/Object") (0 : Int32) [] .null := Arv.start hfit Ar_w_EMPTY_ELEMENTDATA z_w_EMPTY_ELEMENTDATA y_w_EMPTY_ELEMENTDATA (by decide) rfl trivial
  obtain ⟨cl_w_DEFAULTCAPACITY_EMPTY_ELEMENTDATA, Ar_w_DEFAULTCAPACITY_EMPTY_ELEMENTDATA⟩ := Arr.start ev_w_DEFAULTCAPACITY_EMPTY_ELEMENTDATA (Cond.before_iff.mp (hsets _ (List.mem_of_getElem? (i := 6) rfl)))
  obtain ⟨z_w_DEFAULTCAPACITY_EMPTY_ELEMENTDATA, y_w_DEFAULTCAPACITY_EMPTY_ELEMENTDATA⟩ := own_len (own_eq_int (Cond.before_iff.mp (hsets _ (List.mem_of_getElem? (i := 8) rfl)))) ev_w_DEFAULTCAPACITY_EMPTY_ELEMENTDATA Ar_w_DEFAULTCAPACITY_EMPTY_ELEMENTDATA.1
  have V_w_DEFAULTCAPACITY_EMPTY_ELEMENTDATA : Arv s s.heap w_DEFAULTCAPACITY_EMPTY_ELEMENTDATA cl_w_DEFAULTCAPACITY_EMPTY_ELEMENTDATA.cls (Jvm.ClassFile.FieldType.object "java/lang/Object") (0 : Int32) [] .null := Arv.start hfit Ar_w_DEFAULTCAPACITY_EMPTY_ELEMENTDATA z_w_DEFAULTCAPACITY_EMPTY_ELEMENTDATA y_w_DEFAULTCAPACITY_EMPTY_ELEMENTDATA (by decide) rfl trivial
  have WW : World1 s mir_0 mir_1 mir_2 mir_3 w_EMPTY_ELEMENTDATA w_DEFAULTCAPACITY_EMPTY_ELEMENTDATA cl_w_EMPTY_ELEMENTDATA.cls cl_w_DEFAULTCAPACITY_EMPTY_ELEMENTDATA.cls   := ⟨M_0, M_1, M_2, M_3, S_w_EMPTY_ELEMENTDATA, E_w_EMPTY_ELEMENTDATA, S_w_DEFAULTCAPACITY_EMPTY_ELEMENTDATA, E_w_DEFAULTCAPACITY_EMPTY_ELEMENTDATA, V_w_EMPTY_ELEMENTDATA, V_w_DEFAULTCAPACITY_EMPTY_ELEMENTDATA⟩
  obtain ⟨n, o, h1, h2, h3, _, L, rfl, ⟨rfl, N⟩, hq⟩ := rm0 l s _ hw tables_1 i0 i1 i2 i3 i4 mir_0 mir_1 mir_2 mir_3 w_EMPTY_ELEMENTDATA w_DEFAULTCAPACITY_EMPTY_ELEMENTDATA cl_w_EMPTY_ELEMENTDATA.cls cl_w_DEFAULTCAPACITY_EMPTY_ELEMENTDATA.cls   s.heap s.heap.size (Old.start s) WW  p e ha hc hk s m _ below hf ((Spec.applies_iff_loose hf).mp happ).1 ⟨rfl, State.Warmed39.refl s, rfl⟩ trivial
  refine ⟨n, _, h1, h2, h3, hpost _ _ _ _ _ _ ⟨Cond.after_iff.mpr rfl, Cond.after_iff.mpr (eq_i res_at (Term.int_eval (1)) rfl), trivial⟩ ⟨hq.1, hq.2.1, (hq.2.2.sift fun y hy => Or.inr (N y hy)).mono (by decide) (by decide)⟩⟩
theorem main_1_1 : Claimed_1_1 := comes_1 fun _ _ _ _ _ _ h hF => ⟨h.1, hF⟩
theorem main_1_2 : Claimed_1_2 := comes_1 fun _ _ _ _ _ _ h hF => ⟨h.2.1, hF⟩
end Jvm.Pilot.@@N@@
namespace Jvm.Pilot.@@N@@
open Jvm Jvm.ClassFile Sem Op Lib Jvm.Free Jvm.Stand Jvm.Pilot.@@N@@.Jvm.D
/-! MADE BY PROGRAM (witnessworld.py) out of the Statement's table words and the real class files: 28 classes; the members and pool entries that the words name. The judged class is class 1, her method 2. -/
namespace start1
open Jvm.ClassFile
def u (s : String) : CpInfo := .utf8 (stringToUtf16 s)
/-- a pool by its gaps: so many unusable entries, then the entry; so many at the end -/
def gap : Nat → List CpInfo → List CpInfo
  | 0, r => r
  | n + 1, r => .unusable :: gap n r
def poolList (es : List (Nat × CpInfo)) (last : Nat) : List CpInfo := es.foldr (fun e r => gap e.1 (e.2 :: r)) (gap last [])
def pool (es : List (Nat × CpInfo)) (last : Nat) : Array CpInfo := ⟨poolList es last⟩
def fileOf (pool : Array CpInfo) (this : Nat) (attrs : Array Attribute := #[]) (ms : Array MethodInfo := #[]) (fl : Nat := 33) (sup : Nat := 0) (ifs : Array Nat := #[]) (fds : Array FieldInfo := #[]) : ClassFile where
  minorVersion := 0
  majorVersion := 65
  constantPool := pool
  accessFlags := fl
  thisClass := this
  superClass := sup
  interfaces := ifs
  fields := fds
  methods := ms
  attributes := attrs
def plain (name : String) (sup : Option ClassId) : Class where
  name := name
  kind := .ordinary
  loader := none
  accessFlags := 33
  super := sup
  interfaces := #[]
  cf := none
  fields := #[]
  methods := #[]
  instanceTypes := #[]
  staticTypes := #[]
  resolved := #[]
  callSites := []
  init := .initialized
  statics := none
  mirror := none

def pool0 : Array CpInfo := pool [(5, u "<init>"), (0, u "()V"), (1, .class_ 10), (1, u "java/lang/Object"), (0, u "getClass"), (0, u "()Ljava/lang/Class;")] 111

def k0c0 : Code := { maxStack := 0, maxLocals := 1, code := object_method_1_code, exceptionTable := #[], attributes := #[] }
def k0m0 : Method := { name := "<init>", desc := "()V", sig := { parameters := [], returnType := none }, accessFlags := 1, code := some k0c0 }
def k0m1 : Method := { name := "getClass", desc := "()Ljava/lang/Class;", sig := { parameters := [], returnType := some (.object "java/lang/Class") }, accessFlags := 273, code := none }
/-- java/lang/Object -/
def k0 : Class := { plain "java/lang/Object" none with
  accessFlags := 33
  interfaces := #[]
  cf := some (fileOf pool0 8 #[] #[{ accessFlags := 1, nameIndex := 5, descriptorIndex := 6, attributes := #[] }, { accessFlags := 273, nameIndex := 11, descriptorIndex := 12, attributes := #[] }] 33 0 #[] #[])
  fields := #[]
  methods := #[k0m0, k0m1]
  instanceTypes := #[]
  staticTypes := #[]
  resolved := Array.replicate 124 none
  statics := none }

def pool1 : Array CpInfo := pool [(2, .class_ 4), (0, .nameAndType 5 6), (0, u "java/lang/Object"), (0, u "<init>"), (0, u "()V"), (0, .integer 65535), (0, .integer 2147483647), (0, .class_ 10), (0, u "com/example/kinetic_city/kineticcity/engine/Network"), (0, .class_ 12), (0, u "java/util/ArrayList"), (0, .methodref 11 3), (0, .methodref 9 15), (0, .nameAndType 5 16), (0, u "(IIILjava/util/List;)V"), (0, .methodref 9 18), (0, .nameAndType 19 20), (0, u "isZone"), (0, u "(I)Z"), (0, .methodref 22 23), (0, .class_ 24), (0, .nameAndType 25 26), (0, u "com/example/kinetic_city/kineticcity/engine/NetworkIsZonePinLaw"), (0, u "ref"), (0, u "(II)Z"), (3, u "law"), (0, u "(IIIII)Z")] 2

def k1m0 : Method := { name := "<init>", desc := "()V", sig := { parameters := [], returnType := none }, accessFlags := 1, code := none }
def k1c1 : Code := { maxStack := 4, maxLocals := 4, code := method_2_code, exceptionTable := #[], attributes := #[] }
def k1m1 : Method := { name := "ref", desc := "(II)Z", sig := { parameters := [.int, .int], returnType := some .boolean }, accessFlags := 10, code := some k1c1 }
def k1c2 : Code := { maxStack := 7, maxLocals := 12, code := code, exceptionTable := #[], attributes := #[] }
def k1m2 : Method := { name := "law", desc := "(IIIII)Z", sig := { parameters := [.int, .int, .int, .int, .int], returnType := some .boolean }, accessFlags := 9, code := some k1c2 }
/-- com/example/kinetic_city/kineticcity/engine/NetworkIsZonePinLaw -/
def k1 : Class := { plain "com/example/kinetic_city/kineticcity/engine/NetworkIsZonePinLaw" (some 0) with
  accessFlags := 49
  interfaces := #[]
  cf := some (fileOf pool1 22 #[] #[{ accessFlags := 1, nameIndex := 5, descriptorIndex := 6, attributes := #[] }, { accessFlags := 10, nameIndex := 25, descriptorIndex := 26, attributes := #[] }, { accessFlags := 9, nameIndex := 30, descriptorIndex := 31, attributes := #[] }] 49 2 #[] #[])
  fields := #[]
  methods := #[k1m0, k1m1, k1m2]
  instanceTypes := #[]
  staticTypes := #[]
  resolved := Array.replicate 34 none
  statics := none }

def pool2 : Array CpInfo := pool [(1, .methodref 2 3), (0, .class_ 4), (0, .nameAndType 5 6), (0, u "java/lang/Object"), (0, u "<init>"), (0, u "()V"), (10, .interfaceMethodref 18 19), (0, .class_ 20), (0, .nameAndType 21 22), (0, u "java/util/List"), (0, u "iterator"), (0, u "()Ljava/util/Iterator;"), (0, .interfaceMethodref 24 25), (0, .class_ 26), (0, .nameAndType 27 28), (0, u "java/util/Iterator"), (0, u "hasNext"), (0, u "()Z"), (9, u "()I"), (1, .class_ 42), (1, u "com/example/kinetic_city/kineticcity/engine/Network"), (5, .fieldref 40 49), (0, .nameAndType 50 51), (0, u "nodeCount"), (0, u "I"), (0, .fieldref 40 53), (0, .nameAndType 54 51), (0, u "zoneCount"), (0, .fieldref 40 56), (0, .nameAndType 57 51), (0, u "firstThroughNode"), (0, .class_ 59), (0, u "java/util/ArrayList"), (0, .methodref 58 61), (0, .nameAndType 5 62), (0, u "(Ljava/util/Collection;)V"), (0, .methodref 64 65), (0, .class_ 66), (0, .nameAndType 67 68), (0, u "java/util/Collections"), (0, u "unmodifiableList"), (0, u "(Ljava/util/List;)Ljava/util/List;"), (0, .fieldref 40 70), (0, .nameAndType 71 72), (0, u "links"), (0, u "Ljava/util/List;"), (0, .interfaceMethodref 18 74), (0, .nameAndType 75 38), (0, u "size"), (0, .fieldref 40 77), (0, .nameAndType 78 79), (0, u "initNodes"), (0, u "[I"), (4, .fieldref 40 85), (0, .nameAndType 86 79), (0, u "outgoingStart"), (0, .fieldref 40 88), (0, .nameAndType 89 79), (0, u "outgoing"), (0, .fieldref 40 91), (0, .nameAndType 92 79), (0, u "outgoingTermNodes"), (10, u "(IIILjava/util/List;)V"), (11, u "isZone"), (0, u "(I)Z")] 33

def k2c0 : Code := { maxStack := 6, maxLocals := 9, code := prog_17_method_1_code, exceptionTable := #[], attributes := #[] }
def k2m0 : Method := { name := "<init>", desc := "(IIILjava/util/List;)V", sig := { parameters := [.int, .int, .int, (.object "java/util/List")], returnType := none }, accessFlags := 1, code := some k2c0 }
def k2c1 : Code := { maxStack := 2, maxLocals := 2, code := prog_17_method_6_code, exceptionTable := #[], attributes := #[] }
def k2m1 : Method := { name := "isZone", desc := "(I)Z", sig := { parameters := [.int], returnType := some .boolean }, accessFlags := 1, code := some k2c1 }
/-- com/example/kinetic_city/kineticcity/engine/Network -/
def k2 : Class := { plain "com/example/kinetic_city/kineticcity/engine/Network" (some 0) with
  accessFlags := 49
  interfaces := #[]
  cf := some (fileOf pool2 40 #[] #[{ accessFlags := 1, nameIndex := 5, descriptorIndex := 103, attributes := #[] }, { accessFlags := 1, nameIndex := 115, descriptorIndex := 116, attributes := #[] }] 49 2 #[] #[{ accessFlags := 18, nameIndex := 50, descriptorIndex := 51, attributes := #[] }, { accessFlags := 18, nameIndex := 54, descriptorIndex := 51, attributes := #[] }, { accessFlags := 18, nameIndex := 57, descriptorIndex := 51, attributes := #[] }, { accessFlags := 18, nameIndex := 71, descriptorIndex := 72, attributes := #[] }, { accessFlags := 18, nameIndex := 78, descriptorIndex := 79, attributes := #[] }, { accessFlags := 18, nameIndex := 86, descriptorIndex := 79, attributes := #[] }, { accessFlags := 18, nameIndex := 89, descriptorIndex := 79, attributes := #[] }, { accessFlags := 18, nameIndex := 92, descriptorIndex := 79, attributes := #[] }])
  fields := #[{ name := "nodeCount", type := .int, accessFlags := 18, slot := 0, constantValue := 0 }, { name := "zoneCount", type := .int, accessFlags := 18, slot := 1, constantValue := 0 }, { name := "firstThroughNode", type := .int, accessFlags := 18, slot := 2, constantValue := 0 }, { name := "links", type := (.object "java/util/List"), accessFlags := 18, slot := 3, constantValue := 0 }, { name := "initNodes", type := (.array .int), accessFlags := 18, slot := 4, constantValue := 0 }, { name := "outgoingStart", type := (.array .int), accessFlags := 18, slot := 5, constantValue := 0 }, { name := "outgoing", type := (.array .int), accessFlags := 18, slot := 6, constantValue := 0 }, { name := "outgoingTermNodes", type := (.array .int), accessFlags := 18, slot := 7, constantValue := 0 }]
  methods := #[k2m0, k2m1]
  instanceTypes := #[.int, .int, .int, (.object "java/util/List"), (.array .int), (.array .int), (.array .int), (.array .int)]
  staticTypes := #[]
  resolved := Array.replicate 150 none
  statics := none }

def pool3 : Array CpInfo := pool [(8, .class_ 10), (1, u "java/lang/Iterable"), (24, .class_ 36), (0, u "java/lang/Object")] 25

/-- java/lang/Iterable -/
def k3 : Class := { plain "java/lang/Iterable" (some 0) with
  accessFlags := 1537
  interfaces := #[]
  cf := some (fileOf pool3 8 #[] #[] 1537 35 #[] #[])
  fields := #[]
  methods := #[]
  instanceTypes := #[]
  staticTypes := #[]
  resolved := Array.replicate 62 none
  statics := none }

def pool4 : Array CpInfo := pool [(10, .class_ 12), (1, u "java/util/Collection"), (0, u "toArray"), (46, .class_ 61), (0, u "java/lang/Object"), (0, .class_ 63), (0, u "java/lang/Iterable"), (6, u "()[Ljava/lang/Object;")] 44

def k4m0 : Method := { name := "toArray", desc := "()[Ljava/lang/Object;", sig := { parameters := [], returnType := some (.array (.object "java/lang/Object")) }, accessFlags := 1025, code := none }
/-- java/util/Collection -/
def k4 : Class := { plain "java/util/Collection" (some 0) with
  accessFlags := 1537
  interfaces := #[3]
  cf := some (fileOf pool4 10 #[] #[{ accessFlags := 1025, nameIndex := 13, descriptorIndex := 70, attributes := #[] }] 1537 60 #[62] #[])
  fields := #[]
  methods := #[k4m0]
  instanceTypes := #[]
  staticTypes := #[]
  resolved := Array.replicate 115 none
  statics := none }

def pool5 : Array CpInfo := pool [(1, .methodref 2 3), (0, .class_ 4), (0, .nameAndType 5 6), (0, u "java/lang/Object"), (0, u "<init>"), (0, u "()V"), (1, .class_ 10), (1, u "java/util/AbstractCollection"), (66, .class_ 78), (0, u "java/util/Collection")] 81

def k5c0 : Code := { maxStack := 1, maxLocals := 1, code := jdk_22_method_1_code, exceptionTable := #[], attributes := #[] }
def k5m0 : Method := { name := "<init>", desc := "()V", sig := { parameters := [], returnType := none }, accessFlags := 4, code := some k5c0 }
/-- java/util/AbstractCollection -/
def k5 : Class := { plain "java/util/AbstractCollection" (some 0) with
  accessFlags := 1057
  interfaces := #[4]
  cf := some (fileOf pool5 8 #[] #[{ accessFlags := 4, nameIndex := 5, descriptorIndex := 6, attributes := #[] }] 1057 2 #[77] #[])
  fields := #[]
  methods := #[k5m0]
  instanceTypes := #[]
  staticTypes := #[]
  resolved := Array.replicate 160 none
  statics := none }

def pool6 : Array CpInfo := pool [(8, .class_ 10), (1, u "java/util/SequencedCollection"), (15, .class_ 27), (0, u "java/lang/Object"), (0, .class_ 29), (0, u "java/util/Collection")] 27

/-- java/util/SequencedCollection -/
def k6 : Class := { plain "java/util/SequencedCollection" (some 0) with
  accessFlags := 1537
  interfaces := #[4]
  cf := some (fileOf pool6 8 #[] #[] 1537 26 #[28] #[])
  fields := #[]
  methods := #[]
  instanceTypes := #[]
  staticTypes := #[]
  resolved := Array.replicate 57 none
  statics := none }

def pool7 : Array CpInfo := pool [(8, .class_ 10), (1, u "java/util/List"), (68, u "size"), (0, u "()I"), (22, .class_ 104), (0, u "java/lang/Object"), (15, .class_ 121), (0, u "java/util/SequencedCollection"), (1, u "iterator"), (0, u "()Ljava/util/Iterator;")] 126

def k7m0 : Method := { name := "size", desc := "()I", sig := { parameters := [], returnType := some .int }, accessFlags := 1025, code := none }
def k7m1 : Method := { name := "iterator", desc := "()Ljava/util/Iterator;", sig := { parameters := [], returnType := some (.object "java/util/Iterator") }, accessFlags := 1025, code := none }
/-- java/util/List -/
def k7 : Class := { plain "java/util/List" (some 0) with
  accessFlags := 1537
  interfaces := #[6]
  cf := some (fileOf pool7 8 #[] #[{ accessFlags := 1025, nameIndex := 79, descriptorIndex := 80, attributes := #[] }, { accessFlags := 1025, nameIndex := 123, descriptorIndex := 124, attributes := #[] }] 1537 103 #[120] #[])
  fields := #[]
  methods := #[k7m0, k7m1]
  instanceTypes := #[]
  staticTypes := #[]
  resolved := Array.replicate 251 none
  statics := none }

def pool8 : Array CpInfo := pool [(1, .methodref 2 3), (0, .class_ 4), (0, .nameAndType 5 6), (0, u "java/util/AbstractCollection"), (0, u "<init>"), (0, u "()V"), (0, .fieldref 8 9), (0, .class_ 10), (0, .nameAndType 11 12), (0, u "java/util/AbstractList"), (0, u "modCount"), (0, u "I"), (64, .class_ 78), (0, u "java/util/AbstractList$Itr"), (3, .class_ 83), (0, u "java/util/AbstractList$ListItr"), (9, .class_ 94), (0, u "java/util/AbstractList$RandomAccessSubList"), (3, .class_ 99), (0, u "java/util/AbstractList$SubList"), (33, .class_ 134), (0, u "java/util/List"), (73, .class_ 209), (0, u "java/util/AbstractList$SubList$1"), (0, .class_ 211), (0, u "java/util/AbstractList$RandomAccessSpliterator")] 6

def k8c0 : Code := { maxStack := 2, maxLocals := 1, code := jdk_39_method_1_code, exceptionTable := #[], attributes := #[] }
def k8m0 : Method := { name := "<init>", desc := "()V", sig := { parameters := [], returnType := none }, accessFlags := 4, code := some k8c0 }
/-- java/util/AbstractList -/
def k8 : Class := { plain "java/util/AbstractList" (some 5) with
  accessFlags := 1057
  interfaces := #[7]
  cf := some (fileOf pool8 8 #[.nestMembers #[93, 98, 208, 210, 82, 77]] #[{ accessFlags := 4, nameIndex := 5, descriptorIndex := 6, attributes := #[] }] 1057 2 #[133] #[{ accessFlags := 132, nameIndex := 11, descriptorIndex := 12, attributes := #[] }])
  fields := #[{ name := "modCount", type := .int, accessFlags := 132, slot := 0, constantValue := 0 }]
  methods := #[k8m0]
  instanceTypes := #[.int]
  staticTypes := #[]
  resolved := Array.replicate 218 none
  statics := none }

def pool9 : Array CpInfo := pool [(1, .class_ 2), (0, u "java/util/RandomAccess"), (0, .class_ 4), (0, u "java/lang/Object")] 2

/-- java/util/RandomAccess -/
def k9 : Class := { plain "java/util/RandomAccess" (some 0) with
  accessFlags := 1537
  interfaces := #[]
  cf := some (fileOf pool9 1 #[] #[] 1537 3 #[] #[])
  fields := #[]
  methods := #[]
  instanceTypes := #[]
  staticTypes := #[]
  resolved := Array.replicate 7 none
  statics := none }

def pool10 : Array CpInfo := pool [(1, .class_ 2), (0, u "java/lang/Cloneable"), (0, .class_ 4), (0, u "java/lang/Object")] 2

/-- java/lang/Cloneable -/
def k10 : Class := { plain "java/lang/Cloneable" (some 0) with
  accessFlags := 1537
  interfaces := #[]
  cf := some (fileOf pool10 1 #[] #[] 1537 3 #[] #[])
  fields := #[]
  methods := #[]
  instanceTypes := #[]
  staticTypes := #[]
  resolved := Array.replicate 7 none
  statics := none }

def pool11 : Array CpInfo := pool [(1, .class_ 2), (0, u "java/io/Serializable"), (0, .class_ 4), (0, u "java/lang/Object")] 2

/-- java/io/Serializable -/
def k11 : Class := { plain "java/io/Serializable" (some 0) with
  accessFlags := 1537
  interfaces := #[]
  cf := some (fileOf pool11 1 #[] #[] 1537 3 #[] #[])
  fields := #[]
  methods := #[]
  instanceTypes := #[]
  staticTypes := #[]
  resolved := Array.replicate 7 none
  statics := none }

def pool12 : Array CpInfo := pool [(1, .methodref 2 3), (0, .class_ 4), (0, .nameAndType 5 6), (0, u "java/util/AbstractList"), (0, u "<init>"), (0, u "()V"), (2, .fieldref 10 11), (0, .class_ 12), (0, .nameAndType 13 14), (0, u "java/util/ArrayList"), (0, u "elementData"), (0, u "[Ljava/lang/Object;"), (0, .fieldref 10 16), (0, .nameAndType 17 14), (0, u "EMPTY_ELEMENTDATA"), (21, .fieldref 10 40), (0, .nameAndType 41 14), (0, u "DEFAULTCAPACITY_EMPTY_ELEMENTDATA"), (0, .interfaceMethodref 43 44), (0, .class_ 45), (0, .nameAndType 46 47), (0, u "java/util/Collection"), (0, u "toArray"), (0, u "()[Ljava/lang/Object;"), (0, .fieldref 10 49), (0, .nameAndType 50 51), (0, u "size"), (0, u "I"), (6, .class_ 60), (1, u "java/util/Arrays"), (0, u "copyOf"), (4, .methodref 58 67), (0, .nameAndType 61 68), (0, u "([Ljava/lang/Object;I)[Ljava/lang/Object;"), (79, .class_ 149), (0, u "java/util/List"), (16, u "iterator"), (0, u "()Ljava/util/Iterator;"), (18, u "()I"), (75, .class_ 263), (0, u "java/util/ArrayList$ListItr"), (3, .class_ 268), (0, u "java/util/ArrayList$Itr"), (0, .methodref 267 270), (0, .nameAndType 5 271), (0, u "(Ljava/util/ArrayList;)V"), (4, .class_ 277), (0, u "java/util/ArrayList$SubList"), (12, .class_ 291), (0, u "java/util/ArrayList$ArrayListSpliterator"), (37, .class_ 330), (0, u "java/util/RandomAccess"), (0, .class_ 332), (0, u "java/lang/Cloneable"), (0, .class_ 334), (0, u "java/io/Serializable"), (0, u "serialVersionUID"), (0, u "J"), (3, u "DEFAULT_CAPACITY"), (10, u "(Ljava/util/Collection;)V"), (148, .class_ 501), (0, u "java/util/ArrayList$SubList$2"), (0, .class_ 503), (0, u "java/util/ArrayList$SubList$1")] 5

def k12c0 : Code := { maxStack := 2, maxLocals := 1, code := jdk_38_method_2_code, exceptionTable := #[], attributes := #[] }
def k12m0 : Method := { name := "<init>", desc := "()V", sig := { parameters := [], returnType := none }, accessFlags := 1, code := some k12c0 }
def k12c1 : Code := { maxStack := 4, maxLocals := 3, code := jdk_38_method_3_code, exceptionTable := #[], attributes := #[] }
def k12m1 : Method := { name := "<init>", desc := "(Ljava/util/Collection;)V", sig := { parameters := [(.object "java/util/Collection")], returnType := none }, accessFlags := 1, code := some k12c1 }
def k12c2 : Code := { maxStack := 1, maxLocals := 1, code := jdk_38_method_8_code, exceptionTable := #[], attributes := #[] }
def k12m2 : Method := { name := "size", desc := "()I", sig := { parameters := [], returnType := some .int }, accessFlags := 1, code := some k12c2 }
def k12c3 : Code := { maxStack := 2, maxLocals := 1, code := jdk_38_method_16_code, exceptionTable := #[], attributes := #[] }
def k12m3 : Method := { name := "toArray", desc := "()[Ljava/lang/Object;", sig := { parameters := [], returnType := some (.array (.object "java/lang/Object")) }, accessFlags := 1, code := some k12c3 }
def k12c4 : Code := { maxStack := 3, maxLocals := 1, code := jdk_38_method_55_code, exceptionTable := #[], attributes := #[] }
def k12m4 : Method := { name := "iterator", desc := "()Ljava/util/Iterator;", sig := { parameters := [], returnType := some (.object "java/util/Iterator") }, accessFlags := 1, code := some k12c4 }
/-- java/util/ArrayList -/
def k12 : Class := { plain "java/util/ArrayList" (some 8) with
  accessFlags := 33
  interfaces := #[7, 9, 10, 11]
  cf := some (fileOf pool12 10 #[.nestMembers #[290, 276, 500, 502, 262, 267]] #[{ accessFlags := 1, nameIndex := 5, descriptorIndex := 6, attributes := #[] }, { accessFlags := 1, nameIndex := 5, descriptorIndex := 351, attributes := #[] }, { accessFlags := 1, nameIndex := 50, descriptorIndex := 186, attributes := #[] }, { accessFlags := 1, nameIndex := 46, descriptorIndex := 47, attributes := #[] }, { accessFlags := 1, nameIndex := 166, descriptorIndex := 167, attributes := #[] }] 33 2 #[148, 329, 331, 333] #[{ accessFlags := 26, nameIndex := 335, descriptorIndex := 336, attributes := #[] }, { accessFlags := 26, nameIndex := 340, descriptorIndex := 51, attributes := #[] }, { accessFlags := 26, nameIndex := 17, descriptorIndex := 14, attributes := #[] }, { accessFlags := 26, nameIndex := 41, descriptorIndex := 14, attributes := #[] }, { accessFlags := 128, nameIndex := 13, descriptorIndex := 14, attributes := #[] }, { accessFlags := 2, nameIndex := 50, descriptorIndex := 51, attributes := #[] }])
  fields := #[{ name := "serialVersionUID", type := .long, accessFlags := 26, slot := 0, constantValue := 0 }, { name := "DEFAULT_CAPACITY", type := .int, accessFlags := 26, slot := 1, constantValue := 0 }, { name := "EMPTY_ELEMENTDATA", type := (.array (.object "java/lang/Object")), accessFlags := 26, slot := 2, constantValue := 0 }, { name := "DEFAULTCAPACITY_EMPTY_ELEMENTDATA", type := (.array (.object "java/lang/Object")), accessFlags := 26, slot := 3, constantValue := 0 }, { name := "elementData", type := (.array (.object "java/lang/Object")), accessFlags := 128, slot := 1, constantValue := 0 }, { name := "size", type := .int, accessFlags := 2, slot := 2, constantValue := 0 }]
  methods := #[k12m0, k12m1, k12m2, k12m3, k12m4]
  instanceTypes := #[.int, (.array (.object "java/lang/Object")), .int]
  staticTypes := #[.long, .int, (.array (.object "java/lang/Object")), (.array (.object "java/lang/Object"))]
  resolved := Array.replicate 509 none
  mirror := some 2
  statics := some 0 }

def pool13 : Array CpInfo := pool [(16, .class_ 18), (1, u "java/util/Iterator"), (0, u "hasNext"), (0, u "()Z"), (10, .class_ 32), (0, u "java/lang/Object")] 20

def k13m0 : Method := { name := "hasNext", desc := "()Z", sig := { parameters := [], returnType := some .boolean }, accessFlags := 1025, code := none }
/-- java/util/Iterator -/
def k13 : Class := { plain "java/util/Iterator" (some 0) with
  accessFlags := 1537
  interfaces := #[]
  cf := some (fileOf pool13 16 #[] #[{ accessFlags := 1025, nameIndex := 19, descriptorIndex := 20, attributes := #[] }] 1537 31 #[] #[])
  fields := #[]
  methods := #[k13m0]
  instanceTypes := #[]
  staticTypes := #[]
  resolved := Array.replicate 53 none
  statics := none }

def pool14 : Array CpInfo := pool [(1, .fieldref 2 3), (0, .class_ 4), (0, .nameAndType 5 6), (0, u "java/util/ArrayList$Itr"), (0, u "this$0"), (0, u "Ljava/util/ArrayList;"), (0, .methodref 8 9), (0, .class_ 10), (0, .nameAndType 11 12), (0, u "java/lang/Object"), (0, u "<init>"), (0, u "()V"), (0, .fieldref 2 14), (0, .nameAndType 15 16), (0, u "lastRet"), (0, u "I"), (0, .fieldref 18 19), (0, .class_ 20), (0, .nameAndType 21 16), (0, u "java/util/ArrayList"), (0, u "modCount"), (0, .fieldref 2 23), (0, .nameAndType 24 16), (0, u "expectedModCount"), (0, .fieldref 2 26), (0, .nameAndType 27 16), (0, u "cursor"), (0, .fieldref 18 29), (0, .nameAndType 30 16), (0, u "size"), (38, .class_ 70), (0, u "java/util/Iterator"), (0, u "(Ljava/util/ArrayList;)V"), (8, u "hasNext"), (0, u "()Z")] 22

def k14c0 : Code := { maxStack := 2, maxLocals := 2, code := jdk_49_method_1_code, exceptionTable := #[], attributes := #[] }
def k14m0 : Method := { name := "<init>", desc := "(Ljava/util/ArrayList;)V", sig := { parameters := [(.object "java/util/ArrayList")], returnType := none }, accessFlags := 0, code := some k14c0 }
def k14c1 : Code := { maxStack := 2, maxLocals := 1, code := jdk_49_method_2_code, exceptionTable := #[], attributes := #[] }
def k14m1 : Method := { name := "hasNext", desc := "()Z", sig := { parameters := [], returnType := some .boolean }, accessFlags := 1, code := some k14c1 }
/-- java/util/ArrayList$Itr -/
def k14 : Class := { plain "java/util/ArrayList$Itr" (some 0) with
  accessFlags := 32
  interfaces := #[13]
  cf := some (fileOf pool14 2 #[.nestHost 18] #[{ accessFlags := 0, nameIndex := 11, descriptorIndex := 71, attributes := #[] }, { accessFlags := 1, nameIndex := 80, descriptorIndex := 81, attributes := #[] }] 32 8 #[69] #[{ accessFlags := 0, nameIndex := 27, descriptorIndex := 16, attributes := #[] }, { accessFlags := 0, nameIndex := 15, descriptorIndex := 16, attributes := #[] }, { accessFlags := 0, nameIndex := 24, descriptorIndex := 16, attributes := #[] }, { accessFlags := 4112, nameIndex := 5, descriptorIndex := 6, attributes := #[] }])
  fields := #[{ name := "cursor", type := .int, accessFlags := 0, slot := 0, constantValue := 0 }, { name := "lastRet", type := .int, accessFlags := 0, slot := 1, constantValue := 0 }, { name := "expectedModCount", type := .int, accessFlags := 0, slot := 2, constantValue := 0 }, { name := "this$0", type := (.object "java/util/ArrayList"), accessFlags := 4112, slot := 3, constantValue := 0 }]
  methods := #[k14m0, k14m1]
  instanceTypes := #[.int, .int, .int, (.object "java/util/ArrayList")]
  staticTypes := #[]
  resolved := Array.replicate 104 none
  statics := none }

def pool15 : Array CpInfo := pool [(2, .class_ 4), (1, u "java/lang/Object"), (0, u "<init>"), (0, u "()V"), (7, .class_ 16), (1, u "java/util/Arrays"), (57, .class_ 76), (1, u "java/util/Arrays$NaturalOrder"), (9, .methodref 2 87), (0, .nameAndType 88 89), (0, u "getClass"), (0, u "()Ljava/lang/Class;"), (20, .class_ 111), (0, u "[Ljava/lang/Object;"), (1, .class_ 115), (1, u "java/util/Arrays$LegacyMergeSort"), (1, u "Z"), (32, .methodref 151 152), (0, .class_ 153), (0, .nameAndType 154 155), (0, u "java/lang/System"), (0, u "arraycopy"), (0, u "(Ljava/lang/Object;ILjava/lang/Object;II)V"), (144, .methodref 14 301), (0, .nameAndType 302 303), (0, u "copyOf"), (0, u "([Ljava/lang/Object;ILjava/lang/Class;)[Ljava/lang/Object;"), (0, .methodref 305 306), (0, .class_ 307), (0, .nameAndType 308 309), (0, u "java/lang/Math"), (0, u "min"), (0, u "(II)I"), (65, .class_ 376), (0, u "java/util/Arrays$ArrayList"), (68, u "$assertionsDisabled"), (269, u "MIN_ARRAY_SORT_GRAN"), (0, u "I"), (2, u "INSERTIONSORT_THRESHOLD"), (140, u "([Ljava/lang/Object;I)[Ljava/lang/Object;"), (114, .class_ 976), (0, u "java/util/Arrays$ArrayItr")] 52

def k15m0 : Method := { name := "<init>", desc := "()V", sig := { parameters := [], returnType := none }, accessFlags := 2, code := none }
def k15c1 : Code := { maxStack := 3, maxLocals := 2, code := jdk_65_method_119_code, exceptionTable := #[], attributes := #[] }
def k15m1 : Method := { name := "copyOf", desc := "([Ljava/lang/Object;I)[Ljava/lang/Object;", sig := { parameters := [(.array (.object "java/lang/Object")), .int], returnType := some (.array (.object "java/lang/Object")) }, accessFlags := 9, code := some k15c1 }
def k15c2 : Code := { maxStack := 6, maxLocals := 4, code := jdk_65_method_120_code, exceptionTable := #[], attributes := #[] }
def k15m2 : Method := { name := "copyOf", desc := "([Ljava/lang/Object;ILjava/lang/Class;)[Ljava/lang/Object;", sig := { parameters := [(.array (.object "java/lang/Object")), .int, (.object "java/lang/Class")], returnType := some (.array (.object "java/lang/Object")) }, accessFlags := 9, code := some k15c2 }
/-- java/util/Arrays -/
def k15 : Class := { plain "java/util/Arrays" (some 0) with
  accessFlags := 49
  interfaces := #[]
  cf := some (fileOf pool15 14 #[.nestMembers #[975, 375, 113, 74]] #[{ accessFlags := 2, nameIndex := 5, descriptorIndex := 6, attributes := #[] }, { accessFlags := 9, nameIndex := 302, descriptorIndex := 860, attributes := #[] }, { accessFlags := 9, nameIndex := 302, descriptorIndex := 303, attributes := #[] }] 49 2 #[] #[{ accessFlags := 26, nameIndex := 715, descriptorIndex := 716, attributes := #[] }, { accessFlags := 26, nameIndex := 719, descriptorIndex := 716, attributes := #[] }, { accessFlags := 4120, nameIndex := 445, descriptorIndex := 117, attributes := #[] }])
  fields := #[{ name := "MIN_ARRAY_SORT_GRAN", type := .int, accessFlags := 26, slot := 0, constantValue := 0 }, { name := "INSERTIONSORT_THRESHOLD", type := .int, accessFlags := 26, slot := 1, constantValue := 0 }, { name := "$assertionsDisabled", type := .boolean, accessFlags := 4120, slot := 2, constantValue := 0 }]
  methods := #[k15m0, k15m1, k15m2]
  instanceTypes := #[]
  staticTypes := #[.int, .int, .boolean]
  resolved := Array.replicate 1029 none
  statics := none }

def pool16 : Array CpInfo := pool [(1, .class_ 2), (0, u "java/lang/Math"), (1, .class_ 6), (1, u "java/lang/Object"), (0, u "<init>"), (0, u "()V"), (89, .class_ 100), (1, u "java/lang/Math$RandomNumberGeneratorHolder"), (71, u "negativeZeroFloatBits"), (0, u "J"), (2, u "negativeZeroDoubleBits"), (24, u "min"), (43, u "$assertionsDisabled"), (0, u "Z"), (88, u "(II)I"), (2, u "twoToTheDoubleScaleDown"), (0, u "D"), (4, u "twoToTheDoubleScaleUp"), (9, u "E"), (3, u "PI"), (2, u "TAU"), (2, u "DEGREES_TO_RADIANS"), (0, u "RADIANS_TO_DEGREES")] 94

def k16m0 : Method := { name := "<init>", desc := "()V", sig := { parameters := [], returnType := none }, accessFlags := 2, code := none }
def k16c1 : Code := { maxStack := 2, maxLocals := 2, code := jdk_29_method_69_code, exceptionTable := #[], attributes := #[] }
def k16m1 : Method := { name := "min", desc := "(II)I", sig := { parameters := [.int, .int], returnType := some .int }, accessFlags := 9, code := some k16c1 }
/-- java/lang/Math -/
def k16 : Class := { plain "java/lang/Math" (some 0) with
  accessFlags := 49
  interfaces := #[]
  cf := some (fileOf pool16 1 #[.nestMembers #[98]] #[{ accessFlags := 2, nameIndex := 7, descriptorIndex := 8, attributes := #[] }, { accessFlags := 9, nameIndex := 201, descriptorIndex := 335, attributes := #[] }] 49 4 #[] #[{ accessFlags := 25, nameIndex := 354, descriptorIndex := 339, attributes := #[] }, { accessFlags := 25, nameIndex := 358, descriptorIndex := 339, attributes := #[] }, { accessFlags := 25, nameIndex := 361, descriptorIndex := 339, attributes := #[] }, { accessFlags := 26, nameIndex := 364, descriptorIndex := 339, attributes := #[] }, { accessFlags := 26, nameIndex := 365, descriptorIndex := 339, attributes := #[] }, { accessFlags := 26, nameIndex := 172, descriptorIndex := 173, attributes := #[] }, { accessFlags := 26, nameIndex := 176, descriptorIndex := 173, attributes := #[] }, { accessFlags := 8, nameIndex := 344, descriptorIndex := 339, attributes := #[] }, { accessFlags := 8, nameIndex := 338, descriptorIndex := 339, attributes := #[] }, { accessFlags := 4120, nameIndex := 245, descriptorIndex := 246, attributes := #[] }])
  fields := #[{ name := "E", type := .double, accessFlags := 25, slot := 0, constantValue := 0 }, { name := "PI", type := .double, accessFlags := 25, slot := 1, constantValue := 0 }, { name := "TAU", type := .double, accessFlags := 25, slot := 2, constantValue := 0 }, { name := "DEGREES_TO_RADIANS", type := .double, accessFlags := 26, slot := 3, constantValue := 0 }, { name := "RADIANS_TO_DEGREES", type := .double, accessFlags := 26, slot := 4, constantValue := 0 }, { name := "negativeZeroFloatBits", type := .long, accessFlags := 26, slot := 5, constantValue := 0 }, { name := "negativeZeroDoubleBits", type := .long, accessFlags := 26, slot := 6, constantValue := 0 }, { name := "twoToTheDoubleScaleUp", type := .double, accessFlags := 8, slot := 7, constantValue := 0 }, { name := "twoToTheDoubleScaleDown", type := .double, accessFlags := 8, slot := 8, constantValue := 0 }, { name := "$assertionsDisabled", type := .boolean, accessFlags := 4120, slot := 9, constantValue := 0 }]
  methods := #[k16m0, k16m1]
  instanceTypes := #[]
  staticTypes := #[.double, .double, .double, .double, .double, .long, .long, .double, .double, .boolean]
  resolved := Array.replicate 460 none
  statics := none }

def pool17 : Array CpInfo := pool [(2, .class_ 4), (1, u "java/lang/Object"), (0, u "<init>"), (0, u "()V"), (1, .class_ 10), (1, u "java/lang/System"), (0, u "allowSecurityManager"), (0, u "I"), (16, u "cons"), (0, u "Ljava/io/Console;"), (77, .class_ 110), (1, u "java/lang/System$CallersHolder"), (43, u "initialErrStream"), (0, u "Ljava/io/PrintStream;"), (19, u "security"), (0, u "Ljava/lang/SecurityManager;"), (31, .class_ 209), (0, u "java/lang/System$1"), (7, u "props"), (0, u "Ljava/util/Properties;"), (2, u "lineSeparator"), (0, u "Ljava/lang/String;"), (96, .class_ 321), (1, u "java/lang/System$LoggerFinder"), (5, .class_ 328), (0, u "java/lang/System$Logger"), (67, u "err"), (2, u "out"), (91, u "notSupportedJnuEncoding"), (15, u "in"), (17, u "initialIn"), (0, u "Ljava/io/InputStream;"), (35, u "bootLayer"), (0, u "Ljava/lang/ModuleLayer;"), (99, .class_ 664), (0, u "java/lang/System$2"), (9, u "NEVER"), (2, u "MAYBE"), (49, u "arraycopy"), (0, u "(Ljava/lang/Object;ILjava/lang/Object;II)V"), (72, .class_ 802), (0, u "java/lang/System$Logger$Level")] 31

def k17m0 : Method := { name := "<init>", desc := "()V", sig := { parameters := [], returnType := none }, accessFlags := 2, code := none }
def k17m1 : Method := { name := "arraycopy", desc := "(Ljava/lang/Object;ILjava/lang/Object;II)V", sig := { parameters := [(.object "java/lang/Object"), .int, (.object "java/lang/Object"), .int, .int], returnType := none }, accessFlags := 265, code := none }
/-- java/lang/System -/
def k17 : Class := { plain "java/lang/System" (some 0) with
  accessFlags := 49
  interfaces := #[]
  cf := some (fileOf pool17 8 #[.nestMembers #[319, 327, 801, 108, 663, 208]] #[{ accessFlags := 2, nameIndex := 5, descriptorIndex := 6, attributes := #[] }, { accessFlags := 265, nameIndex := 727, descriptorIndex := 728, attributes := #[] }] 49 2 #[] #[{ accessFlags := 25, nameIndex := 507, descriptorIndex := 526, attributes := #[] }, { accessFlags := 25, nameIndex := 399, descriptorIndex := 155, attributes := #[] }, { accessFlags := 25, nameIndex := 396, descriptorIndex := 155, attributes := #[] }, { accessFlags := 10, nameIndex := 525, descriptorIndex := 526, attributes := #[] }, { accessFlags := 26, nameIndex := 674, descriptorIndex := 12, attributes := #[] }, { accessFlags := 26, nameIndex := 677, descriptorIndex := 12, attributes := #[] }, { accessFlags := 10, nameIndex := 11, descriptorIndex := 12, attributes := #[] }, { accessFlags := 74, nameIndex := 175, descriptorIndex := 176, attributes := #[] }, { accessFlags := 10, nameIndex := 491, descriptorIndex := 222, attributes := #[] }, { accessFlags := 74, nameIndex := 29, descriptorIndex := 30, attributes := #[] }, { accessFlags := 74, nameIndex := 154, descriptorIndex := 155, attributes := #[] }, { accessFlags := 10, nameIndex := 217, descriptorIndex := 218, attributes := #[] }, { accessFlags := 10, nameIndex := 221, descriptorIndex := 222, attributes := #[] }, { accessFlags := 8, nameIndex := 562, descriptorIndex := 563, attributes := #[] }])
  fields := #[{ name := "in", type := (.object "java/io/InputStream"), accessFlags := 25, slot := 0, constantValue := 0 }, { name := "out", type := (.object "java/io/PrintStream"), accessFlags := 25, slot := 1, constantValue := 0 }, { name := "err", type := (.object "java/io/PrintStream"), accessFlags := 25, slot := 2, constantValue := 0 }, { name := "initialIn", type := (.object "java/io/InputStream"), accessFlags := 10, slot := 3, constantValue := 0 }, { name := "NEVER", type := .int, accessFlags := 26, slot := 4, constantValue := 0 }, { name := "MAYBE", type := .int, accessFlags := 26, slot := 5, constantValue := 0 }, { name := "allowSecurityManager", type := .int, accessFlags := 10, slot := 6, constantValue := 0 }, { name := "security", type := (.object "java/lang/SecurityManager"), accessFlags := 74, slot := 7, constantValue := 0 }, { name := "notSupportedJnuEncoding", type := (.object "java/lang/String"), accessFlags := 10, slot := 8, constantValue := 0 }, { name := "cons", type := (.object "java/io/Console"), accessFlags := 74, slot := 9, constantValue := 0 }, { name := "initialErrStream", type := (.object "java/io/PrintStream"), accessFlags := 74, slot := 10, constantValue := 0 }, { name := "props", type := (.object "java/util/Properties"), accessFlags := 10, slot := 11, constantValue := 0 }, { name := "lineSeparator", type := (.object "java/lang/String"), accessFlags := 10, slot := 12, constantValue := 0 }, { name := "bootLayer", type := (.object "java/lang/ModuleLayer"), accessFlags := 8, slot := 13, constantValue := 0 }]
  methods := #[k17m0, k17m1]
  instanceTypes := #[]
  staticTypes := #[(.object "java/io/InputStream"), (.object "java/io/PrintStream"), (.object "java/io/PrintStream"), (.object "java/io/InputStream"), .int, .int, .int, (.object "java/lang/SecurityManager"), (.object "java/lang/String"), (.object "java/io/Console"), (.object "java/io/PrintStream"), (.object "java/util/Properties"), (.object "java/lang/String"), (.object "java/lang/ModuleLayer")]
  resolved := Array.replicate 834 none
  statics := none }

def pool18 : Array CpInfo := pool [(2, .class_ 4), (1, u "java/lang/Object"), (0, u "<init>"), (0, u "()V"), (1, .class_ 10), (1, u "java/util/List"), (2, .class_ 14), (0, u "java/util/RandomAccess"), (4, .class_ 20), (0, u "java/util/Collections"), (63, u "r"), (0, u "Ljava/util/Random;"), (67, u "(Ljava/util/List;)V"), (9, .nameAndType 164 165), (0, u "getClass"), (0, u "()Ljava/lang/Class;"), (0, .class_ 167), (0, u "java/util/Collections$UnmodifiableCollection"), (6, .class_ 175), (0, u "java/util/Collections$UnmodifiableSequencedCollection"), (6, .class_ 183), (0, u "java/util/Collections$UnmodifiableSet"), (6, .class_ 191), (0, u "java/util/Collections$UnmodifiableSequencedSet"), (6, .class_ 199), (0, u "java/util/Collections$UnmodifiableSortedSet"), (6, .class_ 207), (0, u "java/util/Collections$UnmodifiableNavigableSet"), (3, .interfaceMethodref 8 163), (0, .class_ 213), (0, u "java/util/Collections$UnmodifiableList"), (0, .interfaceMethodref 8 163), (0, .class_ 216), (0, u "java/util/Collections$UnmodifiableRandomAccessList"), (0, .methodref 215 218), (0, .nameAndType 5 153), (4, .class_ 224), (0, u "java/util/Collections$UnmodifiableMap"), (6, .class_ 232), (0, u "java/util/Collections$UnmodifiableSequencedMap"), (4, .class_ 238), (0, u "java/util/Collections$UnmodifiableSortedMap"), (6, .class_ 246), (0, u "java/util/Collections$UnmodifiableNavigableMap"), (3, .class_ 251), (0, u "java/util/Collections$SynchronizedCollection"), (4, .class_ 257), (0, u "java/util/Collections$SynchronizedSet"), (4, .class_ 263), (0, u "java/util/Collections$SynchronizedSortedSet"), (1, .class_ 266), (0, u "java/util/Collections$SynchronizedNavigableSet"), (1, .class_ 269), (0, u "java/util/Collections$SynchronizedRandomAccessList"), (1, .class_ 272), (0, u "java/util/Collections$SynchronizedList"), (5, .class_ 279), (0, u "java/util/Collections$SynchronizedMap"), (1, .class_ 282), (0, u "java/util/Collections$SynchronizedSortedMap"), (1, .class_ 285), (0, u "java/util/Collections$SynchronizedNavigableMap"), (1, .class_ 288), (0, u "java/util/Collections$CheckedCollection"), (11, .class_ 301), (0, u "java/util/Collections$CheckedQueue"), (3, .class_ 306), (0, u "java/util/Collections$CheckedSet"), (3, .class_ 311), (0, u "java/util/Collections$CheckedSortedSet"), (3, .class_ 316), (0, u "java/util/Collections$CheckedNavigableSet"), (3, .class_ 321), (0, u "java/util/Collections$CheckedRandomAccessList"), (3, .class_ 326), (0, u "java/util/Collections$CheckedList"), (1, .class_ 329), (0, u "java/util/Collections$CheckedMap"), (3, .class_ 334), (0, u "java/util/Collections$CheckedSortedMap"), (3, .class_ 339), (0, u "java/util/Collections$CheckedNavigableMap"), (4, .class_ 346), (1, u "java/util/Collections$EmptyIterator"), (3, .class_ 352), (1, u "java/util/Collections$EmptyListIterator"), (2, .class_ 357), (1, u "java/util/Collections$EmptyEnumeration"), (4, u "EMPTY_SET"), (0, u "Ljava/util/Set;"), (6, u "EMPTY_LIST"), (0, u "Ljava/util/List;"), (2, u "EMPTY_MAP"), (0, u "Ljava/util/Map;"), (4, .class_ 381), (0, u "java/util/Collections$SingletonSet"), (2, .class_ 385), (0, u "java/util/Collections$1"), (1, .class_ 388), (0, u "java/util/Collections$2"), (1, .class_ 391), (0, u "java/util/Collections$SingletonList"), (1, .class_ 394), (0, u "java/util/Collections$SingletonMap"), (22, .class_ 418), (0, u "java/util/Collections$CopiesList"), (4, .class_ 425), (1, u "java/util/Collections$ReverseComparator"), (8, .class_ 435), (0, u "java/util/Collections$ReverseComparator2"), (6, .class_ 443), (0, u "java/util/Collections$3"), (25, .class_ 470), (0, u "java/util/Collections$SetFromMap"), (2, .class_ 474), (0, u "java/util/Collections$SequencedSetFromMap"), (3, .class_ 479), (0, u "java/util/Collections$AsLIFOQueue"), (11, .class_ 492), (0, u "java/util/Collections$EmptySet"), (1, .class_ 495), (0, u "java/util/Collections$EmptyList"), (1, .class_ 498), (0, u "java/util/Collections$EmptyMap"), (1, u "BINARYSEARCH_THRESHOLD"), (0, u "I"), (2, u "REVERSE_THRESHOLD"), (1, u "SHUFFLE_THRESHOLD"), (1, u "FILL_THRESHOLD"), (1, u "ROTATE_THRESHOLD"), (1, u "COPY_THRESHOLD"), (1, u "REPLACEALL_THRESHOLD"), (1, u "INDEXOFSUBLIST_THRESHOLD"), (129, u "unmodifiableList"), (0, u "(Ljava/util/List;)Ljava/util/List;"), (202, .class_ 851), (0, u "java/util/Collections$CheckedMap$CheckedEntrySet"), (0, .class_ 853), (0, u "java/util/Collections$CheckedMap$CheckedEntrySet$CheckedEntry"), (0, .class_ 855), (0, u "java/util/Collections$CheckedMap$CheckedEntrySet$1"), (0, .class_ 857), (0, u "java/util/Collections$CheckedList$1"), (0, .class_ 859), (0, u "java/util/Collections$CheckedCollection$1"), (0, .class_ 861), (0, u "java/util/Collections$UnmodifiableNavigableMap$EmptyNavigableMap"), (0, .class_ 863), (0, u "java/util/Collections$UnmodifiableMap$UnmodifiableEntrySet"), (0, .class_ 865), (0, u "java/util/Collections$UnmodifiableMap$UnmodifiableEntrySet$UnmodifiableEntry"), (0, .class_ 867), (0, u "java/util/Collections$UnmodifiableMap$UnmodifiableEntrySet$UnmodifiableEntrySetSpliterator"), (0, .class_ 869), (0, u "java/util/Collections$UnmodifiableMap$UnmodifiableEntrySet$1"), (0, .class_ 871), (0, u "java/util/Collections$UnmodifiableList$1"), (0, .class_ 873), (0, u "java/util/Collections$UnmodifiableNavigableSet$EmptyNavigableSet"), (0, .class_ 875), (0, u "java/util/Collections$UnmodifiableCollection$1")] 57

def k18m0 : Method := { name := "<init>", desc := "()V", sig := { parameters := [], returnType := none }, accessFlags := 2, code := none }
def k18c1 : Code := { maxStack := 3, maxLocals := 1, code := jdk_79_method_35_code, exceptionTable := #[], attributes := #[] }
def k18m1 : Method := { name := "unmodifiableList", desc := "(Ljava/util/List;)Ljava/util/List;", sig := { parameters := [(.object "java/util/List")], returnType := some (.object "java/util/List") }, accessFlags := 9, code := some k18c1 }
/-- java/util/Collections -/
def k18 : Class := { plain "java/util/Collections" (some 0) with
  accessFlags := 33
  interfaces := #[]
  cf := some (fileOf pool18 19 #[.nestMembers #[478, 473, 469, 434, 423, 417, 393, 390, 380, 497, 494, 491, 355, 350, 344, 338, 333, 328, 850, 852, 854, 320, 325, 856, 315, 310, 305, 300, 287, 858, 284, 281, 278, 268, 271, 265, 262, 256, 250, 245, 860, 237, 231, 223, 862, 864, 866, 868, 215, 212, 870, 206, 872, 198, 190, 182, 174, 166, 874, 442, 387, 384]] #[{ accessFlags := 2, nameIndex := 5, descriptorIndex := 6, attributes := #[] }, { accessFlags := 9, nameIndex := 646, descriptorIndex := 647, attributes := #[] }] 33 2 #[] #[{ accessFlags := 26, nameIndex := 500, descriptorIndex := 501, attributes := #[] }, { accessFlags := 26, nameIndex := 504, descriptorIndex := 501, attributes := #[] }, { accessFlags := 26, nameIndex := 506, descriptorIndex := 501, attributes := #[] }, { accessFlags := 26, nameIndex := 508, descriptorIndex := 501, attributes := #[] }, { accessFlags := 26, nameIndex := 510, descriptorIndex := 501, attributes := #[] }, { accessFlags := 26, nameIndex := 512, descriptorIndex := 501, attributes := #[] }, { accessFlags := 26, nameIndex := 514, descriptorIndex := 501, attributes := #[] }, { accessFlags := 26, nameIndex := 516, descriptorIndex := 501, attributes := #[] }, { accessFlags := 10, nameIndex := 84, descriptorIndex := 85, attributes := #[] }, { accessFlags := 25, nameIndex := 362, descriptorIndex := 363, attributes := #[] }, { accessFlags := 25, nameIndex := 370, descriptorIndex := 371, attributes := #[] }, { accessFlags := 25, nameIndex := 374, descriptorIndex := 375, attributes := #[] }])
  fields := #[{ name := "BINARYSEARCH_THRESHOLD", type := .int, accessFlags := 26, slot := 0, constantValue := 0 }, { name := "REVERSE_THRESHOLD", type := .int, accessFlags := 26, slot := 1, constantValue := 0 }, { name := "SHUFFLE_THRESHOLD", type := .int, accessFlags := 26, slot := 2, constantValue := 0 }, { name := "FILL_THRESHOLD", type := .int, accessFlags := 26, slot := 3, constantValue := 0 }, { name := "ROTATE_THRESHOLD", type := .int, accessFlags := 26, slot := 4, constantValue := 0 }, { name := "COPY_THRESHOLD", type := .int, accessFlags := 26, slot := 5, constantValue := 0 }, { name := "REPLACEALL_THRESHOLD", type := .int, accessFlags := 26, slot := 6, constantValue := 0 }, { name := "INDEXOFSUBLIST_THRESHOLD", type := .int, accessFlags := 26, slot := 7, constantValue := 0 }, { name := "r", type := (.object "java/util/Random"), accessFlags := 10, slot := 8, constantValue := 0 }, { name := "EMPTY_SET", type := (.object "java/util/Set"), accessFlags := 25, slot := 9, constantValue := 0 }, { name := "EMPTY_LIST", type := (.object "java/util/List"), accessFlags := 25, slot := 10, constantValue := 0 }, { name := "EMPTY_MAP", type := (.object "java/util/Map"), accessFlags := 25, slot := 11, constantValue := 0 }]
  methods := #[k18m0, k18m1]
  instanceTypes := #[]
  staticTypes := #[.int, .int, .int, .int, .int, .int, .int, .int, (.object "java/util/Random"), (.object "java/util/Set"), (.object "java/util/List"), (.object "java/util/Map")]
  resolved := Array.replicate 933 none
  statics := none }

def pool19 : Array CpInfo := pool [(1, .methodref 2 3), (0, .class_ 4), (0, .nameAndType 5 6), (0, u "java/lang/Object"), (0, u "<init>"), (0, u "()V"), (3, .fieldref 11 12), (0, .class_ 13), (0, .nameAndType 14 15), (0, u "java/util/Collections$UnmodifiableCollection"), (0, u "c"), (0, u "Ljava/util/Collection;"), (1, .class_ 19), (1, u "java/util/Collection"), (51, .class_ 72), (0, u "java/io/Serializable"), (0, u "serialVersionUID"), (0, u "J"), (5, u "(Ljava/util/Collection;)V"), (51, .class_ 133), (0, u "java/util/Collections")] 2

def k19c0 : Code := { maxStack := 2, maxLocals := 2, code := jdk_119_method_1_code, exceptionTable := #[], attributes := #[] }
def k19m0 : Method := { name := "<init>", desc := "(Ljava/util/Collection;)V", sig := { parameters := [(.object "java/util/Collection")], returnType := none }, accessFlags := 0, code := some k19c0 }
/-- java/util/Collections$UnmodifiableCollection -/
def k19 : Class := { plain "java/util/Collections$UnmodifiableCollection" (some 0) with
  accessFlags := 32
  interfaces := #[4, 11]
  cf := some (fileOf pool19 11 #[.nestHost 132] #[{ accessFlags := 0, nameIndex := 5, descriptorIndex := 80, attributes := #[] }] 32 2 #[17, 71] #[{ accessFlags := 26, nameIndex := 73, descriptorIndex := 74, attributes := #[] }, { accessFlags := 16, nameIndex := 14, descriptorIndex := 15, attributes := #[] }])
  fields := #[{ name := "serialVersionUID", type := .long, accessFlags := 26, slot := 0, constantValue := 0 }, { name := "c", type := (.object "java/util/Collection"), accessFlags := 16, slot := 0, constantValue := 0 }]
  methods := #[k19m0]
  instanceTypes := #[(.object "java/util/Collection")]
  staticTypes := #[.long]
  resolved := Array.replicate 136 none
  statics := none }

def pool20 : Array CpInfo := pool [(1, .methodref 2 3), (0, .class_ 4), (0, .nameAndType 5 6), (0, u "java/util/Collections$UnmodifiableCollection"), (0, u "<init>"), (0, u "(Ljava/util/Collection;)V"), (0, .fieldref 8 9), (0, .class_ 10), (0, .nameAndType 11 12), (0, u "java/util/Collections$UnmodifiableList"), (0, u "list"), (0, u "Ljava/util/List;"), (1, .class_ 16), (1, u "java/util/List"), (37, u "(Ljava/util/List;)V"), (5, u "serialVersionUID"), (0, u "J"), (59, .class_ 122), (0, u "java/util/Collections")] 4

def k20c0 : Code := { maxStack := 2, maxLocals := 2, code := jdk_120_method_1_code, exceptionTable := #[], attributes := #[] }
def k20m0 : Method := { name := "<init>", desc := "(Ljava/util/List;)V", sig := { parameters := [(.object "java/util/List")], returnType := none }, accessFlags := 0, code := some k20c0 }
/-- java/util/Collections$UnmodifiableList -/
def k20 : Class := { plain "java/util/Collections$UnmodifiableList" (some 19) with
  accessFlags := 32
  interfaces := #[7]
  cf := some (fileOf pool20 8 #[.nestHost 121] #[{ accessFlags := 0, nameIndex := 5, descriptorIndex := 54, attributes := #[] }] 32 2 #[14] #[{ accessFlags := 26, nameIndex := 60, descriptorIndex := 61, attributes := #[] }, { accessFlags := 16, nameIndex := 11, descriptorIndex := 12, attributes := #[] }])
  fields := #[{ name := "serialVersionUID", type := .long, accessFlags := 26, slot := 0, constantValue := 0 }, { name := "list", type := (.object "java/util/List"), accessFlags := 16, slot := 1, constantValue := 0 }]
  methods := #[k20m0]
  instanceTypes := #[(.object "java/util/Collection"), (.object "java/util/List")]
  staticTypes := #[.long]
  resolved := Array.replicate 127 none
  mirror := some 3
  statics := none }

def pool21 : Array CpInfo := pool [(1, .methodref 2 3), (0, .class_ 4), (0, .nameAndType 5 6), (0, u "java/util/Collections$UnmodifiableList"), (0, u "<init>"), (0, u "(Ljava/util/List;)V"), (0, .class_ 8), (0, u "java/util/Collections$UnmodifiableRandomAccessList"), (11, .class_ 21), (0, u "java/util/RandomAccess"), (0, u "serialVersionUID"), (0, u "J"), (23, .class_ 48), (0, u "java/util/Collections")] 3

def k21c0 : Code := { maxStack := 2, maxLocals := 2, code := jdk_121_method_1_code, exceptionTable := #[], attributes := #[] }
def k21m0 : Method := { name := "<init>", desc := "(Ljava/util/List;)V", sig := { parameters := [(.object "java/util/List")], returnType := none }, accessFlags := 0, code := some k21c0 }
/-- java/util/Collections$UnmodifiableRandomAccessList -/
def k21 : Class := { plain "java/util/Collections$UnmodifiableRandomAccessList" (some 20) with
  accessFlags := 32
  interfaces := #[9]
  cf := some (fileOf pool21 7 #[.nestHost 47] #[{ accessFlags := 0, nameIndex := 5, descriptorIndex := 6, attributes := #[] }] 32 2 #[20] #[{ accessFlags := 26, nameIndex := 22, descriptorIndex := 23, attributes := #[] }])
  fields := #[{ name := "serialVersionUID", type := .long, accessFlags := 26, slot := 0, constantValue := 0 }]
  methods := #[k21m0]
  instanceTypes := #[(.object "java/util/Collection"), (.object "java/util/List")]
  staticTypes := #[.long]
  resolved := Array.replicate 52 none
  mirror := some 4
  statics := none }

def pool22 : Array CpInfo := pool [(1, u "java/lang/Class"), (0, .class_ 1), (0, u "java/lang/Object"), (0, .class_ 3)] 0

/-- java/lang/Class -/
def k22 : Class := { plain "java/lang/Class" (some 0) with
  accessFlags := 49
  interfaces := #[]
  cf := some (fileOf pool22 2 #[] #[] 49 4 #[] #[])
  fields := #[]
  methods := #[]
  instanceTypes := #[]
  staticTypes := #[]
  resolved := Array.replicate 5 none
  statics := none }

/-- the primitive byte -/
def k23 : Class := { plain "byte" none with kind := .primitive 'B', accessFlags := 0x411 }
/-- [B -/
def k24 : Class := { plain "[B" (some 0) with kind := .array 23 .byte, interfaces := #[10, 11], accessFlags := 1041 }

/-- the primitive int -/
def k25 : Class := { plain "int" none with kind := .primitive 'I', accessFlags := 0x411 }
/-- [I -/
def k26 : Class := { plain "[I" (some 0) with kind := .array 25 .int, interfaces := #[10, 11], accessFlags := 1041 }

/-- [Ljava/lang/Object; -/
def k27 : Class := { plain "[Ljava/lang/Object;" (some 0) with kind := .array 0 (.object "java/lang/Object"), interfaces := #[10, 11], accessFlags := 1041, mirror := some 1 }

def heap : Heap := #[{ cls := 12, slots := #[.long 0, .int 0, .ref 5, .ref 6], vm := .statics 12 },
  { cls := 22, slots := #[], vm := .mirror 27 },
  { cls := 22, slots := #[], vm := .mirror 12 },
  { cls := 22, slots := #[], vm := .mirror 20 },
  { cls := 22, slots := #[], vm := .mirror 21 },
  { cls := 27, slots := #[], vm := .none },
  { cls := 27, slots := #[], vm := .none }]
def classes : Array Class := #[k0, k1, k2, k3, k4, k5, k6, k7, k8, k9, k10, k11, k12, k13, k14, k15, k16, k17, k18, k19, k20, k21, k22, k23, k24, k25, k26, k27]
def interned : List (Array UInt16 × Addr) := []
def slotsUsed : Nat := 4
def theMethod : MethodId := ⟨1, 2⟩
def args0 : Array Value := #[.int 1, .int 2, .int 3, .int 4, .int 5]
def aboutOver (below : List Frame) : State where
  vm := { classes := classes, interned := interned.toArray }
  heap := heap
  slotsUsed := slotsUsed
  threads := #[{ frames := .invoking theMethod args0 :: below }]
def below0 : List Frame := [.native { method := ⟨0, 0⟩, args := #[] }]
def about1 : State := aboutOver below0
def p0 : Program := .bare "" "" ""
def e0 : Env := launch0.env 0 0 0
theorem w_frames : about1.frames = Frame.invoking theMethod args0 :: below0 := rfl
set_option maxRecDepth 65536 in
theorem w_args : argsFit about1.vm theMethod args0 = true := by decide +kernel
set_option maxRecDepth 65536 in
theorem w_heap : heapFits about1 = true := by decide +kernel
set_option maxRecDepth 65536 in
theorem w_runnable : about1.curStatus? = some .runnable := by decide +kernel
set_option maxRecDepth 65536 in
theorem w_alone : about1.alone = true := by decide +kernel
set_option maxRecDepth 65536 in
theorem w_named : about1.methodNamed? x = some theMethod := by decide +kernel
set_option maxRecDepth 65536 in
theorem w_hears : about1.hears theMethod below0 = true := by decide +kernel
set_option maxRecDepth 65536 in
theorem w_ripe : about1.ripe theMethod args0 below0 = true := by decide +kernel
theorem w_running : about1.status = .running := rfl
set_option maxRecDepth 65536 in
theorem w_room : about1.hasRoom e0.platform room_1 = true :=
  launch0.hasRoom_least _ room_1 (by decide +kernel) (by decide +kernel) (by decide +kernel) (by decide +kernel) (by decide +kernel) (by decide +kernel)
theorem allAtoms_all (ts : List Jvm.Cond) (a : Array Jvm.Value) (st : Jvm.State) : (allAtoms ts).before a st = ts.all (fun c => c.before a st) := by
  induction ts with
  | nil => rfl
  | cons c t ih =>
    show (Jvm.Cond.and c (allAtoms t)).before a st = _
    rw [Jvm.Cond.before_and, ih, List.all_cons]
def words1 : List Jvm.Cond := Jvm.Cond.code x code maxLocals ret :: tables_1
/-- a 'code' word, met by the world's own term for the bytes: nothing is compared byte by byte -/
theorem code_word {y : MethodName} {bytes : ByteArray} {mx : Nat} {rt : Option FieldType} {a : Array Value} {s : State} {m : MethodId} {meth : Method} {c : Code} (h1 : s.methodNamed? y = some m) (h2 : s.vm.method? m = some meth) (h3 : meth.code = some c) (h4 : c.code = bytes)
    (h5 : (c.maxLocals == mx && c.exceptionTable.isEmpty && decide (c.maxStack ≤ mostOperands) && decide (meth.sig.returnType = rt) && !meth.locks && decide (parseMethodDescriptor y.desc = some meth.sig)) = true) : (Jvm.Cond.code y bytes mx rt).before a s = true := by
  simp only [Bool.and_eq_true, beq_iff_eq, Bool.not_eq_true', decide_eq_true_eq] at h5
  obtain ⟨⟨⟨⟨⟨g1, g2⟩, g3⟩, g4⟩, g5⟩, g6⟩ := h5
  simp [Cond.before, Cond.holds, Cond.value, h1, h2, h3, h4, g1, g2, g3, g4, g5, g6]
def isCode : Jvm.Cond → Bool
  | .code _ _ _ _ => true
  | _ => false
theorem all_split {L : List Jvm.Cond} {P : Jvm.Cond → Bool} (h1 : L.all (fun c => isCode c || P c) = true) (h2 : ∀ c ∈ L.filter isCode, P c = true) : L.all P = true := by
  refine List.all_eq_true.mpr fun c hc => ?_
  have h := List.all_eq_true.mp h1 c hc
  rcases Bool.eq_false_or_eq_true (isCode c) with hi | hi
  · exact h2 c (List.mem_filter.mpr ⟨hc, hi⟩)
  · simpa [hi] using h
set_option maxRecDepth 65536 in
theorem w_c0 : (Jvm.Cond.code x code maxLocals ret).before args0 about1 = true := code_word (m := ⟨1, 2⟩) (meth := k1m2) (c := k1c2) (by decide +kernel) rfl rfl rfl (by decide +kernel)
set_option maxRecDepth 65536 in
theorem w_c1 : (Jvm.Cond.code ({ cls := "java/util/ArrayList", name := "<init>", desc := "()V" } : Jvm.MethodName) jdk_38_method_2_code (1 : Nat) (Option.none : Option Jvm.ClassFile.FieldType)).before args0 about1 = true := code_word (m := ⟨12, 0⟩) (meth := k12m0) (c := k12c0) (by decide +kernel) rfl rfl rfl (by decide +kernel)
set_option maxRecDepth 65536 in
theorem w_c2 : (Jvm.Cond.code ({ cls := "java/util/AbstractList", name := "<init>", desc := "()V" } : Jvm.MethodName) jdk_39_method_1_code (1 : Nat) (Option.none : Option Jvm.ClassFile.FieldType)).before args0 about1 = true := code_word (m := ⟨8, 0⟩) (meth := k8m0) (c := k8c0) (by decide +kernel) rfl rfl rfl (by decide +kernel)
set_option maxRecDepth 65536 in
theorem w_c3 : (Jvm.Cond.code ({ cls := "java/util/AbstractCollection", name := "<init>", desc := "()V" } : Jvm.MethodName) jdk_22_method_1_code (1 : Nat) (Option.none : Option Jvm.ClassFile.FieldType)).before args0 about1 = true := code_word (m := ⟨5, 0⟩) (meth := k5m0) (c := k5c0) (by decide +kernel) rfl rfl rfl (by decide +kernel)
set_option maxRecDepth 65536 in
theorem w_c4 : (Jvm.Cond.code ({ cls := "java/lang/Object", name := "<init>", desc := "()V" } : Jvm.MethodName) object_method_1_code (1 : Nat) (Option.none : Option Jvm.ClassFile.FieldType)).before args0 about1 = true := code_word (m := ⟨0, 0⟩) (meth := k0m0) (c := k0c0) (by decide +kernel) rfl rfl rfl (by decide +kernel)
set_option maxRecDepth 65536 in
theorem w_c5 : (Jvm.Cond.code ({ cls := "com/example/kinetic_city/kineticcity/engine/Network", name := "<init>", desc := "(IIILjava/util/List;)V" } : Jvm.MethodName) prog_17_method_1_code (9 : Nat) (Option.none : Option Jvm.ClassFile.FieldType)).before args0 about1 = true := code_word (m := ⟨2, 0⟩) (meth := k2m0) (c := k2c0) (by decide +kernel) rfl rfl rfl (by decide +kernel)
set_option maxRecDepth 65536 in
theorem w_c6 : (Jvm.Cond.code ({ cls := "java/util/ArrayList", name := "iterator", desc := "()Ljava/util/Iterator;" } : Jvm.MethodName) jdk_38_method_55_code (1 : Nat) (Option.some (Jvm.ClassFile.FieldType.object "java/util/Iterator"))).before args0 about1 = true := code_word (m := ⟨12, 4⟩) (meth := k12m4) (c := k12c4) (by decide +kernel) rfl rfl rfl (by decide +kernel)
set_option maxRecDepth 65536 in
theorem w_c7 : (Jvm.Cond.code ({ cls := "java/util/ArrayList$Itr", name := "<init>", desc := "(Ljava/util/ArrayList;)V" } : Jvm.MethodName) jdk_49_method_1_code (2 : Nat) (Option.none : Option Jvm.ClassFile.FieldType)).before args0 about1 = true := code_word (m := ⟨14, 0⟩) (meth := k14m0) (c := k14c0) (by decide +kernel) rfl rfl rfl (by decide +kernel)
set_option maxRecDepth 65536 in
theorem w_c8 : (Jvm.Cond.code ({ cls := "java/util/ArrayList$Itr", name := "hasNext", desc := "()Z" } : Jvm.MethodName) jdk_49_method_2_code (1 : Nat) (Option.some Jvm.ClassFile.FieldType.boolean)).before args0 about1 = true := code_word (m := ⟨14, 1⟩) (meth := k14m1) (c := k14c1) (by decide +kernel) rfl rfl rfl (by decide +kernel)
set_option maxRecDepth 65536 in
theorem w_c9 : (Jvm.Cond.code ({ cls := "java/util/ArrayList", name := "<init>", desc := "(Ljava/util/Collection;)V" } : Jvm.MethodName) jdk_38_method_3_code (3 : Nat) (Option.none : Option Jvm.ClassFile.FieldType)).before args0 about1 = true := code_word (m := ⟨12, 1⟩) (meth := k12m1) (c := k12c1) (by decide +kernel) rfl rfl rfl (by decide +kernel)
set_option maxRecDepth 65536 in
theorem w_c10 : (Jvm.Cond.code ({ cls := "java/util/ArrayList", name := "toArray", desc := "()[Ljava/lang/Object;" } : Jvm.MethodName) jdk_38_method_16_code (1 : Nat) (Option.some (Jvm.ClassFile.FieldType.array (Jvm.ClassFile.FieldType.object "java/lang/Object")))).before args0 about1 = true := code_word (m := ⟨12, 3⟩) (meth := k12m3) (c := k12c3) (by decide +kernel) rfl rfl rfl (by decide +kernel)
set_option maxRecDepth 65536 in
theorem w_c11 : (Jvm.Cond.code ({ cls := "java/util/Arrays", name := "copyOf", desc := "([Ljava/lang/Object;I)[Ljava/lang/Object;" } : Jvm.MethodName) jdk_65_method_119_code (2 : Nat) (Option.some (Jvm.ClassFile.FieldType.array (Jvm.ClassFile.FieldType.object "java/lang/Object")))).before args0 about1 = true := code_word (m := ⟨15, 1⟩) (meth := k15m1) (c := k15c1) (by decide +kernel) rfl rfl rfl (by decide +kernel)
set_option maxRecDepth 65536 in
theorem w_c12 : (Jvm.Cond.code ({ cls := "java/util/Arrays", name := "copyOf", desc := "([Ljava/lang/Object;ILjava/lang/Class;)[Ljava/lang/Object;" } : Jvm.MethodName) jdk_65_method_120_code (4 : Nat) (Option.some (Jvm.ClassFile.FieldType.array (Jvm.ClassFile.FieldType.object "java/lang/Object")))).before args0 about1 = true := code_word (m := ⟨15, 2⟩) (meth := k15m2) (c := k15c2) (by decide +kernel) rfl rfl rfl (by decide +kernel)
set_option maxRecDepth 65536 in
theorem w_c13 : (Jvm.Cond.code ({ cls := "java/lang/Math", name := "min", desc := "(II)I" } : Jvm.MethodName) jdk_29_method_69_code (2 : Nat) (Option.some Jvm.ClassFile.FieldType.int)).before args0 about1 = true := code_word (m := ⟨16, 1⟩) (meth := k16m1) (c := k16c1) (by decide +kernel) rfl rfl rfl (by decide +kernel)
set_option maxRecDepth 65536 in
theorem w_c14 : (Jvm.Cond.code ({ cls := "java/util/Collections", name := "unmodifiableList", desc := "(Ljava/util/List;)Ljava/util/List;" } : Jvm.MethodName) jdk_79_method_35_code (1 : Nat) (Option.some (Jvm.ClassFile.FieldType.object "java/util/List"))).before args0 about1 = true := code_word (m := ⟨18, 1⟩) (meth := k18m1) (c := k18c1) (by decide +kernel) rfl rfl rfl (by decide +kernel)
set_option maxRecDepth 65536 in
theorem w_c15 : (Jvm.Cond.code ({ cls := "java/util/Collections$UnmodifiableRandomAccessList", name := "<init>", desc := "(Ljava/util/List;)V" } : Jvm.MethodName) jdk_121_method_1_code (2 : Nat) (Option.none : Option Jvm.ClassFile.FieldType)).before args0 about1 = true := code_word (m := ⟨21, 0⟩) (meth := k21m0) (c := k21c0) (by decide +kernel) rfl rfl rfl (by decide +kernel)
set_option maxRecDepth 65536 in
theorem w_c16 : (Jvm.Cond.code ({ cls := "java/util/Collections$UnmodifiableList", name := "<init>", desc := "(Ljava/util/List;)V" } : Jvm.MethodName) jdk_120_method_1_code (2 : Nat) (Option.none : Option Jvm.ClassFile.FieldType)).before args0 about1 = true := code_word (m := ⟨20, 0⟩) (meth := k20m0) (c := k20c0) (by decide +kernel) rfl rfl rfl (by decide +kernel)
set_option maxRecDepth 65536 in
theorem w_c17 : (Jvm.Cond.code ({ cls := "java/util/Collections$UnmodifiableCollection", name := "<init>", desc := "(Ljava/util/Collection;)V" } : Jvm.MethodName) jdk_119_method_1_code (2 : Nat) (Option.none : Option Jvm.ClassFile.FieldType)).before args0 about1 = true := code_word (m := ⟨19, 0⟩) (meth := k19m0) (c := k19c0) (by decide +kernel) rfl rfl rfl (by decide +kernel)
set_option maxRecDepth 65536 in
theorem w_c18 : (Jvm.Cond.code ({ cls := "java/util/ArrayList", name := "size", desc := "()I" } : Jvm.MethodName) jdk_38_method_8_code (1 : Nat) (Option.some Jvm.ClassFile.FieldType.int)).before args0 about1 = true := code_word (m := ⟨12, 2⟩) (meth := k12m2) (c := k12c2) (by decide +kernel) rfl rfl rfl (by decide +kernel)
set_option maxRecDepth 65536 in
theorem w_c19 : (Jvm.Cond.code ({ cls := "com/example/kinetic_city/kineticcity/engine/Network", name := "isZone", desc := "(I)Z" } : Jvm.MethodName) prog_17_method_6_code (2 : Nat) (Option.some Jvm.ClassFile.FieldType.boolean)).before args0 about1 = true := code_word (m := ⟨2, 1⟩) (meth := k2m1) (c := k2c1) (by decide +kernel) rfl rfl rfl (by decide +kernel)
set_option maxRecDepth 65536 in
theorem w_c20 : (Jvm.Cond.code ({ cls := "com/example/kinetic_city/kineticcity/engine/NetworkIsZonePinLaw", name := "ref", desc := "(II)Z" } : Jvm.MethodName) method_2_code (4 : Nat) (Option.some Jvm.ClassFile.FieldType.boolean)).before args0 about1 = true := code_word (m := ⟨1, 1⟩) (meth := k1m1) (c := k1c1) (by decide +kernel) rfl rfl rfl (by decide +kernel)
def codes1 : List Jvm.Cond := [Jvm.Cond.code x code maxLocals ret, Jvm.Cond.code ({ cls := "java/util/ArrayList", name := "<init>", desc := "()V" } : Jvm.MethodName) jdk_38_method_2_code (1 : Nat) (Option.none : Option Jvm.ClassFile.FieldType), Jvm.Cond.code ({ cls := "java/util/AbstractList", name := "<init>", desc := "()V" } : Jvm.MethodName) jdk_39_method_1_code (1 : Nat) (Option.none : Option Jvm.ClassFile.FieldType), Jvm.Cond.code ({ cls := "java/util/AbstractCollection", name := "<init>", desc := "()V" } : Jvm.MethodName) jdk_22_method_1_code (1 : Nat) (Option.none : Option Jvm.ClassFile.FieldType), Jvm.Cond.code ({ cls := "java/lang/Object", name := "<init>", desc := "()V" } : Jvm.MethodName) object_method_1_code (1 : Nat) (Option.none : Option Jvm.ClassFile.FieldType), Jvm.Cond.code ({ cls := "com/example/kinetic_city/kineticcity/engine/Network", name := "<init>", desc := "(IIILjava/util/List;)V" } : Jvm.MethodName) prog_17_method_1_code (9 : Nat) (Option.none : Option Jvm.ClassFile.FieldType), Jvm.Cond.code ({ cls := "java/util/ArrayList", name := "iterator", desc := "()Ljava/util/Iterator;" } : Jvm.MethodName) jdk_38_method_55_code (1 : Nat) (Option.some (Jvm.ClassFile.FieldType.object "java/util/Iterator")), Jvm.Cond.code ({ cls := "java/util/ArrayList$Itr", name := "<init>", desc := "(Ljava/util/ArrayList;)V" } : Jvm.MethodName) jdk_49_method_1_code (2 : Nat) (Option.none : Option Jvm.ClassFile.FieldType), Jvm.Cond.code ({ cls := "java/util/ArrayList$Itr", name := "hasNext", desc := "()Z" } : Jvm.MethodName) jdk_49_method_2_code (1 : Nat) (Option.some Jvm.ClassFile.FieldType.boolean), Jvm.Cond.code ({ cls := "java/util/ArrayList", name := "<init>", desc := "(Ljava/util/Collection;)V" } : Jvm.MethodName) jdk_38_method_3_code (3 : Nat) (Option.none : Option Jvm.ClassFile.FieldType), Jvm.Cond.code ({ cls := "java/util/ArrayList", name := "toArray", desc := "()[Ljava/lang/Object;" } : Jvm.MethodName) jdk_38_method_16_code (1 : Nat) (Option.some (Jvm.ClassFile.FieldType.array (Jvm.ClassFile.FieldType.object "java/lang/Object"))), Jvm.Cond.code ({ cls := "java/util/Arrays", name := "copyOf", desc := "([Ljava/lang/Object;I)[Ljava/lang/Object;" } : Jvm.MethodName) jdk_65_method_119_code (2 : Nat) (Option.some (Jvm.ClassFile.FieldType.array (Jvm.ClassFile.FieldType.object "java/lang/Object"))), Jvm.Cond.code ({ cls := "java/util/Arrays", name := "copyOf", desc := "([Ljava/lang/Object;ILjava/lang/Class;)[Ljava/lang/Object;" } : Jvm.MethodName) jdk_65_method_120_code (4 : Nat) (Option.some (Jvm.ClassFile.FieldType.array (Jvm.ClassFile.FieldType.object "java/lang/Object"))), Jvm.Cond.code ({ cls := "java/lang/Math", name := "min", desc := "(II)I" } : Jvm.MethodName) jdk_29_method_69_code (2 : Nat) (Option.some Jvm.ClassFile.FieldType.int), Jvm.Cond.code ({ cls := "java/util/Collections", name := "unmodifiableList", desc := "(Ljava/util/List;)Ljava/util/List;" } : Jvm.MethodName) jdk_79_method_35_code (1 : Nat) (Option.some (Jvm.ClassFile.FieldType.object "java/util/List")), Jvm.Cond.code ({ cls := "java/util/Collections$UnmodifiableRandomAccessList", name := "<init>", desc := "(Ljava/util/List;)V" } : Jvm.MethodName) jdk_121_method_1_code (2 : Nat) (Option.none : Option Jvm.ClassFile.FieldType), Jvm.Cond.code ({ cls := "java/util/Collections$UnmodifiableList", name := "<init>", desc := "(Ljava/util/List;)V" } : Jvm.MethodName) jdk_120_method_1_code (2 : Nat) (Option.none : Option Jvm.ClassFile.FieldType), Jvm.Cond.code ({ cls := "java/util/Collections$UnmodifiableCollection", name := "<init>", desc := "(Ljava/util/Collection;)V" } : Jvm.MethodName) jdk_119_method_1_code (2 : Nat) (Option.none : Option Jvm.ClassFile.FieldType), Jvm.Cond.code ({ cls := "java/util/ArrayList", name := "size", desc := "()I" } : Jvm.MethodName) jdk_38_method_8_code (1 : Nat) (Option.some Jvm.ClassFile.FieldType.int), Jvm.Cond.code ({ cls := "com/example/kinetic_city/kineticcity/engine/Network", name := "isZone", desc := "(I)Z" } : Jvm.MethodName) prog_17_method_6_code (2 : Nat) (Option.some Jvm.ClassFile.FieldType.boolean), Jvm.Cond.code ({ cls := "com/example/kinetic_city/kineticcity/engine/NetworkIsZonePinLaw", name := "ref", desc := "(II)Z" } : Jvm.MethodName) method_2_code (4 : Nat) (Option.some Jvm.ClassFile.FieldType.boolean)]
set_option maxRecDepth 65536 in
theorem codes_eq : words1.filter isCode = codes1 := rfl
theorem w_codes : ∀ c ∈ words1.filter isCode, c.before args0 about1 = true := by
  rw [codes_eq]
  intro c hc
  simp only [codes1, List.mem_cons, List.not_mem_nil, or_false] at hc
  rcases hc with rfl | rfl | rfl | rfl | rfl | rfl | rfl | rfl | rfl | rfl | rfl | rfl | rfl | rfl | rfl | rfl | rfl | rfl | rfl | rfl | rfl
  · exact w_c0
  · exact w_c1
  · exact w_c2
  · exact w_c3
  · exact w_c4
  · exact w_c5
  · exact w_c6
  · exact w_c7
  · exact w_c8
  · exact w_c9
  · exact w_c10
  · exact w_c11
  · exact w_c12
  · exact w_c13
  · exact w_c14
  · exact w_c15
  · exact w_c16
  · exact w_c17
  · exact w_c18
  · exact w_c19
  · exact w_c20
set_option maxRecDepth 65536 in
theorem w_t1 : (words1.take 24).all (fun c => isCode c || c.before args0 about1) = true := by decide +kernel
set_option maxRecDepth 65536 in
theorem w_t2 : ((words1.drop 24).take 24).all (fun c => isCode c || c.before args0 about1) = true := by decide +kernel
set_option maxRecDepth 65536 in
theorem w_t3 : (((words1.drop 24).drop 24).take 24).all (fun c => isCode c || c.before args0 about1) = true := by decide +kernel
set_option maxRecDepth 65536 in
theorem w_t4 : ((((words1.drop 24).drop 24).drop 24).take 24).all (fun c => isCode c || c.before args0 about1) = true := by decide +kernel
set_option maxRecDepth 65536 in
theorem w_t5 : (((((words1.drop 24).drop 24).drop 24).drop 24).take 24).all (fun c => isCode c || c.before args0 about1) = true := by decide +kernel
set_option maxRecDepth 65536 in
theorem w_t6 : ((((((words1.drop 24).drop 24).drop 24).drop 24).drop 24).take 24).all (fun c => isCode c || c.before args0 about1) = true := by decide +kernel
set_option maxRecDepth 65536 in
theorem w_t7 : (((((((words1.drop 24).drop 24).drop 24).drop 24).drop 24).drop 24).take 24).all (fun c => isCode c || c.before args0 about1) = true := by decide +kernel
set_option maxRecDepth 65536 in
theorem w_t8 : (((((((words1.drop 24).drop 24).drop 24).drop 24).drop 24).drop 24).drop 24).all (fun c => isCode c || c.before args0 about1) = true := by decide +kernel
theorem w_tables : (allAtoms (Jvm.Cond.code x code maxLocals ret :: tables_1)).before args0 about1 = true := by
  rw [allAtoms_all]
  show words1.all (fun c => c.before args0 about1) = true
  refine all_split ?_ w_codes
  rw [← List.take_append_drop 24 words1, List.all_append, w_t1, ← List.take_append_drop 24 (words1.drop 24), List.all_append, w_t2, ← List.take_append_drop 24 ((words1.drop 24).drop 24), List.all_append, w_t3, ← List.take_append_drop 24 (((words1.drop 24).drop 24).drop 24), List.all_append, w_t4, ← List.take_append_drop 24 ((((words1.drop 24).drop 24).drop 24).drop 24), List.all_append, w_t5, ← List.take_append_drop 24 (((((words1.drop 24).drop 24).drop 24).drop 24).drop 24), List.all_append, w_t6, ← List.take_append_drop 24 ((((((words1.drop 24).drop 24).drop 24).drop 24).drop 24).drop 24), List.all_append, w_t7, w_t8]
  rfl
set_option maxRecDepth 65536 in
theorem w_rest : rest_1_c.before args0 about1 = true := by decide +kernel
set_option maxRecDepth 65536 in
theorem w_case : (Jvm.Cond.and given_1 narrow_1).before args0 about1 = true := by decide +kernel
theorem w_applies : (headSpec (Jvm.Cond.code x code maxLocals ret :: tables_1) room_1).applies x e0.platform about1 = true :=
  (Spec.applies_iff w_frames).mpr ⟨w_running, w_runnable, w_alone, w_named, w_hears, w_ripe, w_room, w_tables⟩
theorem atStart : AtStart classFile x code maxLocals ret World_1 tables_1 room_1 Calls_1 rest_1 Pre_1 launch0 p0 e0 about1 theMethod args0 below0 :=
  ⟨lists_1, trivial, launch0.admits_env _ _ _, launch0.least_env, fairChoices_fair.cas, fairChoices_fair.clock, w_frames, w_args, w_heap, w_applies, ⟨⟨27, k27, 1, by decide +kernel, rfl, rfl, _, rfl, rfl⟩, ⟨⟨12, k12, 2, by decide +kernel, rfl, rfl, _, rfl, rfl⟩, ⟨⟨20, k20, 3, by decide +kernel, rfl, rfl, _, rfl, rfl⟩, ⟨⟨21, k21, 4, by decide +kernel, rfl, rfl, _, rfl, rfl⟩, trivial⟩⟩⟩⟩, w_rest, w_case⟩
end start1
theorem witness_1 : WitnessClaimed_1 := ⟨start1.p0, start1.e0, start1.about1, start1.theMethod, start1.args0, start1.below0, start1.atStart⟩
end Jvm.Pilot.@@N@@
